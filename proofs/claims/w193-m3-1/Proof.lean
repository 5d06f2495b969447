import JvmDerived
import JvmDerived.Pilot.@@N@@Statement
import JvmDerived.Pilot.@@N@@Code
set_option linter.unusedVariables false
set_option linter.unusedSimpArgs false
namespace Jvm.RoadKit
open Sem ClassFile Op Lib Jvm.Stand Jvm.Free Jvm.LawKit
section Own
variable {p : Program} {l : Launch} {e : Env} {R : Room} {s : State} {m : MethodId} {args : Array Value} {below : List Frame} {meth : Method} {c : Code} {T T' : State} {locs : List Loc} {cells slots rc rs : Nat} {Q : Option Value → Heap → List Loc → Prop} {g g' : JFrame}
/-- from the state T with the top frame g the run ends in a return of which Q is true -/
def OwnGo (p : Program) (e : Env) (below : List Frame) (s : State) (rc rs : Nat) (Q : Option Value → Heap → List Loc → Prop) (T : State) (g : JFrame) : Prop :=
  ∃ (U : State) (o : Outcome), Steps p.tables e below (T.setTop g) U ∧ U.status = .running ∧ Ended U below o ∧ ∃ v L, o = .returned v ∧ Q v U.heap L ∧ FrameEnd s o U L rc rs
theorem OwnGo.st (k : ∀ target, Steps p.tables e below (T'.setTop g') target → Steps p.tables e below (T.setTop g) target) (h : OwnGo p e below s rc rs Q T' g') : OwnGo p e below s rc rs Q T g := by
  obtain ⟨U, o, h1, h2⟩ := h
  exact ⟨U, o, k _ h1, h2⟩
theorem OwnGo.cast (q : g = g') (h : OwnGo p e below s rc rs Q T g') : OwnGo p e below s rc rs Q T g := q ▸ h
theorem OwnGo.ret (X : Stand p l e R s m args below meth c T locs cells slots) (hx : p.tables.exec = Jvm.exec) {pc : Nat} {Ls : Array Slot} {w : Value} {t : FieldType} {i : Instr} {rest : List Value} (hret : meth.sig.returnType = some t) (hlk : meth.locks = false) (hn : narrow t w = w)
    (hi : (i = .ireturn ∧ (t = .int ∨ t = .boolean ∨ t = .byte ∨ t = .char ∨ t = .short) ∧ ∃ z, w = .int z) ∨ (i = .lreturn ∧ t = .long ∧ ∃ z, w = .long z) ∨ (i = .dreturn ∧ t = .double ∧ ∃ z, w = .double z) ∨ (i = .freturn ∧ t = .float ∧ ∃ z, w = .float z) ∨ (i = .areturn ∧ t.isReference = true ∧ w.isRef = true))
    (hd : decode c.code pc = .ok (i, 1)) (hQ : Q (some w) T.heap locs) (hc : cells ≤ rc) (hs : slots ≤ rs) : OwnGo p e below s rc rs Q T (mkF m pc Ls (w :: rest)) := by
  obtain ⟨fs, hr, hrun, hended, hW, hsame⟩ := X.leave (v := some w) (fun h => by rw [hret] at h; cases h) hlk
  exact ⟨_, _, retOut X hx hret hn hi hd hr, hrun, hended, _, _, rfl, hQ, ⟨_, rfl⟩, hW, hsame.mono hc hs⟩
theorem OwnGo.retN (X : Stand p l e R s m args below meth c T locs cells slots) (hx : p.tables.exec = Jvm.exec) {pc : Nat} {Ls : Array Slot} {z : Int32} {t : FieldType} {rest : List Value} (hret : meth.sig.returnType = some t) (hlk : meth.locks = false) (ht : t = .boolean ∨ t = .byte ∨ t = .char ∨ t = .short)
    (hd : decode c.code pc = .ok (.ireturn, 1)) (hQ : Q (some (.int (nar t z))) T.heap locs) (hc : cells ≤ rc) (hs : slots ≤ rs) : OwnGo p e below s rc rs Q T (mkF m pc Ls (.int z :: rest)) := by
  obtain ⟨fs, hr, hrun, hended, hW, hsame⟩ := X.leave (v := some (.int (nar t z))) (fun h => by rw [hret] at h; cases h) hlk
  exact ⟨_, _, Jvm.RoadKit.retN X hx hret ht hd hr, hrun, hended, _, _, rfl, hQ, ⟨_, rfl⟩, hW, hsame.mono hc hs⟩
theorem OwnGo.retV (X : Stand p l e R s m args below meth c T locs cells slots) (hx : p.tables.exec = Jvm.exec) {pc : Nat} {Ls : Array Slot} (hret : meth.sig.returnType = none) (hlk : meth.locks = false)
    (hd : decode c.code pc = .ok (.return_, 1)) (hQ : Q none T.heap locs) (hc : cells ≤ rc) (hs : slots ≤ rs) : OwnGo p e below s rc rs Q T (mkF m pc Ls []) := by
  obtain ⟨fs, hr, hrun, hended, hW, hsame⟩ := X.leave (v := none) (fun _ => rfl) hlk
  exact ⟨_, _, X.returnOut hx hret hd hr, hrun, hended, _, _, rfl, hQ, ⟨_, rfl⟩, hW, hsame.mono hc hs⟩
theorem own_met {y : MethodName} {bytes : ByteArray} {maxL : Nat} {ret : Option FieldType} {ws : List Jvm.Cond} {rm : Room} {Z : State} {as' : Array Value} {h0 : Heap} (hp : plainFor y = true)
    (body : ∀ (p : Program) (e : Env) (s : State) (m : MethodId) (below : List Frame) (meth : Method) (c : Code) (s₁ : State), Stand p l e rm s m as' below meth c s₁ [] 0 0 → p.tables.exec = Jvm.exec → c.code = bytes → c.maxLocals = maxL → meth.sig.returnType = ret → meth.locks = false → s.vm.findClass y.cls = some m.cls → meth.name = y.name → Z.Warmed39 s.vm → s₁.heap = h0 →
      OwnGo p e below s rm.cells rm.slots Q s₁ (entryFrame m as' maxL)) :
    MetFree l y (head1 (Jvm.Cond.code y bytes maxL ret :: ws) rm) (fun a U => a = as' ∧ Z.Warmed39 U.vm ∧ U.heap = h0) (fun _ _ _ _ _ => True) (fun _ U o U' => ∃ v L, o = .returned v ∧ Q v U'.heap L ∧ FrameEnd U o U' L rm.cells rm.slots) := by
  refine MetFree.of_bodySF hp hisR ?_
  intro p e s m args below meth c s₁ Bd hml0 hP hK
  obtain ⟨rfl, hZ, hh⟩ := hP
  exact body p e s m below meth c s₁ (Stand.of_body Bd) Bd.exec Bd.bytes hml0 Bd.returns Bd.notSynchronized (findClass_of_methodNamed Bd.named) (name_of_methodNamed Bd.named Bd.method).1 hZ (by rw [← hh, Bd.state]; rfl)
theorem own_len {Z : State} {h : Heap} {a : Addr} {cl : Cell} {ty : FieldType} {z : Int32} (hZ : Z.Warmed39 s.vm) (q : cl.slots.size.toInt32 = z) (A : Arr Z h a cl ty) (X : Stand p l e R s m args below meth c T locs cells slots) (eT : T.heap = h) (hx : p.tables.exec = Jvm.exec) {rest : List Value}
    (hg : g.method = m) (hst : g.stack = .ref a :: rest) (hd : decode c.code g.pc = .ok (.arraylength, 1)) (target : State) (k : Steps p.tables e below (T.setTop { g with pc := g.pc + 1, stack := .int z :: rest }) target) : Steps p.tables e below (T.setTop g) target := by
  refine X.arraylength hx (by rw [eT]; exact A.1) (State.isArrayOf_alike hZ.alike A.2.1) hg hst hd _ ?_
  rw [q]; exact k
theorem own_eqi {args : Array Value} {first U : State} {o : Option Outcome} {idx : List Nat} {a : Term} {k : Int32} (h : (Jvm.Cond.eq a (.int k)).value args first o U idx = some true) : a.eval args first o idx U = some (.int k) := Cond.eq_int (b := .int k) (by simp only [Cond.holds, h]; rfl) rfl
theorem own_eqv {args : Array Value} {first U : State} {o : Option Outcome} {idx : List Nat} {a b : Term} {v : Value} (h : (Jvm.Cond.eq a b).value args first o U idx = some true) (hb : b.eval args first o idx U = some v) (hv : v.isRef = true) : a.eval args first o idx U = some v := by
  obtain ⟨x, y, h1, h2, k1, k2⟩ := cmp_v (Or.inl h)
  cases h2.symm.trans hb
  have hx : x.isRef = true := by cases x <;> cases v <;> simp [Kin, Value.isRef] at k1 k2 hv ⊢
  rw [h1, gotT (eq_R h1 h2 hx hv) h]
theorem own_lenv {Z : State} {args : Array Value} {t : Term} {a : Addr} {cl : Cell} {ty : FieldType} {z : Int32} (ev : t.eval args Z none [] Z = some (.ref a)) (A : Arr Z Z.heap a cl ty) (h : (Jvm.Cond.eq (.length t) (.int z)).value args Z none Z [] = some true) : cl.slots.size < 2 ^ 31 ∧ cl.slots.size.toInt32 = z := by
  have e := own_eqi h
  have hA := A.fin (Vm.Alike.refl _)
  refine ⟨SBG.length_lt ev hA e, ?_⟩
  obtain ⟨a', c', e1, e2, e3⟩ := Term.length_spec e
  cases ev.symm.trans e1
  cases hA.symm.trans e2
  exact (Value.int.inj e3).symm
theorem own_elem {Z : State} {args : Array Value} {t : Term} {a : Addr} {cl : Cell} {ty : FieldType} {k : Int32} {v : Value} (ev : t.eval args Z none [] Z = some (.ref a)) (A : Arr Z Z.heap a cl ty) (h : (Term.elem t (.int k)).eval args Z none [] Z = some v) : cl.slots[k.toNatClampNeg]? = some v := (elem_in h ev rfl A.1).2
theorem own_narR {w : Value} {t : FieldType} (h : w.isRef = true) (ht : t.isReference = true) : narrow t w = w := by
  cases w <;> simp [Value.isRef] at h <;> cases t <;> simp [FieldType.isReference] at ht <;> rfl
theorem own_selp {y z : MethodName} (hz : (Jvm.Cond.selects z.cls z z).before args s = true) (hcls : z.cls = y.cls) (hpriv : s.PrivateAt y) (hinst : (Jvm.Cond.instanceMethod y).before args s = true) (hy : y.cls ≠ "java/lang/invoke/MethodHandle" ∧ y.cls ≠ "java/lang/invoke/VarHandle") : (Jvm.Cond.selects y.cls y y).before args s = true := by
  obtain ⟨c, r, mz, h1, h2, h3, h4, mk, h5, h6⟩ := Cond.selects_spec hz
  exact selects_self_of_private (by rw [← hcls]; exact findClass_of_methodNamed h3) h5 h6 hpriv hinst hy
theorem own_cat {w : Value} (h : w.isRef = true) : w.category = 1 := by cases w <;> simp [Value.isRef] at h <;> rfl
/-- an array of n places, whatever they hold -/
def OwnArr (Z : State) (h : Heap) (a : Addr) (ty : FieldType) (n : Nat) : Prop := ∃ cl : Cell, Arr Z h a cl ty ∧ cl.slots.size = n
theorem OwnArr.lt {Z : State} {h : Heap} {a : Addr} {ty : FieldType} {n : Nat} (F : OwnArr Z h a ty n) : a < h.size := by obtain ⟨_, A, -⟩ := F; exact A.lt
theorem OwnArr.ext {Z : State} {h h' : Heap} {a : Addr} {ty : FieldType} {n : Nat} (F : OwnArr Z h a ty n) (E : Ext h h') : OwnArr Z h' a ty n := by obtain ⟨c, A, S⟩ := F; exact ⟨c, A.ext E, S⟩
theorem OwnArr.keep {Z : State} {h h' : Heap} {a : Addr} {ty : FieldType} {n : Nat} {ws : List Addr} (F : OwnArr Z h a ty n) (K : Keep h h' ws) : OwnArr Z h' a ty n := by
  obtain ⟨c, ⟨A1, ⟨q1, q2⟩, A3⟩, S⟩ := F
  obtain ⟨c', e1, e2, e3, e4⟩ := K.2.2 _ _ A1
  exact ⟨c', ⟨e1, ⟨by rw [e3]; exact q1, by rw [e2]; exact q2⟩, by rw [e3]; exact A3⟩, e4.trans S⟩
theorem OwnArr.wr {Z : State} {h h' : Heap} {a b : Addr} {ty : FieldType} {n sl : Nat} {v : Value} (F : OwnArr Z h a ty n) (W : Wr h h' b sl v) : OwnArr Z h' a ty n := F.keep (Keep.of_wr W)
theorem OwnArr.of {Z : State} {h : Heap} {a : Addr} {k : ClassId} {ty : FieldType} {z : Int32} {vs : List Value} {d : Value} (F : Arv Z h a k ty z vs d) : OwnArr Z h a ty z.toNatClampNeg := by obtain ⟨c, A, -, S, -⟩ := F; exact ⟨c, A, S⟩
/-- an array of n ints (or bytes, chars, ..): place j holds f j -/
def OwnFn (Z : State) (h : Heap) (a : Addr) (ty : FieldType) (n : Nat) (f : Nat → Int32) : Prop := ∃ cl : Cell, Arr Z h a cl ty ∧ cl.slots.size = n ∧ ∀ j, j < n → cl.slots[j]? = some (.int (f j))
theorem OwnFn.lt {Z : State} {h : Heap} {a : Addr} {ty : FieldType} {n : Nat} {f : Nat → Int32} (F : OwnFn Z h a ty n f) : a < h.size := by obtain ⟨_, A, -⟩ := F; exact A.lt
theorem OwnFn.ext {Z : State} {h h' : Heap} {a : Addr} {ty : FieldType} {n : Nat} {f : Nat → Int32} (F : OwnFn Z h a ty n f) (E : Ext h h') : OwnFn Z h' a ty n f := by obtain ⟨c, A, r⟩ := F; exact ⟨c, A.ext E, r⟩
theorem OwnFn.keep {Z : State} {h h' : Heap} {a : Addr} {ty : FieldType} {n : Nat} {f : Nat → Int32} {ws : List Addr} (F : OwnFn Z h a ty n f) (K : Keep h h' ws) (q : a ∉ ws) : OwnFn Z h' a ty n f := by obtain ⟨c, A, r⟩ := F; exact ⟨c, ⟨K.2.1 a c A.1 q, A.2⟩, r⟩
theorem OwnFn.other {Z : State} {h h' : Heap} {a b : Addr} {ty : FieldType} {n sl : Nat} {f : Nat → Int32} {v : Value} (F : OwnFn Z h a ty n f) (W : Wr h h' b sl v) (q : a ≠ b) : OwnFn Z h' a ty n f := by obtain ⟨c, A, r⟩ := F; exact ⟨c, A.other W q, r⟩
theorem OwnFn.set {Z : State} {h h' : Heap} {a : Addr} {ty : FieldType} {n sl : Nat} {f : Nat → Int32} {v : Int32} (F : OwnFn Z h a ty n f) (W : Wr h h' a sl (.int v)) : OwnFn Z h' a ty n (fun j => if j = sl then v else f j) := by
  obtain ⟨c, A, S, H⟩ := F
  refine ⟨_, A.same W, by simp [Cell.setSlot, S], fun j hj => ?_⟩
  have e : (c.setSlot sl (.int v)).slots[j]? = if sl = j then some (.int v) else c.slots[j]? := by
    have hj' : j < c.slots.size := S ▸ hj
    simp only [Cell.setSlot, Array.getElem?_setIfInBounds]
    by_cases q : sl = j
    · subst q; simp [hj']
    · simp [q]
  rw [e]
  by_cases q : j = sl
  · subst q; simp
  · simp [q, Ne.symm q, H j hj]
theorem OwnFn.new {Z : State} {h : Heap} {a : Addr} {k : ClassId} {ty : FieldType} {z : Int32} (A : Arr Z h a (newA k ty z) ty) (hd : defaultValue ty = .int 0) : OwnFn Z h a ty z.toNatClampNeg (fun _ => 0) :=
  ⟨_, A, sz_new _ _ _, fun j hj => by simp [newA, hd, hj]⟩
theorem own_nb (x : Int32) : nar .byte x.toInt8.toInt32 = x.toInt8.toInt32 := by
  show (x.toInt8.toInt32).toInt8.toInt32 = _
  rw [Int8.toInt8_toInt32]
end Own
end Jvm.RoadKit
namespace Jvm.Pilot.@@N@@
open Jvm Jvm.ClassFile Sem Op Lib Jvm.Free Jvm.Stand Jvm.LawKit Jvm.RoadKit Bundle Jvm.Pilot.@@N@@.Jvm.D
/-! the plain law of the table: 16 places, linear probing -/
def own_st (h : Int64) : Int64 := if h = (0 : Int64) then (1 : Int64) else h
theorem own_st0 {h : Int64} (q : h = (0 : Int64)) : own_st h = (1 : Int64) := if_pos q
theorem own_st1 {h : Int64} (q : ¬ h = (0 : Int64)) : own_st h = h := if_neg q
theorem own_stn (h : Int64) : own_st h ≠ 0 := by
  by_cases q : h = (0 : Int64)
  · rw [own_st0 q]; decide
  · rw [own_st1 q]; exact q
def own_hx (x : Int64) : Int32 := (((((x.toUInt64 >>> ((32 : Int32) &&& 0x3f).toInt64.toUInt64).toInt64) * (16 : Int32).toInt64).toUInt64 >>> ((32 : Int32) &&& 0x3f).toInt64.toUInt64).toInt64).toInt32
def own_home (x : Int64) : Nat := (own_hx x).toNatClampNeg
theorem own_hxb (x : Int64) : 0 ≤ (own_hx x).toInt ∧ (own_hx x).toInt < 16 := by
  have h1 := c_lushr x 32 32 (by decide) (by decide)
  generalize ha : ((x.toUInt64 >>> ((32 : Int32) &&& 0x3f).toInt64.toUInt64).toInt64) = a at h1
  have h2 := c_lmul a (16 : Int32).toInt64
  have e16 : ((16 : Int32).toInt64).toInt = 16 := by decide
  rw [e16] at h2
  have r1 := rng64 x
  have r2 := rng64 (a * (16 : Int32).toInt64)
  have h3 := c_lushr (a * (16 : Int32).toInt64) 32 32 (by decide) (by decide)
  have hx_ : own_hx x = (((a * (16 : Int32).toInt64).toUInt64 >>> ((32 : Int32) &&& 0x3f).toInt64.toUInt64).toInt64).toInt32 := by unfold own_hx; rw [ha]
  rw [hx_]
  generalize (((a * (16 : Int32).toInt64).toUInt64 >>> ((32 : Int32) &&& 0x3f).toInt64.toUInt64).toInt64) = b at *
  have h4 := c_l2i b
  have r3 := rng32 b.toInt32
  generalize (a * (16 : Int32).toInt64).toInt = P at *
  omega
theorem own_home_lt (x : Int64) : own_home x < 16 := by
  have h := own_hxb x
  show ((own_hx x).toInt).toNat < 16
  omega
theorem own_home_eq (x : Int64) : own_hx x = Int32.ofNat (own_home x) := by
  have h := own_hxb x
  apply Int32.toInt_inj.mp
  rw [Int32.toInt_ofNat_small (Nat.lt_trans (own_home_lt x) (by decide))]
  show _ = (((own_hx x).toInt.toNat : Nat) : Int)
  omega
def own_at (vs : List Int64) (j : Nat) : Int64 := vs.getD j 0
def own_nx (j : Nat) : Nat := if j + 1 = 16 then 0 else j + 1
theorem own_nx_lt {j : Nat} (h : j < 16) : own_nx j < 16 := by unfold own_nx; split <;> omega
def own_stop (vs : List Int64) (x : Int64) (j : Nat) : Prop := own_at vs j = 0 ∨ own_at vs j = x
def own_path (vs : List Int64) (x : Int64) : Nat → Nat → Nat → Prop
  | 0, j, r => j = r ∧ own_stop vs x j
  | k + 1, j, r => ¬ own_stop vs x j ∧ own_path vs x k (own_nx j) r
def own_it : Nat → Nat → Nat
  | 0, j => j
  | d + 1, j => own_it d (own_nx j)
theorem own_it_lt (d : Nat) : ∀ {j : Nat}, j < 16 → own_it d j < 16 := by
  induction d with
  | zero => exact fun h => h
  | succ d ih => exact fun h => ih (own_nx_lt h)
theorem own_reach : ∀ j z : Fin 16, ∃ d : Fin 16, own_it d.1 j.1 = z.1 := by decide +kernel
theorem own_path_uniq {vs : List Int64} {x : Int64} : ∀ (k k' : Nat) {j r r' : Nat}, own_path vs x k j r → own_path vs x k' j r' → r = r' := by
  intro k
  induction k with
  | zero =>
    intro k' j r r' h h'
    cases k' with
    | zero => exact h.1.symm.trans h'.1
    | succ k' => exact absurd h.2 h'.1
  | succ k ih =>
    intro k' j r r' h h'
    cases k' with
    | zero => exact absurd h'.2 h.1
    | succ k' => exact ih k' h.2 h'.2
theorem own_path_end {vs : List Int64} {x : Int64} : ∀ (k : Nat) {j r : Nat}, own_path vs x k j r → own_stop vs x r := by
  intro k
  induction k with
  | zero => intro j r h; exact h.1 ▸ h.2
  | succ k ih => intro j r h; exact ih h.2
theorem own_path_lt {vs : List Int64} {x : Int64} : ∀ (k : Nat) {j r : Nat}, j < 16 → own_path vs x k j r → r < 16 := by
  intro k
  induction k with
  | zero => intro j r hj h; exact h.1 ▸ hj
  | succ k ih => intro j r hj h; exact ih (own_nx_lt hj) h.2
theorem own_at_set {vs : List Int64} {r j : Nat} {x : Int64} (hr : r < vs.length) : own_at (vs.set r x) j = if j = r then x else own_at vs j := by
  unfold own_at
  rw [List.getD_eq_getElem?_getD, List.getD_eq_getElem?_getD, List.getElem?_set]
  by_cases h : j = r
  · subst h; simp [hr]
  · simp [h, Ne.symm h]
/-- y is found: probing for it ends at a place that holds it -/
def own_in (vs : List Int64) (y : Int64) : Prop := ∃ k r, own_path vs y k (own_home y) r ∧ own_at vs r = y
def own_only (vs : List Int64) (S : List Int64) : Prop := ∀ j, own_at vs j ≠ 0 → own_at vs j ∈ S
theorem own_found {vs : List Int64} {y : Int64} (h : own_in vs y) : ∀ k r, own_path vs y k (own_home y) r → own_at vs r = y := by
  obtain ⟨k0, r0, h1, h2⟩ := h
  intro k r h
  rw [own_path_uniq k k0 h h1]; exact h2
theorem own_miss {vs : List Int64} {S : List Int64} {y : Int64} (h : own_only vs S) (hy : y ≠ 0) (hn : y ∉ S) : ∀ k r, own_path vs y k (own_home y) r → ¬ own_at vs r = y := by
  intro k r _ e
  exact hn (e ▸ h r (by rw [e]; exact hy))
theorem own_path_keep {vs : List Int64} {x y : Int64} {r : Nat} (hr : r < vs.length) (h0 : own_at vs r = 0) : ∀ (k : Nat) {j q : Nat}, q ≠ r → own_path vs y k j q → own_path (vs.set r x) y k j q := by
  intro k
  induction k with
  | zero =>
    intro j q hq h
    refine ⟨h.1, ?_⟩
    have : j ≠ r := h.1 ▸ hq
    unfold own_stop
    rw [own_at_set hr, if_neg this]
    exact h.2
  | succ k ih =>
    intro j q hq h
    refine ⟨?_, ih hq h.2⟩
    have : j ≠ r := fun e => h.1 (Or.inl (e ▸ h0))
    unfold own_stop
    rw [own_at_set hr, if_neg this]
    exact h.1
theorem own_path_new {vs : List Int64} {x : Int64} {r : Nat} (hr : r < vs.length) (h0 : own_at vs r = 0) : ∀ (k : Nat) {j : Nat}, own_path vs x k j r → own_path (vs.set r x) x k j r := by
  intro k
  induction k with
  | zero =>
    intro j h
    refine ⟨h.1, Or.inr ?_⟩
    rw [own_at_set hr, if_pos h.1]
  | succ k ih =>
    intro j h
    refine ⟨?_, ih h.2⟩
    have : j ≠ r := fun e => h.1 (Or.inl (e ▸ h0))
    unfold own_stop
    rw [own_at_set hr, if_neg this]
    exact h.1
theorem own_in_keep {vs : List Int64} {x y : Int64} {r : Nat} (hr : r < vs.length) (h0 : own_at vs r = 0) (hy : y ≠ 0) (h : own_in vs y) : own_in (vs.set r x) y := by
  obtain ⟨k, q, h1, h2⟩ := h
  have hq : q ≠ r := fun e => hy (by rw [← h2, e]; exact h0)
  exact ⟨k, q, own_path_keep hr h0 k hq h1, by rw [own_at_set hr, if_neg hq]; exact h2⟩
theorem own_in_new {vs : List Int64} {x : Int64} {r k : Nat} (hr : r < vs.length) (h0 : own_at vs r = 0) (h : own_path vs x k (own_home x) r) : own_in (vs.set r x) x :=
  ⟨k, r, own_path_new hr h0 k h, by rw [own_at_set hr, if_pos rfl]⟩
theorem own_only_set {vs : List Int64} {S : List Int64} {x : Int64} {r : Nat} (hr : r < vs.length) (h : own_only vs S) : own_only (vs.set r x) (x :: S) := by
  intro j hj
  rw [own_at_set hr] at hj ⊢
  by_cases e : j = r
  · rw [if_pos e]; exact List.mem_cons_self ..
  · rw [if_neg e] at hj ⊢; exact List.mem_cons_of_mem _ (h j hj)
def own_zeros (vs : List Int64) : Nat := vs.count 0
theorem own_zeros_set (x : Int64) : ∀ (vs : List Int64) (r : Nat), own_zeros vs ≤ own_zeros (vs.set r x) + 1
  | [], r => by simp [own_zeros]
  | v :: vs, 0 => by simp only [own_zeros, List.set_cons_zero, List.count_cons]; split <;> split <;> omega
  | v :: vs, r + 1 => by
    have := own_zeros_set x vs r
    simp only [own_zeros, List.set_cons_succ, List.count_cons] at this ⊢
    omega
theorem own_zero {vs : List Int64} (hl : vs.length = 16) (h : 0 < own_zeros vs) : ∃ z, z < 16 ∧ own_at vs z = 0 := by
  have hm : (0 : Int64) ∈ vs := List.count_pos_iff.mp h
  obtain ⟨z, hz, e⟩ := List.getElem_of_mem hm
  exact ⟨z, hl ▸ hz, by unfold own_at; rw [List.getD_eq_getElem?_getD, List.getElem?_eq_getElem hz, e]; rfl⟩
theorem own_free {vs : List Int64} (hl : vs.length = 16) (h : 0 < own_zeros vs) (x : Int64) : ∃ d, own_at vs (own_it d (own_home x)) = 0 := by
  obtain ⟨z, hz, e⟩ := own_zero hl h
  obtain ⟨d, hd⟩ := own_reach ⟨own_home x, own_home_lt x⟩ ⟨z, hz⟩
  exact ⟨d.1, by rw [hd]; exact e⟩
theorem own_get {vs : List Int64} {j : Nat} (hl : vs.length = 16) (hj : j < 16) : (vs.map Value.long).getD (Int32.ofNat j).toNatClampNeg (.long 0) = .long (own_at vs j) := by
  have e : (Int32.ofNat j).toNatClampNeg = j := by
    show ((Int32.ofNat j).toInt).toNat = j
    rw [Int32.toInt_ofNat_small (Nat.lt_trans hj (by decide))]; rfl
  rw [e]; unfold own_at
  have : j < vs.length := by omega
  simp [List.getD_eq_getElem?_getD, this]
theorem own_inb {j : Nat} (hj : j < 16) : ¬ (Int32.ofNat j) < 0 ∧ (Int32.ofNat j) < (16 : Int32) := by
  have e : (Int32.ofNat j).toInt = j := Int32.toInt_ofNat_small (Nat.lt_trans hj (by decide))
  have e0 : (0 : Int32).toInt = 0 := by decide
  have e1 : (16 : Int32).toInt = 16 := by decide
  constructor
  · rw [Int32.lt_iff_toInt_lt, e, e0]; omega
  · rw [Int32.lt_iff_toInt_lt, e, e1]; omega
theorem own_nat {j : Nat} (hj : j < 16) : (Int32.ofNat j).toNatClampNeg = j := by
  show ((Int32.ofNat j).toInt).toNat = j
  rw [Int32.toInt_ofNat_small (Nat.lt_trans hj (by decide))]; rfl
theorem own_set {vs : List Int64} {x : Int64} {j : Nat} : (vs.map Value.long).set j (.long x) = (vs.set j x).map Value.long := by
  rw [List.map_set]
theorem own_nx16 {j : Nat} (hj : j < 16) : ((Int32.ofNat j + (1 : Int32)) = (16 : Int32)) ↔ j + 1 = 16 := by
  rw [← inc_ofNat]
  have e : (Int32.ofNat (j + 1)).toInt = ((j + 1 : Nat) : Int) := Int32.toInt_ofNat_small (by omega)
  have e1 : (16 : Int32).toInt = 16 := by decide
  rw [← Int32.toInt_inj, e, e1]; omega
def own_emp : List Int64 := [0, 0, 0, 0, 0, 0, 0, 0, 0, 0, 0, 0, 0, 0, 0, 0]
theorem own_zeros_eq (x : Int64) : ∀ (vs : List Int64) (r : Nat), r < vs.length → own_zeros (vs.set r x) + (if own_at vs r = 0 then 1 else 0) = own_zeros vs + (if x = 0 then 1 else 0)
  | [], r, h => absurd h (Nat.not_lt_zero r)
  | v :: vs, 0, _ => by
    show (x :: vs).count 0 + (if v = 0 then 1 else 0) = (v :: vs).count 0 + _
    simp only [List.count_cons, beq_iff_eq]; omega
  | v :: vs, r + 1, h => by
    have q := own_zeros_eq x vs r (Nat.lt_of_succ_lt_succ h)
    show (v :: vs.set r x).count 0 + (if own_at vs r = 0 then 1 else 0) = (v :: vs).count 0 + _
    unfold own_zeros at q
    simp only [List.count_cons]; omega
theorem own_zeros_nn {vs : List Int64} {r : Nat} {x : Int64} (hr : r < vs.length) (h : own_at vs r ≠ 0) (hx : x ≠ 0) : own_zeros (vs.set r x) = own_zeros vs := by
  have q := own_zeros_eq x vs r hr
  rw [if_neg h, if_neg hx] at q; exact q
theorem own_zeros_nz {vs : List Int64} {r : Nat} (hr : r < vs.length) (h : own_at vs r ≠ 0) : own_zeros (vs.set r 0) = own_zeros vs + 1 := by
  have q := own_zeros_eq 0 vs r hr
  rw [if_neg h, if_pos rfl] at q; exact q
theorem own_zeros_zn {vs : List Int64} {r : Nat} {x : Int64} (hr : r < vs.length) (h : own_at vs r = 0) (hx : x ≠ 0) : own_zeros (vs.set r x) + 1 = own_zeros vs := by
  have q := own_zeros_eq x vs r hr
  rw [if_pos h, if_neg hx] at q; exact q
/-! the plain law of the removal: the hashes after the gap move back -/
def own_U (vs : List Int64) : Prop := ∀ i j, i < 16 → j < 16 → own_at vs i ≠ 0 → own_at vs i = own_at vs j → i = j
def own_P (vs : List Int64) : Prop := ∀ i, i < 16 → own_at vs i ≠ 0 → ∀ m, m ≤ (i + 16 - own_home (own_at vs i)) % 16 → own_at vs ((own_home (own_at vs i) + m) % 16) ≠ 0
def own_has (vs : List Int64) (y : Int64) : Prop := ∃ i, i < 16 ∧ own_at vs i = y
theorem own_nx_mod {j : Nat} (h : j < 16) : own_nx j = (j + 1) % 16 := by unfold own_nx; split <;> omega
theorem own_path_pts {vs : List Int64} {y : Int64} : ∀ (k : Nat) {j r : Nat}, j < 16 → own_path vs y k j r → r = (j + k) % 16 ∧ ∀ m, m < k → own_at vs ((j + m) % 16) ≠ 0 := by
  intro k
  induction k with
  | zero => intro j r hj h; exact ⟨by have := h.1; omega, fun m hm => absurd hm (Nat.not_lt_zero m)⟩
  | succ k ih =>
    intro j r hj h
    obtain ⟨e, q⟩ := ih (own_nx_lt hj) h.2
    rw [own_nx_mod hj] at e q
    refine ⟨by omega, fun m hm => ?_⟩
    cases m with
    | zero => rw [show (j + 0) % 16 = j by omega]; exact fun z => h.1 (Or.inl z)
    | succ m => have := q m (by omega); rwa [show ((j + 1) % 16 + m) % 16 = (j + (m + 1)) % 16 by omega] at this
theorem own_PofIn {vs : List Int64} (U : own_U vs) (h : ∀ i, i < 16 → own_at vs i ≠ 0 → own_in vs (own_at vs i)) : own_P vs := by
  intro i hi hn m hm
  obtain ⟨k, r, hp, hr⟩ := h i hi hn
  have hh := own_home_lt (own_at vs i)
  have hr16 := own_path_lt k hh hp
  obtain ⟨e, q⟩ := own_path_pts k hh hp
  have hri : r = i := (U i r hi hr16 hn hr.symm).symm
  by_cases hmk : m < k
  · exact q m hmk
  · have : (own_home (own_at vs i) + m) % 16 = i := by omega
    rw [this]; exact hn
theorem own_mkpath {vs : List Int64} {y : Int64} : ∀ (k : Nat) {j r : Nat}, j < 16 → r = (j + k) % 16 → own_at vs r = y → (∀ m, m < k → ¬ own_stop vs y ((j + m) % 16)) → own_path vs y k j r := by
  intro k
  induction k with
  | zero => intro j r hj hr hy h; have : j = r := by omega
            exact ⟨this, Or.inr (this ▸ hy)⟩
  | succ k ih =>
    intro j r hj hr hy h
    refine ⟨by have := h 0 (by omega); rwa [show (j + 0) % 16 = j by omega] at this, ih (own_nx_lt hj) (by rw [own_nx_mod hj]; omega) hy (fun m hm => ?_)⟩
    have := h (m + 1) (by omega)
    rwa [own_nx_mod hj, show ((j + 1) % 16 + m) % 16 = (j + (m + 1)) % 16 by omega]
theorem own_inOfP {vs : List Int64} {y : Int64} (U : own_U vs) (P : own_P vs) (hy : y ≠ 0) (h : own_has vs y) : own_in vs y := by
  obtain ⟨i, hi, rfl⟩ := h
  have hh := own_home_lt (own_at vs i)
  refine ⟨(i + 16 - own_home (own_at vs i)) % 16, i, own_mkpath _ hh (by omega) rfl (fun m hm q => ?_), rfl⟩
  rcases q with q | q
  · exact P i hi hy m (by omega) q
  · have := U i _ hi (Nat.mod_lt _ (by decide)) hy q.symm
    omega
theorem own_U_set {vs : List Int64} {S : List Int64} {x : Int64} {r : Nat} (hr : r < vs.length) (h0 : own_at vs r = 0) (U : own_U vs) (hO : own_only vs S) (hx : x ∉ S) : own_U (vs.set r x) := by
  intro i j hi hj hn he
  rw [own_at_set hr] at hn he
  rw [own_at_set hr] at he
  by_cases ei : i = r
  · by_cases ej : j = r
    · omega
    · rw [if_pos ei] at hn he
      rw [if_neg ej] at he
      exact absurd (he ▸ hO j (he ▸ hn)) hx
  · rw [if_neg ei] at hn he
    by_cases ej : j = r
    · rw [if_pos ej] at he
      exact absurd (he ▸ hO i hn) hx
    · rw [if_neg ej] at he
      exact U i j hi hj hn he
def own_H (r : Nat) (y : Int64) : Nat := (own_home y + 16 - r) % 16
def own_F (vs : List Int64) (r i : Nat) : Int64 := own_at vs ((r + i) % 16)
def own_on (h j i : Nat) : Prop := (h ≤ i ∧ h ≤ j ∧ j ≤ i) ∨ (i < h ∧ (h ≤ j ∨ j ≤ i))
def own_L (vs0 : List Int64) (x : Int64) (r : Nat) (vs : List Int64) (g a zz : Nat) : Prop :=
  (vs.length = 16) ∧
  (r < 16) ∧
  (g < a) ∧
  (a ≤ zz) ∧
  (zz < 16) ∧
  (own_F vs r zz = 0) ∧
  (own_F vs r g ≠ 0) ∧
  (∀ i, i < 16 → i ≠ g → own_F vs r i ≠ 0 → ∀ j, j < 16 → own_on (own_H r (own_F vs r i)) j i → own_F vs r j ≠ 0) ∧
  (∀ i, g < i → i < a → g < own_H r (own_F vs r i) ∧ own_H r (own_F vs r i) ≤ i) ∧
  (∀ i j, i < 16 → j < 16 → i ≠ g → j ≠ g → own_F vs r i ≠ 0 → own_F vs r i = own_F vs r j → i = j) ∧
  (∀ y, y ≠ 0 → ((∃ i, i < 16 ∧ i ≠ g ∧ own_F vs r i = y) ↔ (own_has vs0 y ∧ y ≠ x))) ∧
  (own_zeros vs = own_zeros vs0)
theorem own_L.hl {vs0 : List Int64} {x : Int64} {r : Nat} {vs : List Int64} {g a zz : Nat} (LL : own_L vs0 x r vs g a zz) : vs.length = 16 := LL.1
theorem own_L.hr {vs0 : List Int64} {x : Int64} {r : Nat} {vs : List Int64} {g a zz : Nat} (LL : own_L vs0 x r vs g a zz) : r < 16 := LL.2.1
theorem own_L.ga {vs0 : List Int64} {x : Int64} {r : Nat} {vs : List Int64} {g a zz : Nat} (LL : own_L vs0 x r vs g a zz) : g < a := LL.2.2.1
theorem own_L.az {vs0 : List Int64} {x : Int64} {r : Nat} {vs : List Int64} {g a zz : Nat} (LL : own_L vs0 x r vs g a zz) : a ≤ zz := LL.2.2.2.1
theorem own_L.z16 {vs0 : List Int64} {x : Int64} {r : Nat} {vs : List Int64} {g a zz : Nat} (LL : own_L vs0 x r vs g a zz) : zz < 16 := LL.2.2.2.2.1
theorem own_L.z0 {vs0 : List Int64} {x : Int64} {r : Nat} {vs : List Int64} {g a zz : Nat} (LL : own_L vs0 x r vs g a zz) : own_F vs r zz = 0 := LL.2.2.2.2.2.1
theorem own_L.nz {vs0 : List Int64} {x : Int64} {r : Nat} {vs : List Int64} {g a zz : Nat} (LL : own_L vs0 x r vs g a zz) : own_F vs r g ≠ 0 := LL.2.2.2.2.2.2.1
theorem own_L.P {vs0 : List Int64} {x : Int64} {r : Nat} {vs : List Int64} {g a zz : Nat} (LL : own_L vs0 x r vs g a zz) : ∀ i, i < 16 → i ≠ g → own_F vs r i ≠ 0 → ∀ j, j < 16 → own_on (own_H r (own_F vs r i)) j i → own_F vs r j ≠ 0 := LL.2.2.2.2.2.2.2.1
theorem own_L.Q {vs0 : List Int64} {x : Int64} {r : Nat} {vs : List Int64} {g a zz : Nat} (LL : own_L vs0 x r vs g a zz) : ∀ i, g < i → i < a → g < own_H r (own_F vs r i) ∧ own_H r (own_F vs r i) ≤ i := LL.2.2.2.2.2.2.2.2.1
theorem own_L.U {vs0 : List Int64} {x : Int64} {r : Nat} {vs : List Int64} {g a zz : Nat} (LL : own_L vs0 x r vs g a zz) : ∀ i j, i < 16 → j < 16 → i ≠ g → j ≠ g → own_F vs r i ≠ 0 → own_F vs r i = own_F vs r j → i = j := LL.2.2.2.2.2.2.2.2.2.1
theorem own_L.S {vs0 : List Int64} {x : Int64} {r : Nat} {vs : List Int64} {g a zz : Nat} (LL : own_L vs0 x r vs g a zz) : ∀ y, y ≠ 0 → ((∃ i, i < 16 ∧ i ≠ g ∧ own_F vs r i = y) ↔ (own_has vs0 y ∧ y ≠ x)) := LL.2.2.2.2.2.2.2.2.2.2.1
theorem own_L.C {vs0 : List Int64} {x : Int64} {r : Nat} {vs : List Int64} {g a zz : Nat} (LL : own_L vs0 x r vs g a zz) : own_zeros vs = own_zeros vs0 := LL.2.2.2.2.2.2.2.2.2.2.2
theorem own_F_set {vs : List Int64} {r g i : Nat} {x : Int64} (hl : vs.length = 16) (hr : r < 16) (hg : g < 16) (hi : i < 16) : own_F (vs.set ((r + g) % 16) x) r i = if i = g then x else own_F vs r i := by
  unfold own_F
  rw [own_at_set (by rw [hl]; exact Nat.mod_lt _ (by decide))]
  by_cases h : i = g
  · rw [if_pos h, if_pos (by rw [h])]
  · rw [if_neg h, if_neg (by omega)]
theorem own_L_start {vs : List Int64} {r zz : Nat} (hl : vs.length = 16) (U : own_U vs) (P : own_P vs) (hr : r < 16) (hn : own_at vs r ≠ 0) (hz : zz < 16) (h0 : own_at vs zz = 0) : own_L vs (own_at vs r) r vs 0 1 ((zz + 16 - r) % 16) := by
  have hzr : zz ≠ r := fun e => hn (e ▸ h0)
  refine ⟨hl, hr, by omega, by omega, by omega, ?_, ?_, ?_, ?_, ?_, ?_, rfl⟩
  · unfold own_F; rw [show (r + (zz + 16 - r) % 16) % 16 = zz by omega]; exact h0
  · unfold own_F; rw [show (r + 0) % 16 = r by omega]; exact hn
  · intro i hi _ hfi j hj hon
    have hh := own_home_lt (own_F vs r i)
    have := P ((r + i) % 16) (Nat.mod_lt _ (by decide)) hfi (((r + j) % 16 + 16 - own_home (own_F vs r i)) % 16) (by
      show _ ≤ ((r + i) % 16 + 16 - own_home (own_F vs r i)) % 16
      unfold own_on own_H at hon
      generalize own_home (own_F vs r i) = hm at *
      omega)
    have e : (own_home (own_at vs ((r + i) % 16)) + ((r + j) % 16 + 16 - own_home (own_F vs r i)) % 16) % 16 = (r + j) % 16 := by
      show (own_home (own_F vs r i) + _) % 16 = _
      omega
    rw [e] at this; exact this
  · intro i h1 h2; omega
  · intro i j hi hj _ _ hn he
    have := U _ _ (Nat.mod_lt _ (by decide)) (Nat.mod_lt _ (by decide)) hn he
    omega
  · intro y hy
    constructor
    · rintro ⟨i, hi, hi0, e⟩
      refine ⟨⟨(r + i) % 16, Nat.mod_lt _ (by decide), e⟩, fun q => ?_⟩
      have := U ((r + i) % 16) r (Nat.mod_lt _ (by decide)) hr (by rw [show own_at vs ((r + i) % 16) = y from e]; exact hy) (by rw [← q]; exact e)
      omega
    · rintro ⟨⟨i, hi, e⟩, hne⟩
      have hir : i ≠ r := fun q => hne (by rw [← e, q])
      exact ⟨(i + 16 - r) % 16, by omega, by omega, by unfold own_F; rw [show (r + (i + 16 - r) % 16) % 16 = i by omega]; exact e⟩
theorem own_L_lt {vs0 : List Int64} {x : Int64} {r : Nat} {vs : List Int64} {g a zz : Nat} (L : own_L vs0 x r vs g a zz) (h : own_F vs r a ≠ 0) : a < zz := by
  rcases Nat.lt_or_ge a zz with q | q
  · exact q
  · have : a = zz := Nat.le_antisymm L.az q
    exact absurd (this ▸ L.z0) h
theorem own_L_in {vs0 : List Int64} {x : Int64} {r : Nat} {vs : List Int64} {g a zz : Nat} (L : own_L vs0 x r vs g a zz) (h : own_F vs r a ≠ 0) (hin : g < own_H r (own_F vs r a) ∧ own_H r (own_F vs r a) ≤ a) : own_L vs0 x r vs g (a + 1) zz :=
  ⟨L.hl, L.hr, Nat.lt_succ_of_lt L.ga, own_L_lt L h, L.z16, L.z0, L.nz, L.P, fun i h1 h2 => by
    rcases Nat.lt_or_ge i a with q | q
    · exact L.Q i h1 q
    · have : i = a := by omega
      rw [this]; exact hin, L.U, L.S, L.C⟩
theorem own_L_out {vs0 : List Int64} {x : Int64} {r : Nat} {vs : List Int64} {g a zz : Nat} (L : own_L vs0 x r vs g a zz) (h : own_F vs r a ≠ 0) (hin : ¬ (g < own_H r (own_F vs r a) ∧ own_H r (own_F vs r a) ≤ a)) : own_L vs0 x r (vs.set ((r + g) % 16) (own_F vs r a)) a (a + 1) zz := by
  have hlt := own_L_lt L h
  have ga := L.ga
  have z16 := L.z16
  have g16 : g < 16 := by omega
  have ft : ∀ i, i < 16 → own_F (vs.set ((r + g) % 16) (own_F vs r a)) r i = if i = g then own_F vs r a else own_F vs r i := fun i hi => own_F_set L.hl L.hr g16 hi
  have nz : ∀ i, i < 16 → (own_F (vs.set ((r + g) % 16) (own_F vs r a)) r i ≠ 0 ↔ own_F vs r i ≠ 0) := fun i hi => by
    rw [ft i hi]
    by_cases q : i = g
    · rw [if_pos q, q]; exact ⟨fun _ => L.nz, fun _ => h⟩
    · rw [if_neg q]
  refine ⟨by rw [List.length_set]; exact L.hl, L.hr, by omega, hlt, L.z16, ?_, ?_, ?_, ?_, ?_, ?_, (own_zeros_nn (by rw [L.hl]; exact Nat.mod_lt _ (by decide)) L.nz h).trans L.C⟩
  · rw [ft zz z16, if_neg (by omega)]; exact L.z0
  · exact (nz a (by omega)).2 h
  · intro i hi hia hfi j hj hon
    rw [ft i hi] at hon hfi
    rw [nz j hj]
    by_cases q : i = g
    · rw [if_pos q] at hon
      refine L.P a (by omega) (by omega) h j hj ?_
      unfold own_on at hon ⊢
      omega
    · rw [if_neg q] at hon hfi
      exact L.P i hi q hfi j hj hon
  · intro i h1 h2; omega
  · intro i j hi hj hia hja hn he
    rw [ft i hi] at hn he
    rw [ft j hj] at he
    by_cases qi : i = g
    · by_cases qj : j = g
      · omega
      · rw [if_pos qi] at he
        rw [if_neg qj] at he
        have := L.U a j (by omega) hj (by omega) qj h he
        omega
    · rw [if_neg qi] at hn he
      by_cases qj : j = g
      · rw [if_pos qj] at he
        have := L.U i a hi (by omega) qi (by omega) hn he
        omega
      · rw [if_neg qj] at he
        exact L.U i j hi hj qi qj hn he
  · intro y hy
    rw [← L.S y hy]
    constructor
    · rintro ⟨i, hi, hia, e⟩
      rw [ft i hi] at e
      by_cases q : i = g
      · rw [if_pos q] at e
        exact ⟨a, by omega, by omega, e⟩
      · rw [if_neg q] at e
        exact ⟨i, hi, q, e⟩
    · rintro ⟨i, hi, hig, e⟩
      by_cases q : i = a
      · exact ⟨g, g16, by omega, by rw [ft g g16, if_pos rfl, ← q]; exact e⟩
      · exact ⟨i, hi, q, by rw [ft i hi, if_neg hig]; exact e⟩
def own_rem (vs : List Int64) (x : Int64) (vs' : List Int64) : Prop :=
  vs'.length = 16 ∧ own_U vs' ∧ own_P vs' ∧ (∀ y, y ≠ 0 → (own_has vs' y ↔ own_has vs y ∧ y ≠ x)) ∧ own_zeros vs' = own_zeros vs + 1
theorem own_L_end {vs0 : List Int64} {x : Int64} {r : Nat} {vs : List Int64} {g a zz : Nat} (L : own_L vs0 x r vs g a zz) (h : own_F vs r a = 0) : own_rem vs0 x (vs.set ((r + g) % 16) 0) := by
  have ga := L.ga
  have az := L.az
  have z16 := L.z16
  have hr := L.hr
  have g16 : g < 16 := by omega
  have ft : ∀ i, i < 16 → own_F (vs.set ((r + g) % 16) 0) r i = if i = g then 0 else own_F vs r i := fun i hi => own_F_set L.hl L.hr g16 hi
  have ab : ∀ i, i < 16 → own_at (vs.set ((r + g) % 16) 0) i = own_F (vs.set ((r + g) % 16) 0) r ((i + 16 - r) % 16) := fun i hi => by
    unfold own_F; rw [show (r + (i + 16 - r) % 16) % 16 = i by omega]
  refine ⟨by rw [List.length_set]; exact L.hl, ?_, ?_, ?_, ?_⟩
  · intro i j hi hj hn he
    rw [ab i hi, ft _ (Nat.mod_lt _ (by decide))] at hn he
    rw [ab j hj, ft _ (Nat.mod_lt _ (by decide))] at he
    by_cases qi : (i + 16 - r) % 16 = g
    · rw [if_pos qi] at hn; exact absurd rfl hn
    · rw [if_neg qi] at hn he
      by_cases qj : (j + 16 - r) % 16 = g
      · rw [if_pos qj] at he; exact absurd he hn
      · rw [if_neg qj] at he
        have := L.U _ _ (Nat.mod_lt _ (by decide)) (Nat.mod_lt _ (by decide)) qi qj hn he
        omega
  · intro i hi hn m hm
    obtain ⟨k, hk, rfl⟩ : ∃ k, k < 16 ∧ i = (r + k) % 16 := ⟨(i + 16 - r) % 16, Nat.mod_lt _ (by decide), by omega⟩
    have hn' : own_F (vs.set ((r + g) % 16) 0) r k ≠ 0 := hn
    have ek : own_at (vs.set ((r + g) % 16) 0) ((r + k) % 16) = own_F vs r k := by
      show own_F (vs.set ((r + g) % 16) 0) r k = _
      rw [ft k hk] at hn' ⊢
      by_cases q : k = g
      · rw [if_pos q] at hn'; exact absurd rfl hn'
      · rw [if_neg q]
    have qk : k ≠ g := fun q => by rw [ft k hk, if_pos q] at hn'; exact hn' rfl
    rw [ek] at hm hn ⊢
    have hh := own_home_lt (own_F vs r k)
    have hP := L.P k hk qk hn
    have hQ := L.Q k
    obtain ⟨Hk, eH⟩ : ∃ z, z = own_H r (own_F vs r k) := ⟨_, rfl⟩
    rw [← eH] at hP hQ
    have eH' : Hk = (own_home (own_F vs r k) + 16 - r) % 16 := eH
    generalize own_home (own_F vs r k) = hm' at *
    obtain ⟨j, hj, ej⟩ : ∃ j, j < 16 ∧ (hm' + m) % 16 = (r + j) % 16 := ⟨((hm' + m) % 16 + 16 - r) % 16, Nat.mod_lt _ (by decide), by omega⟩
    rw [ej]
    show own_F (vs.set ((r + g) % 16) 0) r j ≠ 0
    have on : own_on Hk j k := by unfold own_on; omega
    rw [ft j hj]
    have jg : j ≠ g := by
      intro q
      by_cases ca : own_on Hk a k
      · exact hP a (by omega) ca h
      · have hka : k ≠ a := fun e => hn (e ▸ h)
        unfold own_on at on ca
        omega
    rw [if_neg jg]
    exact hP j hj on
  · intro y hy
    rw [← L.S y hy]
    constructor
    · rintro ⟨i, hi, e⟩
      rw [ab i hi, ft _ (Nat.mod_lt _ (by decide))] at e
      by_cases q : (i + 16 - r) % 16 = g
      · rw [if_pos q] at e; exact absurd e.symm hy
      · rw [if_neg q] at e
        exact ⟨_, Nat.mod_lt _ (by decide), q, e⟩
    · rintro ⟨i, hi, hig, e⟩
      exact ⟨(r + i) % 16, Nat.mod_lt _ (by decide), by
        show own_F (vs.set ((r + g) % 16) 0) r i = y
        rw [ft i hi, if_neg hig]; exact e⟩
  · rw [own_zeros_nz (by rw [L.hl]; exact Nat.mod_lt _ (by decide)) L.nz, L.C]
theorem own_cyc {r g a h : Nat} (hr : r < 16) (hg : g < a) (ha : a < 16) (hh : h < 16) : ((r + g) % 16 < (r + a) % 16 ∧ (r + g) % 16 < h ∧ h ≤ (r + a) % 16) ∨ (¬ (r + g) % 16 < (r + a) % 16 ∧ ((r + g) % 16 < h ∨ h ≤ (r + a) % 16)) ↔ (g < (h + 16 - r) % 16 ∧ (h + 16 - r) % 16 ≤ a) := by omega
def own_T (vs : List Int64) (n : Nat) : Prop :=
  (vs.length = 16) ∧
  (own_U vs) ∧
  (own_P vs) ∧
  (n + own_zeros vs = 16)
theorem own_T.hl {vs : List Int64} {n : Nat} (LL : own_T vs n) : vs.length = 16 := LL.1
theorem own_T.U {vs : List Int64} {n : Nat} (LL : own_T vs n) : own_U vs := LL.2.1
theorem own_T.P {vs : List Int64} {n : Nat} (LL : own_T vs n) : own_P vs := LL.2.2.1
theorem own_T.C {vs : List Int64} {n : Nat} (LL : own_T vs n) : n + own_zeros vs = 16 := LL.2.2.2
theorem own_zeros_all {vs : List Int64} (hl : vs.length = 16) : own_zeros vs = 16 ↔ ∀ y, y ≠ 0 → ¬ own_has vs y := by
  unfold own_zeros
  rw [← hl, List.count_eq_length]
  constructor
  · rintro h y hy ⟨i, hi, e⟩
    have hi' : i < vs.length := by omega
    have := h vs[i] (List.getElem_mem hi')
    apply hy; rw [← e]; unfold own_at; rw [List.getD_eq_getElem?_getD, List.getElem?_eq_getElem hi', ← this]; rfl
  · intro h b hb
    obtain ⟨i, hi, e⟩ := List.getElem_of_mem hb
    by_cases q : b = 0
    · exact q.symm
    · exact absurd ⟨i, by omega, by unfold own_at; rw [List.getD_eq_getElem?_getD, List.getElem?_eq_getElem hi, e]; rfl⟩ (h b q)
theorem own_T_pos {vs : List Int64} {n : Nat} {y : Int64} (T : own_T vs n) (hy : y ≠ 0) (h : own_has vs y) : 1 ≤ n := by
  have := T.C
  rcases Nat.lt_or_ge 0 n with q | q
  · exact q
  · exact absurd h ((own_zeros_all T.hl).1 (by omega) y hy)
theorem own_T_nil {vs : List Int64} {n : Nat} (T : own_T vs n) (h : ∀ y, y ≠ 0 → ¬ own_has vs y) : n = 0 := by
  have := T.C
  have := (own_zeros_all T.hl).2 h
  omega
theorem own_T_zero {vs : List Int64} {n : Nat} (T : own_T vs n) (hn : n ≤ 3) : 0 < own_zeros vs := by have := T.C; omega
theorem own_T_found {vs : List Int64} {n : Nat} {y : Int64} (T : own_T vs n) (hy : y ≠ 0) (h : own_has vs y) : ∀ k r, own_path vs y k (own_home y) r → own_at vs r = y := own_found (own_inOfP T.U T.P hy h)
theorem own_T_miss {vs : List Int64} {y : Int64} (h : ¬ own_has vs y) : ∀ k r, own_path vs y k (own_home y) r → ¬ own_at vs r = y := fun k r hp e => h ⟨r, own_path_lt k (own_home_lt y) hp, e⟩
theorem own_T_add {vs : List Int64} {n : Nat} {x : Int64} {r k : Nat} (T : own_T vs n) (hx : x ≠ 0) (h : ¬ own_has vs x) (hr : r < 16) (h0 : own_at vs r = 0) (hp : own_path vs x k (own_home x) r) : own_T (vs.set r x) (n + 1) ∧ ∀ y, y ≠ 0 → (own_has (vs.set r x) y ↔ own_has vs y ∨ y = x) := by
  have hr' : r < vs.length := by rw [T.hl]; exact hr
  have U' : own_U (vs.set r x) := by
    intro i j hi hj hn he
    rw [own_at_set hr'] at hn he
    rw [own_at_set hr'] at he
    by_cases ei : i = r
    · by_cases ej : j = r
      · omega
      · rw [if_pos ei] at he
        rw [if_neg ej] at he
        exact absurd ⟨j, hj, he.symm⟩ h
    · rw [if_neg ei] at hn he
      by_cases ej : j = r
      · rw [if_pos ej] at he
        exact absurd ⟨i, hi, he⟩ h
      · rw [if_neg ej] at he
        exact T.U i j hi hj hn he
  refine ⟨⟨by rw [List.length_set]; exact T.hl, U', own_PofIn U' (fun i hi hn => ?_), ?_⟩, ?_⟩
  · rw [own_at_set hr'] at hn ⊢
    by_cases ei : i = r
    · rw [if_pos ei]; exact own_in_new hr' h0 hp
    · rw [if_neg ei] at hn ⊢
      exact own_in_keep hr' h0 hn (own_inOfP T.U T.P hn ⟨i, hi, rfl⟩)
  · have := own_zeros_zn hr' h0 hx
    have := T.C
    omega
  · intro y hy
    constructor
    · rintro ⟨i, hi, e⟩
      rw [own_at_set hr'] at e
      by_cases ei : i = r
      · rw [if_pos ei] at e; exact Or.inr e.symm
      · rw [if_neg ei] at e; exact Or.inl ⟨i, hi, e⟩
    · rintro (⟨i, hi, e⟩ | e)
      · have ei : i ≠ r := fun q => hy (by rw [← e, q]; exact h0)
        exact ⟨i, hi, by rw [own_at_set hr', if_neg ei]; exact e⟩
      · exact ⟨r, hr, by rw [own_at_set hr', if_pos rfl]; exact e.symm⟩
theorem own_T_rem {vs ws : List Int64} {n : Nat} {x : Int64} (T : own_T vs (n + 1)) (R : own_rem vs x ws) : own_T ws n := ⟨R.1, R.2.1, R.2.2.1, by have := T.C; have := R.2.2.2.2; omega⟩
def own_hasB (vs : List Int64) (y : Int64) : Bool := (List.range 16).any (fun i => own_at vs i == y)
theorem own_hasB_iff {vs : List Int64} {y : Int64} : own_hasB vs y = true ↔ own_has vs y := by
  unfold own_hasB own_has
  rw [List.any_eq_true]
  constructor
  · rintro ⟨i, hi, e⟩; exact ⟨i, List.mem_range.mp hi, eq_of_beq e⟩
  · rintro ⟨i, hi, e⟩; exact ⟨i, List.mem_range.mpr hi, by rw [e]; exact beq_self_eq_true y⟩
instance (vs : List Int64) (y : Int64) : Decidable (own_has vs y) := decidable_of_iff _ own_hasB_iff
def own_bn (P : Prop) [Decidable P] : Nat := if P then 1 else 0
def own_bit (P : Prop) [Decidable P] : Int32 := Int32.ofNat (own_bn P)
theorem own_bn1 {P : Prop} [Decidable P] (h : P) : own_bn P = 1 := if_pos h
theorem own_bn0 {P : Prop} [Decidable P] (h : ¬ P) : own_bn P = 0 := if_neg h
theorem own_bit1 {P : Prop} [Decidable P] (h : P) : own_bit P = (1 : Int32) := by unfold own_bit; rw [own_bn1 h]; rfl
theorem own_bit0 {P : Prop} [Decidable P] (h : ¬ P) : own_bit P = (0 : Int32) := by unfold own_bit; rw [own_bn0 h]; rfl
theorem own_bnc {P Q : Prop} [Decidable P] [Decidable Q] (h : P ↔ Q) : own_bn P = own_bn Q := by
  by_cases q : P
  · rw [own_bn1 q, own_bn1 (h.1 q)]
  · rw [own_bn0 q, own_bn0 (fun z => q (h.2 z))]
theorem own_bitc {P Q : Prop} [Decidable P] [Decidable Q] (h : P ↔ Q) : own_bit P = own_bit Q := congrArg Int32.ofNat (own_bnc h)
theorem own_ilt {i j : Nat} (hi : i < 16) (hj : j < 16) : Int32.ofNat i < Int32.ofNat j ↔ i < j := by
  rw [Int32.lt_iff_toInt_lt, Int32.toInt_ofNat_small (Nat.lt_trans hi (by decide)), Int32.toInt_ofNat_small (Nat.lt_trans hj (by decide))]; omega
theorem own_bn_le (P : Prop) [Decidable P] : own_bn P ≤ 1 := by
  by_cases h : P
  · rw [own_bn1 h]; exact Nat.le_refl _
  · rw [own_bn0 h]; exact Nat.zero_le _
theorem own_bit01 (P : Prop) [Decidable P] : own_bit P = (0 : Int32) ∨ own_bit P = (1 : Int32) := by
  by_cases h : P
  · exact Or.inr (own_bit1 h)
  · exact Or.inl (own_bit0 h)
theorem own_emp0 (j : Nat) : own_at own_emp j = 0 := by
  by_cases h : j < 16
  · exact (by decide : ∀ j : Fin 16, own_at own_emp j.1 = 0) ⟨j, h⟩
  · unfold own_at; rw [List.getD_eq_getElem?_getD, List.getElem?_eq_none (by show 16 ≤ j; omega)]; rfl
theorem own_hemp {y : Int64} (hy : y ≠ 0) : ¬ own_has own_emp y := fun ⟨i, _, e⟩ => hy (e ▸ own_emp0 i)
theorem own_T_emp : own_T own_emp 0 := ⟨rfl, fun i _ _ _ h => absurd (own_emp0 i) h, fun i _ h => absurd (own_emp0 i) h, by decide⟩
theorem own_law {w1 w2 w3 w4 w5 w6 w7 : List Int64} {k1 k2 k3 k4 k7 : Nat} {sa sb sc sx : Int64} {i20 i21 i22 i23 : Int32} (na : sa ≠ 0) (nb : sb ≠ 0) (nc : sc ≠ 0) (nx : sx ≠ 0)
    (h1 : ∀ y, y ≠ 0 → (own_has w1 y ↔ own_has own_emp y ∨ y = sa)) (h2 : ∀ y, y ≠ 0 → (own_has w2 y ↔ own_has w1 y ∨ y = sb)) (h3 : ∀ y, y ≠ 0 → (own_has w3 y ↔ own_has w2 y ∨ y = sc))
    (h4 : ∀ y, y ≠ 0 → (own_has w4 y ↔ own_has w3 y ∧ y ≠ sx)) (h5 : ∀ y, y ≠ 0 → (own_has w5 y ↔ own_has w4 y ∧ y ≠ sa)) (h6 : ∀ y, y ≠ 0 → (own_has w6 y ↔ own_has w5 y ∧ y ≠ sb)) (h7 : ∀ y, y ≠ 0 → (own_has w7 y ↔ own_has w6 y ∧ y ≠ sc))
    (c1 : k1 = 0 + own_bn (¬ own_has own_emp sa)) (c2 : k2 = k1 + own_bn (¬ own_has w1 sb)) (c3 : k3 = k2 + own_bn (¬ own_has w2 sc)) (c4 : k4 + own_bn (own_has w3 sx) = k3) (T7 : own_T w7 k7)
    (b20 : i20 = own_bit (¬ sb = sa)) (b21 : i21 = own_bit (¬ (sc = sa ∨ sc = sb))) (b22 : i22 = (1 : Int32) + i20 + i21) (b23 : i23 = own_bit (sx = sa ∨ sx = sb ∨ sx = sc)) :
    own_bit (¬ own_has own_emp sa) = (1 : Int32) ∧ own_bit (¬ own_has w1 sb) = i20 ∧ own_bit (¬ own_has w2 sc) = i21 ∧ own_bit (own_has w3 sx) = i23 ∧ Int32.ofNat k4 = i22 - i23 ∧
    own_bit (own_has w4 sa) = own_bit (¬ sa = sx) ∧ own_bit (own_has w5 sb) = own_bit (¬ sb = sx ∧ ¬ sb = sa) ∧ own_bit (own_has w6 sc) = own_bit (¬ sc = sx ∧ ¬ sc = sa ∧ ¬ sc = sb) ∧ Int32.ofNat k7 = (0 : Int32) := by
  have g1 : ∀ y, y ≠ 0 → (own_has w1 y ↔ y = sa) := fun y hy => (h1 y hy).trans ⟨fun q => q.resolve_left (own_hemp hy), Or.inr⟩
  have g2 : ∀ y, y ≠ 0 → (own_has w2 y ↔ (y = sa ∨ y = sb)) := fun y hy => by rw [h2 y hy, g1 y hy]
  have g3 : ∀ y, y ≠ 0 → (own_has w3 y ↔ (y = sa ∨ y = sb ∨ y = sc)) := fun y hy => by rw [h3 y hy, g2 y hy, or_assoc]
  have e1 : (¬ own_has w1 sb) ↔ ¬ sb = sa := not_congr (g1 sb nb)
  have e2 : (¬ own_has w2 sc) ↔ ¬ (sc = sa ∨ sc = sb) := not_congr (g2 sc nc)
  have e3 := g3 sx nx
  refine ⟨own_bit1 (own_hemp na), (own_bitc e1).trans b20.symm, (own_bitc e2).trans b21.symm, (own_bitc e3).trans b23.symm, ?_, own_bitc ?_, own_bitc ?_, own_bitc ?_, ?_⟩
  · rw [own_bn1 (own_hemp na)] at c1
    rw [own_bnc e1] at c2
    rw [own_bnc e2] at c3
    rw [own_bnc e3] at c4
    rw [b22, b20, b21, b23]
    by_cases p1 : sb = sa <;> by_cases p2 : (sc = sa ∨ sc = sb) <;> by_cases p3 : (sx = sa ∨ sx = sb ∨ sx = sc)
    · rw [own_bn0 (fun q => q p1)] at c2; rw [own_bn0 (fun q => q p2)] at c3; rw [own_bn1 p3] at c4; rw [own_bit0 (fun q => q p1), own_bit0 (fun q => q p2), own_bit1 p3, show k4 = 0 by omega]; decide
    · rw [own_bn0 (fun q => q p1)] at c2; rw [own_bn0 (fun q => q p2)] at c3; rw [own_bn0 p3] at c4; rw [own_bit0 (fun q => q p1), own_bit0 (fun q => q p2), own_bit0 p3, show k4 = 1 by omega]; decide
    · rw [own_bn0 (fun q => q p1)] at c2; rw [own_bn1 p2] at c3; rw [own_bn1 p3] at c4; rw [own_bit0 (fun q => q p1), own_bit1 p2, own_bit1 p3, show k4 = 1 by omega]; decide
    · rw [own_bn0 (fun q => q p1)] at c2; rw [own_bn1 p2] at c3; rw [own_bn0 p3] at c4; rw [own_bit0 (fun q => q p1), own_bit1 p2, own_bit0 p3, show k4 = 2 by omega]; decide
    · rw [own_bn1 p1] at c2; rw [own_bn0 (fun q => q p2)] at c3; rw [own_bn1 p3] at c4; rw [own_bit1 p1, own_bit0 (fun q => q p2), own_bit1 p3, show k4 = 1 by omega]; decide
    · rw [own_bn1 p1] at c2; rw [own_bn0 (fun q => q p2)] at c3; rw [own_bn0 p3] at c4; rw [own_bit1 p1, own_bit0 (fun q => q p2), own_bit0 p3, show k4 = 2 by omega]; decide
    · rw [own_bn1 p1] at c2; rw [own_bn1 p2] at c3; rw [own_bn1 p3] at c4; rw [own_bit1 p1, own_bit1 p2, own_bit1 p3, show k4 = 2 by omega]; decide
    · rw [own_bn1 p1] at c2; rw [own_bn1 p2] at c3; rw [own_bn0 p3] at c4; rw [own_bit1 p1, own_bit1 p2, own_bit0 p3, show k4 = 3 by omega]; decide
  · rw [h4 sa na, g3 sa na]; exact ⟨fun q => q.2, fun q => ⟨Or.inl rfl, q⟩⟩
  · rw [h5 sb nb, h4 sb nb, g3 sb nb]; exact ⟨fun q => ⟨q.1.2, q.2⟩, fun q => ⟨⟨Or.inr (Or.inl rfl), q.1⟩, q.2⟩⟩
  · rw [h6 sc nc, h5 sc nc, h4 sc nc, g3 sc nc]; exact ⟨fun q => ⟨q.1.1.2, q.1.2, q.2⟩, fun q => ⟨⟨⟨Or.inr (Or.inr rfl), q.1⟩, q.2.1⟩, q.2.2⟩⟩
  · rw [own_T_nil T7 (fun y hy q => by
      rw [h7 y hy, h6 y hy, h5 y hy, h4 y hy, g3 y hy] at q
      obtain ⟨⟨⟨⟨q1, -⟩, q2⟩, q3⟩, q4⟩ := q
      rcases q1 with q1 | q1 | q1
      · exact q2 q1
      · exact q3 q1
      · exact q4 q1)]; rfl
theorem d1_0 : decode method_2_code 0 = .ok (.lload_n 0, 1) := by decide +kernel
theorem d1_1 : decode method_2_code 1 = .ok (.lconst 0, 1) := by decide +kernel
theorem d1_2 : decode method_2_code 2 = .ok (.lcmp, 1) := by decide +kernel
theorem d1_3 : decode method_2_code 3 = .ok (.ifCond .ne 7, 3) := by decide +kernel
theorem d1_6 : decode method_2_code 6 = .ok (.lconst 1, 1) := by decide +kernel
theorem d1_7 : decode method_2_code 7 = .ok (.goto 4, 3) := by decide +kernel
theorem d1_10 : decode method_2_code 10 = .ok (.lload_n 0, 1) := by decide +kernel
theorem d1_11 : decode method_2_code 11 = .ok (.lreturn, 1) := by decide +kernel
theorem d2_0 : decode prog_2_method_1_code 0 = .ok (.aload_n 0, 1) := by decide +kernel
theorem d2_1 : decode prog_2_method_1_code 1 = .ok (.invokespecial 1, 3) := by decide +kernel
theorem d2_4 : decode prog_2_method_1_code 4 = .ok (.aload_n 0, 1) := by decide +kernel
theorem d2_5 : decode prog_2_method_1_code 5 = .ok (.bipush 16, 2) := by decide +kernel
theorem d2_7 : decode prog_2_method_1_code 7 = .ok (.newarray .long, 2) := by decide +kernel
theorem d2_9 : decode prog_2_method_1_code 9 = .ok (.putfield 9, 3) := by decide +kernel
theorem d2_12 : decode prog_2_method_1_code 12 = .ok (.return_, 1) := by decide +kernel
theorem d4_0 : decode prog_2_method_4_code 0 = .ok (.lload_n 1, 1) := by decide +kernel
theorem d4_1 : decode prog_2_method_4_code 1 = .ok (.invokestatic 25, 3) := by decide +kernel
theorem d4_4 : decode prog_2_method_4_code 4 = .ok (.lstore_n 3, 1) := by decide +kernel
theorem d4_5 : decode prog_2_method_4_code 5 = .ok (.aload_n 0, 1) := by decide +kernel
theorem d4_6 : decode prog_2_method_4_code 6 = .ok (.lload_n 3, 1) := by decide +kernel
theorem d4_7 : decode prog_2_method_4_code 7 = .ok (.invokevirtual 29, 3) := by decide +kernel
theorem d4_10 : decode prog_2_method_4_code 10 = .ok (.istore 5, 2) := by decide +kernel
theorem d4_12 : decode prog_2_method_4_code 12 = .ok (.aload_n 0, 1) := by decide +kernel
theorem d4_13 : decode prog_2_method_4_code 13 = .ok (.getfield 9, 3) := by decide +kernel
theorem d4_16 : decode prog_2_method_4_code 16 = .ok (.iload 5, 2) := by decide +kernel
theorem d4_18 : decode prog_2_method_4_code 18 = .ok (.laload, 1) := by decide +kernel
theorem d4_19 : decode prog_2_method_4_code 19 = .ok (.lload_n 3, 1) := by decide +kernel
theorem d4_20 : decode prog_2_method_4_code 20 = .ok (.lcmp, 1) := by decide +kernel
theorem d4_21 : decode prog_2_method_4_code 21 = .ok (.ifCond .ne 5, 3) := by decide +kernel
theorem d4_24 : decode prog_2_method_4_code 24 = .ok (.iconst 0, 1) := by decide +kernel
theorem d4_25 : decode prog_2_method_4_code 25 = .ok (.ireturn, 1) := by decide +kernel
theorem d4_26 : decode prog_2_method_4_code 26 = .ok (.aload_n 0, 1) := by decide +kernel
theorem d4_27 : decode prog_2_method_4_code 27 = .ok (.getfield 9, 3) := by decide +kernel
theorem d4_30 : decode prog_2_method_4_code 30 = .ok (.iload 5, 2) := by decide +kernel
theorem d4_32 : decode prog_2_method_4_code 32 = .ok (.lload_n 3, 1) := by decide +kernel
theorem d4_33 : decode prog_2_method_4_code 33 = .ok (.lastore, 1) := by decide +kernel
theorem d4_34 : decode prog_2_method_4_code 34 = .ok (.aload_n 0, 1) := by decide +kernel
theorem d4_35 : decode prog_2_method_4_code 35 = .ok (.dup, 1) := by decide +kernel
theorem d4_36 : decode prog_2_method_4_code 36 = .ok (.getfield 21, 3) := by decide +kernel
theorem d4_39 : decode prog_2_method_4_code 39 = .ok (.iconst 1, 1) := by decide +kernel
theorem d4_40 : decode prog_2_method_4_code 40 = .ok (.iadd, 1) := by decide +kernel
theorem d4_41 : decode prog_2_method_4_code 41 = .ok (.putfield 21, 3) := by decide +kernel
theorem d4_44 : decode prog_2_method_4_code 44 = .ok (.aload_n 0, 1) := by decide +kernel
theorem d4_45 : decode prog_2_method_4_code 45 = .ok (.getfield 21, 3) := by decide +kernel
theorem d4_48 : decode prog_2_method_4_code 48 = .ok (.i2d, 1) := by decide +kernel
theorem d4_49 : decode prog_2_method_4_code 49 = .ok (.aload_n 0, 1) := by decide +kernel
theorem d4_50 : decode prog_2_method_4_code 50 = .ok (.getfield 9, 3) := by decide +kernel
theorem d4_53 : decode prog_2_method_4_code 53 = .ok (.arraylength, 1) := by decide +kernel
theorem d4_54 : decode prog_2_method_4_code 54 = .ok (.i2d, 1) := by decide +kernel
theorem d4_55 : decode prog_2_method_4_code 55 = .ok (.ldc2_w 33, 3) := by decide +kernel
theorem d4_58 : decode prog_2_method_4_code 58 = .ok (.dmul, 1) := by decide +kernel
theorem d4_59 : decode prog_2_method_4_code 59 = .ok (.dcmp .l, 1) := by decide +kernel
theorem d4_60 : decode prog_2_method_4_code 60 = .ok (.ifCond .le 20, 3) := by decide +kernel
theorem d4_80 : decode prog_2_method_4_code 80 = .ok (.iconst 1, 1) := by decide +kernel
theorem d4_81 : decode prog_2_method_4_code 81 = .ok (.ireturn, 1) := by decide +kernel
theorem d5_0 : decode prog_2_method_8_code 0 = .ok (.lload_n 0, 1) := by decide +kernel
theorem d5_1 : decode prog_2_method_8_code 1 = .ok (.lconst 0, 1) := by decide +kernel
theorem d5_2 : decode prog_2_method_8_code 2 = .ok (.lcmp, 1) := by decide +kernel
theorem d5_3 : decode prog_2_method_8_code 3 = .ok (.ifCond .ne 7, 3) := by decide +kernel
theorem d5_6 : decode prog_2_method_8_code 6 = .ok (.lconst 1, 1) := by decide +kernel
theorem d5_7 : decode prog_2_method_8_code 7 = .ok (.goto 4, 3) := by decide +kernel
theorem d5_10 : decode prog_2_method_8_code 10 = .ok (.lload_n 0, 1) := by decide +kernel
theorem d5_11 : decode prog_2_method_8_code 11 = .ok (.lreturn, 1) := by decide +kernel
theorem d6_0 : decode prog_2_method_7_code 0 = .ok (.lload_n 1, 1) := by decide +kernel
theorem d6_1 : decode prog_2_method_7_code 1 = .ok (.aload_n 0, 1) := by decide +kernel
theorem d6_2 : decode prog_2_method_7_code 2 = .ok (.getfield 9, 3) := by decide +kernel
theorem d6_5 : decode prog_2_method_7_code 5 = .ok (.arraylength, 1) := by decide +kernel
theorem d6_6 : decode prog_2_method_7_code 6 = .ok (.invokestatic 43, 3) := by decide +kernel
theorem d6_9 : decode prog_2_method_7_code 9 = .ok (.istore_n 3, 1) := by decide +kernel
theorem d6_10 : decode prog_2_method_7_code 10 = .ok (.aload_n 0, 1) := by decide +kernel
theorem d6_11 : decode prog_2_method_7_code 11 = .ok (.getfield 9, 3) := by decide +kernel
theorem d6_14 : decode prog_2_method_7_code 14 = .ok (.iload_n 3, 1) := by decide +kernel
theorem d6_15 : decode prog_2_method_7_code 15 = .ok (.laload, 1) := by decide +kernel
theorem d6_16 : decode prog_2_method_7_code 16 = .ok (.lconst 0, 1) := by decide +kernel
theorem d6_17 : decode prog_2_method_7_code 17 = .ok (.lcmp, 1) := by decide +kernel
theorem d6_18 : decode prog_2_method_7_code 18 = .ok (.ifCond .eq 23, 3) := by decide +kernel
theorem d6_21 : decode prog_2_method_7_code 21 = .ok (.aload_n 0, 1) := by decide +kernel
theorem d6_22 : decode prog_2_method_7_code 22 = .ok (.getfield 9, 3) := by decide +kernel
theorem d6_25 : decode prog_2_method_7_code 25 = .ok (.iload_n 3, 1) := by decide +kernel
theorem d6_26 : decode prog_2_method_7_code 26 = .ok (.laload, 1) := by decide +kernel
theorem d6_27 : decode prog_2_method_7_code 27 = .ok (.lload_n 1, 1) := by decide +kernel
theorem d6_28 : decode prog_2_method_7_code 28 = .ok (.lcmp, 1) := by decide +kernel
theorem d6_29 : decode prog_2_method_7_code 29 = .ok (.ifCond .eq 12, 3) := by decide +kernel
theorem d6_32 : decode prog_2_method_7_code 32 = .ok (.aload_n 0, 1) := by decide +kernel
theorem d6_33 : decode prog_2_method_7_code 33 = .ok (.iload_n 3, 1) := by decide +kernel
theorem d6_34 : decode prog_2_method_7_code 34 = .ok (.invokevirtual 39, 3) := by decide +kernel
theorem d6_37 : decode prog_2_method_7_code 37 = .ok (.istore_n 3, 1) := by decide +kernel
theorem d6_38 : decode prog_2_method_7_code 38 = .ok (.goto (-28), 3) := by decide +kernel
theorem d6_41 : decode prog_2_method_7_code 41 = .ok (.iload_n 3, 1) := by decide +kernel
theorem d6_42 : decode prog_2_method_7_code 42 = .ok (.ireturn, 1) := by decide +kernel
theorem d7_0 : decode prog_2_method_9_code 0 = .ok (.lload_n 0, 1) := by decide +kernel
theorem d7_1 : decode prog_2_method_9_code 1 = .ok (.bipush 32, 2) := by decide +kernel
theorem d7_3 : decode prog_2_method_9_code 3 = .ok (.lushr, 1) := by decide +kernel
theorem d7_4 : decode prog_2_method_9_code 4 = .ok (.iload_n 2, 1) := by decide +kernel
theorem d7_5 : decode prog_2_method_9_code 5 = .ok (.i2l, 1) := by decide +kernel
theorem d7_6 : decode prog_2_method_9_code 6 = .ok (.lmul, 1) := by decide +kernel
theorem d7_7 : decode prog_2_method_9_code 7 = .ok (.bipush 32, 2) := by decide +kernel
theorem d7_9 : decode prog_2_method_9_code 9 = .ok (.lushr, 1) := by decide +kernel
theorem d7_10 : decode prog_2_method_9_code 10 = .ok (.l2i, 1) := by decide +kernel
theorem d7_11 : decode prog_2_method_9_code 11 = .ok (.ireturn, 1) := by decide +kernel
theorem d8_0 : decode prog_2_method_10_code 0 = .ok (.iload_n 1, 1) := by decide +kernel
theorem d8_1 : decode prog_2_method_10_code 1 = .ok (.iconst 1, 1) := by decide +kernel
theorem d8_2 : decode prog_2_method_10_code 2 = .ok (.iadd, 1) := by decide +kernel
theorem d8_3 : decode prog_2_method_10_code 3 = .ok (.aload_n 0, 1) := by decide +kernel
theorem d8_4 : decode prog_2_method_10_code 4 = .ok (.getfield 9, 3) := by decide +kernel
theorem d8_7 : decode prog_2_method_10_code 7 = .ok (.arraylength, 1) := by decide +kernel
theorem d8_8 : decode prog_2_method_10_code 8 = .ok (.if_icmp .ne 7, 3) := by decide +kernel
theorem d8_11 : decode prog_2_method_10_code 11 = .ok (.iconst 0, 1) := by decide +kernel
theorem d8_12 : decode prog_2_method_10_code 12 = .ok (.goto 6, 3) := by decide +kernel
theorem d8_15 : decode prog_2_method_10_code 15 = .ok (.iload_n 1, 1) := by decide +kernel
theorem d8_16 : decode prog_2_method_10_code 16 = .ok (.iconst 1, 1) := by decide +kernel
theorem d8_17 : decode prog_2_method_10_code 17 = .ok (.iadd, 1) := by decide +kernel
theorem d8_18 : decode prog_2_method_10_code 18 = .ok (.ireturn, 1) := by decide +kernel
theorem d9_0 : decode prog_2_method_5_code 0 = .ok (.aload_n 0, 1) := by decide +kernel
theorem d9_1 : decode prog_2_method_5_code 1 = .ok (.lload_n 1, 1) := by decide +kernel
theorem d9_2 : decode prog_2_method_5_code 2 = .ok (.invokestatic 25, 3) := by decide +kernel
theorem d9_5 : decode prog_2_method_5_code 5 = .ok (.invokevirtual 29, 3) := by decide +kernel
theorem d9_8 : decode prog_2_method_5_code 8 = .ok (.istore_n 3, 1) := by decide +kernel
theorem d9_9 : decode prog_2_method_5_code 9 = .ok (.aload_n 0, 1) := by decide +kernel
theorem d9_10 : decode prog_2_method_5_code 10 = .ok (.getfield 9, 3) := by decide +kernel
theorem d9_13 : decode prog_2_method_5_code 13 = .ok (.iload_n 3, 1) := by decide +kernel
theorem d9_14 : decode prog_2_method_5_code 14 = .ok (.laload, 1) := by decide +kernel
theorem d9_15 : decode prog_2_method_5_code 15 = .ok (.lconst 0, 1) := by decide +kernel
theorem d9_16 : decode prog_2_method_5_code 16 = .ok (.lcmp, 1) := by decide +kernel
theorem d9_17 : decode prog_2_method_5_code 17 = .ok (.ifCond .ne 5, 3) := by decide +kernel
theorem d9_20 : decode prog_2_method_5_code 20 = .ok (.iconst 0, 1) := by decide +kernel
theorem d9_21 : decode prog_2_method_5_code 21 = .ok (.ireturn, 1) := by decide +kernel
theorem d9_22 : decode prog_2_method_5_code 22 = .ok (.iload_n 3, 1) := by decide +kernel
theorem d9_23 : decode prog_2_method_5_code 23 = .ok (.istore 4, 2) := by decide +kernel
theorem d9_25 : decode prog_2_method_5_code 25 = .ok (.aload_n 0, 1) := by decide +kernel
theorem d9_26 : decode prog_2_method_5_code 26 = .ok (.iload 4, 2) := by decide +kernel
theorem d9_28 : decode prog_2_method_5_code 28 = .ok (.invokevirtual 39, 3) := by decide +kernel
theorem d9_31 : decode prog_2_method_5_code 31 = .ok (.istore 5, 2) := by decide +kernel
theorem d9_33 : decode prog_2_method_5_code 33 = .ok (.aload_n 0, 1) := by decide +kernel
theorem d9_34 : decode prog_2_method_5_code 34 = .ok (.getfield 9, 3) := by decide +kernel
theorem d9_37 : decode prog_2_method_5_code 37 = .ok (.iload 5, 2) := by decide +kernel
theorem d9_39 : decode prog_2_method_5_code 39 = .ok (.laload, 1) := by decide +kernel
theorem d9_40 : decode prog_2_method_5_code 40 = .ok (.lconst 0, 1) := by decide +kernel
theorem d9_41 : decode prog_2_method_5_code 41 = .ok (.lcmp, 1) := by decide +kernel
theorem d9_42 : decode prog_2_method_5_code 42 = .ok (.ifCond .eq 104, 3) := by decide +kernel
theorem d9_45 : decode prog_2_method_5_code 45 = .ok (.aload_n 0, 1) := by decide +kernel
theorem d9_46 : decode prog_2_method_5_code 46 = .ok (.getfield 9, 3) := by decide +kernel
theorem d9_49 : decode prog_2_method_5_code 49 = .ok (.iload 5, 2) := by decide +kernel
theorem d9_51 : decode prog_2_method_5_code 51 = .ok (.laload, 1) := by decide +kernel
theorem d9_52 : decode prog_2_method_5_code 52 = .ok (.aload_n 0, 1) := by decide +kernel
theorem d9_53 : decode prog_2_method_5_code 53 = .ok (.getfield 9, 3) := by decide +kernel
theorem d9_56 : decode prog_2_method_5_code 56 = .ok (.arraylength, 1) := by decide +kernel
theorem d9_57 : decode prog_2_method_5_code 57 = .ok (.invokestatic 43, 3) := by decide +kernel
theorem d9_60 : decode prog_2_method_5_code 60 = .ok (.istore 6, 2) := by decide +kernel
theorem d9_62 : decode prog_2_method_5_code 62 = .ok (.iload 4, 2) := by decide +kernel
theorem d9_64 : decode prog_2_method_5_code 64 = .ok (.iload 5, 2) := by decide +kernel
theorem d9_66 : decode prog_2_method_5_code 66 = .ok (.if_icmp .ge 25, 3) := by decide +kernel
theorem d9_69 : decode prog_2_method_5_code 69 = .ok (.iload 6, 2) := by decide +kernel
theorem d9_71 : decode prog_2_method_5_code 71 = .ok (.iload 4, 2) := by decide +kernel
theorem d9_73 : decode prog_2_method_5_code 73 = .ok (.if_icmp .le 14, 3) := by decide +kernel
theorem d9_76 : decode prog_2_method_5_code 76 = .ok (.iload 6, 2) := by decide +kernel
theorem d9_78 : decode prog_2_method_5_code 78 = .ok (.iload 5, 2) := by decide +kernel
theorem d9_80 : decode prog_2_method_5_code 80 = .ok (.if_icmp .gt 7, 3) := by decide +kernel
theorem d9_83 : decode prog_2_method_5_code 83 = .ok (.iconst 1, 1) := by decide +kernel
theorem d9_84 : decode prog_2_method_5_code 84 = .ok (.goto 26, 3) := by decide +kernel
theorem d9_87 : decode prog_2_method_5_code 87 = .ok (.iconst 0, 1) := by decide +kernel
theorem d9_88 : decode prog_2_method_5_code 88 = .ok (.goto 22, 3) := by decide +kernel
theorem d9_91 : decode prog_2_method_5_code 91 = .ok (.iload 6, 2) := by decide +kernel
theorem d9_93 : decode prog_2_method_5_code 93 = .ok (.iload 4, 2) := by decide +kernel
theorem d9_95 : decode prog_2_method_5_code 95 = .ok (.if_icmp .gt 10, 3) := by decide +kernel
theorem d9_98 : decode prog_2_method_5_code 98 = .ok (.iload 6, 2) := by decide +kernel
theorem d9_100 : decode prog_2_method_5_code 100 = .ok (.iload 5, 2) := by decide +kernel
theorem d9_102 : decode prog_2_method_5_code 102 = .ok (.if_icmp .gt 7, 3) := by decide +kernel
theorem d9_105 : decode prog_2_method_5_code 105 = .ok (.iconst 1, 1) := by decide +kernel
theorem d9_106 : decode prog_2_method_5_code 106 = .ok (.goto 4, 3) := by decide +kernel
theorem d9_109 : decode prog_2_method_5_code 109 = .ok (.iconst 0, 1) := by decide +kernel
theorem d9_110 : decode prog_2_method_5_code 110 = .ok (.istore 7, 2) := by decide +kernel
theorem d9_112 : decode prog_2_method_5_code 112 = .ok (.iload 7, 2) := by decide +kernel
theorem d9_114 : decode prog_2_method_5_code 114 = .ok (.ifCond .ne 21, 3) := by decide +kernel
theorem d9_117 : decode prog_2_method_5_code 117 = .ok (.aload_n 0, 1) := by decide +kernel
theorem d9_118 : decode prog_2_method_5_code 118 = .ok (.getfield 9, 3) := by decide +kernel
theorem d9_121 : decode prog_2_method_5_code 121 = .ok (.iload 4, 2) := by decide +kernel
theorem d9_123 : decode prog_2_method_5_code 123 = .ok (.aload_n 0, 1) := by decide +kernel
theorem d9_124 : decode prog_2_method_5_code 124 = .ok (.getfield 9, 3) := by decide +kernel
theorem d9_127 : decode prog_2_method_5_code 127 = .ok (.iload 5, 2) := by decide +kernel
theorem d9_129 : decode prog_2_method_5_code 129 = .ok (.laload, 1) := by decide +kernel
theorem d9_130 : decode prog_2_method_5_code 130 = .ok (.lastore, 1) := by decide +kernel
theorem d9_131 : decode prog_2_method_5_code 131 = .ok (.iload 5, 2) := by decide +kernel
theorem d9_133 : decode prog_2_method_5_code 133 = .ok (.istore 4, 2) := by decide +kernel
theorem d9_135 : decode prog_2_method_5_code 135 = .ok (.aload_n 0, 1) := by decide +kernel
theorem d9_136 : decode prog_2_method_5_code 136 = .ok (.iload 5, 2) := by decide +kernel
theorem d9_138 : decode prog_2_method_5_code 138 = .ok (.invokevirtual 39, 3) := by decide +kernel
theorem d9_141 : decode prog_2_method_5_code 141 = .ok (.istore 5, 2) := by decide +kernel
theorem d9_143 : decode prog_2_method_5_code 143 = .ok (.goto (-110), 3) := by decide +kernel
theorem d9_146 : decode prog_2_method_5_code 146 = .ok (.aload_n 0, 1) := by decide +kernel
theorem d9_147 : decode prog_2_method_5_code 147 = .ok (.getfield 9, 3) := by decide +kernel
theorem d9_150 : decode prog_2_method_5_code 150 = .ok (.iload 4, 2) := by decide +kernel
theorem d9_152 : decode prog_2_method_5_code 152 = .ok (.lconst 0, 1) := by decide +kernel
theorem d9_153 : decode prog_2_method_5_code 153 = .ok (.lastore, 1) := by decide +kernel
theorem d9_154 : decode prog_2_method_5_code 154 = .ok (.aload_n 0, 1) := by decide +kernel
theorem d9_155 : decode prog_2_method_5_code 155 = .ok (.dup, 1) := by decide +kernel
theorem d9_156 : decode prog_2_method_5_code 156 = .ok (.getfield 21, 3) := by decide +kernel
theorem d9_159 : decode prog_2_method_5_code 159 = .ok (.iconst 1, 1) := by decide +kernel
theorem d9_160 : decode prog_2_method_5_code 160 = .ok (.isub, 1) := by decide +kernel
theorem d9_161 : decode prog_2_method_5_code 161 = .ok (.putfield 21, 3) := by decide +kernel
theorem d9_164 : decode prog_2_method_5_code 164 = .ok (.aload_n 0, 1) := by decide +kernel
theorem d9_165 : decode prog_2_method_5_code 165 = .ok (.getfield 21, 3) := by decide +kernel
theorem d9_168 : decode prog_2_method_5_code 168 = .ok (.i2d, 1) := by decide +kernel
theorem d9_169 : decode prog_2_method_5_code 169 = .ok (.aload_n 0, 1) := by decide +kernel
theorem d9_170 : decode prog_2_method_5_code 170 = .ok (.getfield 9, 3) := by decide +kernel
theorem d9_173 : decode prog_2_method_5_code 173 = .ok (.arraylength, 1) := by decide +kernel
theorem d9_174 : decode prog_2_method_5_code 174 = .ok (.i2d, 1) := by decide +kernel
theorem d9_175 : decode prog_2_method_5_code 175 = .ok (.ldc2_w 47, 3) := by decide +kernel
theorem d9_178 : decode prog_2_method_5_code 178 = .ok (.dmul, 1) := by decide +kernel
theorem d9_179 : decode prog_2_method_5_code 179 = .ok (.dcmp .g, 1) := by decide +kernel
theorem d9_180 : decode prog_2_method_5_code 180 = .ok (.ifCond .ge 28, 3) := by decide +kernel
theorem d9_183 : decode prog_2_method_5_code 183 = .ok (.aload_n 0, 1) := by decide +kernel
theorem d9_184 : decode prog_2_method_5_code 184 = .ok (.getfield 9, 3) := by decide +kernel
theorem d9_187 : decode prog_2_method_5_code 187 = .ok (.arraylength, 1) := by decide +kernel
theorem d9_188 : decode prog_2_method_5_code 188 = .ok (.bipush 16, 2) := by decide +kernel
theorem d9_190 : decode prog_2_method_5_code 190 = .ok (.if_icmp .le 18, 3) := by decide +kernel
theorem d9_208 : decode prog_2_method_5_code 208 = .ok (.iconst 1, 1) := by decide +kernel
theorem d9_209 : decode prog_2_method_5_code 209 = .ok (.ireturn, 1) := by decide +kernel
theorem d10_0 : decode prog_2_method_3_code 0 = .ok (.aload_n 0, 1) := by decide +kernel
theorem d10_1 : decode prog_2_method_3_code 1 = .ok (.getfield 21, 3) := by decide +kernel
theorem d10_4 : decode prog_2_method_3_code 4 = .ok (.ireturn, 1) := by decide +kernel
theorem pd_0 : parseMethodDescriptor "(I)I" = some ⟨[.int], some .int⟩ := by decide +kernel
theorem pd_1 : parseMethodDescriptor "(JI)I" = some ⟨[.long, .int], some .int⟩ := by decide +kernel
theorem pd_2 : parseMethodDescriptor "(J)J" = some ⟨[.long], some .long⟩ := by decide +kernel
theorem pd_3 : parseMethodDescriptor "(J)I" = some ⟨[.long], some .int⟩ := by decide +kernel
theorem pd_4 : parseMethodDescriptor "()V" = some ⟨[], none⟩ := by decide +kernel
theorem pd_5 : parseMethodDescriptor "(J)Z" = some ⟨[.long], some .boolean⟩ := by decide +kernel
theorem pd_6 : parseMethodDescriptor "()I" = some ⟨[], some .int⟩ := by decide +kernel
theorem pn_2 : plainName "com/example/utsatt/utsatt/KeyHashes" = true := by first | (simp [plainName, overriddenIn]; done) | decide +kernel
theorem pn_1 : plainName "com/example/utsatt/utsatt/KeyHashesRemovePinLaw" = true := by first | (simp [plainName, overriddenIn]; done) | decide +kernel
theorem ef_ini (m : MethodId) (x0 : Addr) : entryFrame m #[(.ref x0)] 1 = mkF m 0 #[.val (.ref x0)] [] := by first | (simp [entryFrame, mkF, argsToLocals, Value.category]; done) | rfl
theorem ef_sto (m : MethodId) (x0 : Int64) : entryFrame m #[(.long x0)] 2 = mkF m 0 #[.val (.long x0), .second] [] := by first | (simp [entryFrame, mkF, argsToLocals, Value.category]; done) | rfl
theorem ef_home (m : MethodId) (x0 : Int64) (x1 : Int32) : entryFrame m #[(.long x0), (.int x1)] 3 = mkF m 0 #[.val (.long x0), .second, .val (.int x1)] [] := by first | (simp [entryFrame, mkF, argsToLocals, Value.category]; done) | rfl
theorem ef_next (m : MethodId) (x0 : Addr) (x1 : Int32) : entryFrame m #[(.ref x0), (.int x1)] 2 = mkF m 0 #[.val (.ref x0), .val (.int x1)] [] := by first | (simp [entryFrame, mkF, argsToLocals, Value.category]; done) | rfl
theorem ef_slot (m : MethodId) (x0 : Addr) (x1 : Int64) : entryFrame m #[(.ref x0), (.long x1)] 4 = mkF m 0 #[.val (.ref x0), .val (.long x1), .second, .unset] [] := by first | (simp [entryFrame, mkF, argsToLocals, Value.category]; done) | rfl
theorem ef_siz (m : MethodId) (x0 : Addr) : entryFrame m #[(.ref x0)] 1 = mkF m 0 #[.val (.ref x0)] [] := by first | (simp [entryFrame, mkF, argsToLocals, Value.category]; done) | rfl
theorem ef_nrm (m : MethodId) (x0 : Int64) : entryFrame m #[(.long x0)] 2 = mkF m 0 #[.val (.long x0), .second] [] := by first | (simp [entryFrame, mkF, argsToLocals, Value.category]; done) | rfl
theorem ef_addG (m : MethodId) (x0 : Addr) (x1 : Int64) : entryFrame m #[(.ref x0), (.long x1)] 6 = mkF m 0 #[.val (.ref x0), .val (.long x1), .second, .unset, .unset, .unset] [] := by first | (simp [entryFrame, mkF, argsToLocals, Value.category]; done) | rfl
theorem ef_remG (m : MethodId) (x0 : Addr) (x1 : Int64) : entryFrame m #[(.ref x0), (.long x1)] 8 = mkF m 0 #[.val (.ref x0), .val (.long x1), .second, .unset, .unset, .unset, .unset, .unset] [] := by first | (simp [entryFrame, mkF, argsToLocals, Value.category]; done) | rfl
theorem ef_0 (m : MethodId) (x0 : Int64) (x1 : Int64) (x2 : Int64) (x3 : Int64) (x4 : Int32) : entryFrame m #[(.long x0), (.long x1), (.long x2), (.long x3), (.int x4)] maxLocals = mkF m 0 #[.val (.long x0), .second, .val (.long x1), .second, .val (.long x2), .second, .val (.long x3), .second, .val (.int x4), .unset, .unset, .unset, .unset, .unset, .unset, .unset, .unset, .unset, .unset, .unset, .unset, .unset, .unset, .unset, .unset, .unset, .unset, .unset, .unset, .unset, .unset, .unset, .unset, .unset] [] := by first | (simp [entryFrame, mkF, argsToLocals, Value.category, maxLocals]; done) | rfl
def Qini (Z : State) (o : Addr) (h0 : Heap) (n0 : Nat) (v : Option Value) (h : Heap) (L : List Loc) : Prop := v = none ∧ Fr n0 L ∧ Keep h0 h [o] ∧ Exa Z h o "com/example/utsatt/utsatt/KeyHashes" ∧ Fld Z h o "com/example/utsatt/utsatt/KeyHashes" "size" "I" (.int (0 : Int32)) ∧ ∃ (t : Addr) (kc : ClassId), Fld Z h o "com/example/utsatt/utsatt/KeyHashes" "slots" "[J" (.ref t) ∧ Arv Z h t kc .long (16 : Int32) (own_emp.map Value.long) (.long (0 : Int64)) ∧ h0.size ≤ t
set_option maxRecDepth 65536 in
set_option maxHeartbeats 40000000 in
theorem rmini (l : Launch) (Z : State) (a0 : Array Value) (hw : ∀ d ∈ tables_1, d.before a0 Z = true) (ws : List Jvm.Cond) (o : Addr) (h0 : Heap) (n0 : Nat) (Z0 : n0 ≤ h0.size) (E_o : Exa Z h0 o "com/example/utsatt/utsatt/KeyHashes") (F_slots_o : Fld Z h0 o "com/example/utsatt/utsatt/KeyHashes" "slots" "[J" .null) (F_size_o : Fld Z h0 o "com/example/utsatt/utsatt/KeyHashes" "size" "I" (.int (0 : Int32))) (g_o : n0 ≤ o) :
    MetFree l (⟨"com/example/utsatt/utsatt/KeyHashes", "<init>", "()V"⟩ : MethodName) (head1 (Jvm.Cond.code (⟨"com/example/utsatt/utsatt/KeyHashes", "<init>", "()V"⟩ : MethodName) prog_2_method_1_code 1 none :: ws) ({ frames := 1, cells := 1, slots := 16, locals := 12 } : Room)) (fun as_ UU => as_ = #[(.ref o)] ∧ Z.Warmed39 UU.vm ∧ UU.heap = h0) (fun _ _ _ _ _ => True) (fun _ UU oo UU' => ∃ vv LL, oo = .returned vv ∧ (Qini Z o h0 n0) vv UU'.heap LL ∧ FrameEnd UU oo UU' LL ({ frames := 1, cells := 1, slots := 16, locals := 12 } : Room).cells ({ frames := 1, cells := 1, slots := 16, locals := 12 } : Room).slots) := by
  refine own_met (plainFor_of_name pn_2) ?_
  intro p e s m below meth c s₁ X0 hx hby hml hret hlk hown hnm hZ e0
  have N0 := Fr.nil n0
  have Z_ := Z0
  refine OwnGo.cast (ef_ini m o) ?_
  show OwnGo p e below s _ _ _ s₁ (mkF m 0 #[.val (.ref o)] [])
  have Kp : Keep h0 h0 [o] := Keep.refl h0 [o]
  refine OwnGo.st (fun _ kk => XS.aloadN X0.here hx rfl (hb hby d2_0) rfl rfl  kk) ?_
  show OwnGo p e below s _ _ _ s₁ (mkF m 1 #[.val (.ref o)] [(.ref o)])
  obtain ⟨T1, X1, e1, st1⟩ := initO X0 hx hZ hown (hw _ (List.mem_of_getElem? (i := 10) rfl)) (hw _ (List.mem_of_getElem? (i := 11) rfl)) (hw _ (List.mem_of_getElem? (i := 12) rfl)) e0 (g := (mkF m 1 #[.val (.ref o)] [(.ref o)])) rfl (by rw [hml]; rfl) rfl (hb hby d2_1) (by decide) (W := 0) (by show 2 * 0 + _ ≤ _; exact Nat.le_of_eq rfl) (by decide)
  refine OwnGo.st st1 ?_
  show OwnGo p e below s _ _ _ T1 (mkF m 4 #[.val (.ref o)] [])
  refine OwnGo.st (fun _ kk => XS.aloadN X1.here hx rfl (hb hby d2_4) rfl rfl  kk) ?_
  show OwnGo p e below s _ _ _ T1 (mkF m 5 #[.val (.ref o)] [(.ref o)])
  refine OwnGo.st (fun _ kk => XS.bipush X1.here hx rfl (hb hby d2_5) kk) ?_
  show OwnGo p e below s _ _ _ T1 (mkF m 7 #[.val (.ref o)] [(.int (16 : Int32)), (.ref o)])
  obtain ⟨T2, h2, k2, X2, e2, E2, A2, Ex2, st2⟩ := newPE X1 hx hZ (hw _ (List.mem_of_getElem? (i := 13) rfl)) e1 (g := (mkF m 7 #[.val (.ref o)] [(.int (16 : Int32)), (.ref o)])) rfl (hb hby d2_7) rfl (by decide) (cap := 16) (by decide) (by decide) (by decide) (by decide) (ad := "[J") (by decide)
  obtain ⟨b2, g2⟩ : ∃ z, z = h0.size := ⟨_, rfl⟩
  rw [← g2] at A2 Ex2 st2
  have ne_o_b2 : o ≠ b2 := Nat.ne_of_lt (Nat.lt_of_lt_of_le E_o.lt (Nat.le_of_eq g2.symm))
  have g_b2 : n0 ≤ b2 := Nat.le_trans Z_ (Nat.le_of_eq g2.symm)
  have sz_b2 : h0.size ≤ b2 := Nat.le_trans Kp.1 (Nat.le_of_eq g2.symm)
  have E_o := E_o.ext E2
  have F_slots_o := F_slots_o.ext E2
  have F_size_o := F_size_o.ext E2
  have Kp := Kp.ext E2
  have Z_ : n0 ≤ h2.size := Nat.le_trans Z_ E2.1
  have V_b2 : Arv Z h2 b2 k2 .long (16 : Int32) [(.long (0 : Int64)), (.long (0 : Int64)), (.long (0 : Int64)), (.long (0 : Int64)), (.long (0 : Int64)), (.long (0 : Int64)), (.long (0 : Int64)), (.long (0 : Int64)), (.long (0 : Int64)), (.long (0 : Int64)), (.long (0 : Int64)), (.long (0 : Int64)), (.long (0 : Int64)), (.long (0 : Int64)), (.long (0 : Int64)), (.long (0 : Int64))] (.long (0 : Int64)) := (Arv.new A2 (by decide)).pad (pad_rep [] (.long (0 : Int64)) 16)
  have E_b2 := Ex2
  refine OwnGo.st st2 ?_
  show OwnGo p e below s _ _ _ T2 (mkF m 9 #[.val (.ref o)] [(.ref b2), (.ref o)])
  obtain ⟨T3, h3, X3, e3, W3, st3⟩ := putF X2 hx hZ hown (host := "") (Or.inl (hw _ (List.mem_of_getElem? (i := 14) rfl))) Via.refl e2 F_slots_o E_o (Or.inl (hw _ (List.mem_of_getElem? (i := 15) rfl))) (hw _ (List.mem_of_getElem? (i := 5) rfl)) (ty := (.array .long)) (by decide) rfl rfl (g := (mkF m 9 #[.val (.ref o)] [(.ref b2), (.ref o)])) rfl rfl (hb hby d2_9)
  have E_o := E_o.wr W3
  have F_slots_o := F_slots_o.same W3
  have F_size_o := F_size_o.other W3 (Or.inr (slot_ne (Or.inl (hw _ (List.mem_of_getElem? (i := 32) rfl))) (Or.inl (hw _ (List.mem_of_getElem? (i := 15) rfl))) (by decide) (t := .int) (t' := (.array .long)) (by decide) (by decide)))
  have V_b2 := V_b2.other W3 (Ne.symm ne_o_b2)
  have E_b2 := E_b2.wr W3
  have Kp := Kp.wr W3 (Or.inl (List.mem_of_getElem? (i := 0) rfl))
  have N3 := Fr.snoc X3 N0 g_o
  have Z_ : n0 ≤ h3.size := by rw [W3.size]; exact Z_
  refine OwnGo.st st3 ?_
  show OwnGo p e below s _ _ _ T3 (mkF m 12 #[.val (.ref o)] [])
  exact OwnGo.retV X3 hx hret hlk (hb hby d2_12) (by show Qini Z o h0 n0 _ T3.heap _; rw [e3]; exact ⟨rfl, N3, Kp, E_o, F_size_o, b2, k2, F_slots_o, V_b2, sz_b2⟩) (by decide) (by decide)
def Qsto (Z : State) (p1 : Int64) (h0 : Heap) (n0 : Nat) (v : Option Value) (h : Heap) (L : List Loc) : Prop := v = some (.long (own_st p1)) ∧ Fr n0 L ∧ h = h0
set_option maxRecDepth 65536 in
set_option maxHeartbeats 40000000 in
theorem rmsto (l : Launch) (Z : State) (a0 : Array Value) (hw : ∀ d ∈ tables_1, d.before a0 Z = true) (ws : List Jvm.Cond) (p1 : Int64) (h0 : Heap) (n0 : Nat) (Z0 : n0 ≤ h0.size) :
    MetFree l (⟨"com/example/utsatt/utsatt/KeyHashes", "stored", "(J)J"⟩ : MethodName) (head1 (Jvm.Cond.code (⟨"com/example/utsatt/utsatt/KeyHashes", "stored", "(J)J"⟩ : MethodName) prog_2_method_8_code 2 (some .long) :: ws) ({ frames := 0, cells := 0, slots := 0, locals := 0 } : Room)) (fun as_ UU => as_ = #[(.long p1)] ∧ Z.Warmed39 UU.vm ∧ UU.heap = h0) (fun _ _ _ _ _ => True) (fun _ UU oo UU' => ∃ vv LL, oo = .returned vv ∧ (Qsto Z p1 h0 n0) vv UU'.heap LL ∧ FrameEnd UU oo UU' LL ({ frames := 0, cells := 0, slots := 0, locals := 0 } : Room).cells ({ frames := 0, cells := 0, slots := 0, locals := 0 } : Room).slots) := by
  refine own_met (plainFor_of_name pn_2) ?_
  intro p e s m below meth c s₁ X0 hx hby hml hret hlk hown hnm hZ e0
  have N0 := Fr.nil n0
  have Z_ := Z0
  refine OwnGo.cast (ef_sto m p1) ?_
  show OwnGo p e below s _ _ _ s₁ (mkF m 0 #[.val (.long p1), .second] [])
  refine OwnGo.st (fun _ kk => XS.lloadN X0.here hx rfl (hb hby d5_0) rfl  kk) ?_
  show OwnGo p e below s _ _ _ s₁ (mkF m 1 #[.val (.long p1), .second] [(.long p1)])
  refine OwnGo.st (fun _ kk => XS.lconst X0.here hx rfl (hb hby d5_1) kk) ?_
  show OwnGo p e below s _ _ _ s₁ (mkF m 2 #[.val (.long p1), .second] [(.long (0 : Int64)), (.long p1)])
  refine OwnGo.st (fun _ kk => XS.lcmp X0.here hx rfl (hb hby d5_2) rfl kk) ?_
  show OwnGo p e below s _ _ _ s₁ (mkF m 3 #[.val (.long p1), .second] [(.int (lcmpW p1 (0 : Int64)))])
  by_cases hz : p1 = (0 : Int64)
  · refine OwnGo.st (fun _ kk => XS.ifNo X0.here hx rfl (hb hby d5_3) rfl ((if0 _ _).trans (teq (((lw_eq _ _).2 hz) : (lcmpW p1 (0 : Int64)) = (0 : Int32))).2) kk) ?_
    show OwnGo p e below s _ _ _ s₁ (mkF m 6 #[.val (.long p1), .second] [])
    refine OwnGo.st (fun _ kk => XS.lconst X0.here hx rfl (hb hby d5_6) kk) ?_
    show OwnGo p e below s _ _ _ s₁ (mkF m 7 #[.val (.long p1), .second] [(.long (1 : Int64))])
    refine OwnGo.st (fun _ kk => XS.goto X0.here hx rfl (pc0 := 7) (pc' := 11) rfl (hb hby d5_7) (by decide) (by decide) kk) ?_
    show OwnGo p e below s _ _ _ s₁ (mkF m 11 #[.val (.long p1), .second] [(.long (1 : Int64))])
    exact OwnGo.ret X0 hx hret hlk rfl (Or.inr (Or.inl ⟨rfl, rfl, _, rfl⟩)) (hb hby d5_11) (by show Qsto Z p1 h0 n0 _ s₁.heap _; rw [e0]; exact ⟨congrArg (fun z => some (Value.long z)) (own_st0 hz).symm, N0, rfl⟩) (by decide) (by decide)
  · refine OwnGo.st (fun _ kk => XS.ifYes X0.here hx rfl (pc0 := 3) (pc' := 10) rfl (hb hby d5_3) rfl ((if0 _ _).trans (feq ((fun q => hz ((lw_eq _ _).1 q)) : ¬ ((lcmpW p1 (0 : Int64)) = (0 : Int32)))).2) (by decide) (by decide) kk) ?_
    show OwnGo p e below s _ _ _ s₁ (mkF m 10 #[.val (.long p1), .second] [])
    refine OwnGo.st (fun _ kk => XS.lloadN X0.here hx rfl (hb hby d5_10) rfl  kk) ?_
    show OwnGo p e below s _ _ _ s₁ (mkF m 11 #[.val (.long p1), .second] [(.long p1)])
    exact OwnGo.ret X0 hx hret hlk rfl (Or.inr (Or.inl ⟨rfl, rfl, _, rfl⟩)) (hb hby d5_11) (by show Qsto Z p1 h0 n0 _ s₁.heap _; rw [e0]; exact ⟨congrArg (fun z => some (Value.long z)) (own_st1 hz).symm, N0, rfl⟩) (by decide) (by decide)
def Qhome (Z : State) (x : Int64) (h0 : Heap) (n0 : Nat) (v : Option Value) (h : Heap) (L : List Loc) : Prop := v = some (.int (Int32.ofNat (own_home x))) ∧ Fr n0 L ∧ h = h0
set_option maxRecDepth 65536 in
set_option maxHeartbeats 40000000 in
theorem rmhome (l : Launch) (Z : State) (a0 : Array Value) (hw : ∀ d ∈ tables_1, d.before a0 Z = true) (ws : List Jvm.Cond) (x : Int64) (h0 : Heap) (n0 : Nat) (Z0 : n0 ≤ h0.size) :
    MetFree l (⟨"com/example/utsatt/utsatt/KeyHashes", "home", "(JI)I"⟩ : MethodName) (head1 (Jvm.Cond.code (⟨"com/example/utsatt/utsatt/KeyHashes", "home", "(JI)I"⟩ : MethodName) prog_2_method_9_code 3 (some .int) :: ws) ({ frames := 0, cells := 0, slots := 0, locals := 0 } : Room)) (fun as_ UU => as_ = #[(.long x), (.int (16 : Int32))] ∧ Z.Warmed39 UU.vm ∧ UU.heap = h0) (fun _ _ _ _ _ => True) (fun _ UU oo UU' => ∃ vv LL, oo = .returned vv ∧ (Qhome Z x h0 n0) vv UU'.heap LL ∧ FrameEnd UU oo UU' LL ({ frames := 0, cells := 0, slots := 0, locals := 0 } : Room).cells ({ frames := 0, cells := 0, slots := 0, locals := 0 } : Room).slots) := by
  refine own_met (plainFor_of_name pn_2) ?_
  intro p e s m below meth c s₁ X0 hx hby hml hret hlk hown hnm hZ e0
  have N0 := Fr.nil n0
  have Z_ := Z0
  refine OwnGo.cast (ef_home m x (16 : Int32)) ?_
  show OwnGo p e below s _ _ _ s₁ (mkF m 0 #[.val (.long x), .second, .val (.int (16 : Int32))] [])
  refine OwnGo.st (fun _ kk => XS.lloadN X0.here hx rfl (hb hby d7_0) rfl  kk) ?_
  show OwnGo p e below s _ _ _ s₁ (mkF m 1 #[.val (.long x), .second, .val (.int (16 : Int32))] [(.long x)])
  refine OwnGo.st (fun _ kk => XS.bipush X0.here hx rfl (hb hby d7_1) kk) ?_
  show OwnGo p e below s _ _ _ s₁ (mkF m 3 #[.val (.long x), .second, .val (.int (16 : Int32))] [(.int (32 : Int32)), (.long x)])
  refine OwnGo.st (fun _ kk => XS.lushr X0.here hx rfl (hb hby d7_3) rfl kk) ?_
  show OwnGo p e below s _ _ _ s₁ (mkF m 4 #[.val (.long x), .second, .val (.int (16 : Int32))] [(.long ((x.toUInt64 >>> ((32 : Int32) &&& 0x3f).toInt64.toUInt64).toInt64))])
  refine OwnGo.st (fun _ kk => XS.iloadN X0.here hx rfl (hb hby d7_4) rfl  kk) ?_
  show OwnGo p e below s _ _ _ s₁ (mkF m 5 #[.val (.long x), .second, .val (.int (16 : Int32))] [(.int (16 : Int32)), (.long ((x.toUInt64 >>> ((32 : Int32) &&& 0x3f).toInt64.toUInt64).toInt64))])
  refine OwnGo.st (fun _ kk => XS.i2l X0.here hx rfl (hb hby d7_5) rfl kk) ?_
  show OwnGo p e below s _ _ _ s₁ (mkF m 6 #[.val (.long x), .second, .val (.int (16 : Int32))] [(.long ((16 : Int32).toInt64)), (.long ((x.toUInt64 >>> ((32 : Int32) &&& 0x3f).toInt64.toUInt64).toInt64))])
  refine OwnGo.st (fun _ kk => XS.lmul X0.here hx rfl (hb hby d7_6) rfl kk) ?_
  show OwnGo p e below s _ _ _ s₁ (mkF m 7 #[.val (.long x), .second, .val (.int (16 : Int32))] [(.long (((x.toUInt64 >>> ((32 : Int32) &&& 0x3f).toInt64.toUInt64).toInt64) * ((16 : Int32).toInt64)))])
  refine OwnGo.st (fun _ kk => XS.bipush X0.here hx rfl (hb hby d7_7) kk) ?_
  show OwnGo p e below s _ _ _ s₁ (mkF m 9 #[.val (.long x), .second, .val (.int (16 : Int32))] [(.int (32 : Int32)), (.long (((x.toUInt64 >>> ((32 : Int32) &&& 0x3f).toInt64.toUInt64).toInt64) * ((16 : Int32).toInt64)))])
  refine OwnGo.st (fun _ kk => XS.lushr X0.here hx rfl (hb hby d7_9) rfl kk) ?_
  show OwnGo p e below s _ _ _ s₁ (mkF m 10 #[.val (.long x), .second, .val (.int (16 : Int32))] [(.long (((((x.toUInt64 >>> ((32 : Int32) &&& 0x3f).toInt64.toUInt64).toInt64) * ((16 : Int32).toInt64)).toUInt64 >>> ((32 : Int32) &&& 0x3f).toInt64.toUInt64).toInt64))])
  refine OwnGo.st (fun _ kk => XS.l2i X0.here hx rfl (hb hby d7_10) rfl kk) ?_
  show OwnGo p e below s _ _ _ s₁ (mkF m 11 #[.val (.long x), .second, .val (.int (16 : Int32))] [(.int ((((((x.toUInt64 >>> ((32 : Int32) &&& 0x3f).toInt64.toUInt64).toInt64) * ((16 : Int32).toInt64)).toUInt64 >>> ((32 : Int32) &&& 0x3f).toInt64.toUInt64).toInt64).toInt32))])
  show OwnGo p e below s _ _ _ s₁ (mkF m 11 #[.val (.long x), .second, .val (.int (16 : Int32))] [(.int (own_hx x))])
  exact OwnGo.ret X0 hx hret hlk rfl (Or.inl ⟨rfl, Or.inl rfl, _, rfl⟩) (hb hby d7_11) (by show Qhome Z x h0 n0 _ s₁.heap _; rw [e0]; exact ⟨congrArg (fun z => some (Value.int z)) (own_home_eq x), N0, rfl⟩) (by decide) (by decide)
def Qnext (Z : State) (o : Addr) (t : Addr) (kc : ClassId) (vs : List Int64) (j : Nat) (h0 : Heap) (n0 : Nat) (v : Option Value) (h : Heap) (L : List Loc) : Prop := v = some (.int (Int32.ofNat (own_nx j))) ∧ Fr n0 L ∧ h = h0
set_option maxRecDepth 65536 in
set_option maxHeartbeats 40000000 in
theorem rmnext (l : Launch) (Z : State) (a0 : Array Value) (hw : ∀ d ∈ tables_1, d.before a0 Z = true) (ws : List Jvm.Cond) (o : Addr) (t : Addr) (kc : ClassId) (vs : List Int64) (j : Nat) (h0 : Heap) (n0 : Nat) (Z0 : n0 ≤ h0.size) (E_o : Exa Z h0 o "com/example/utsatt/utsatt/KeyHashes") (Fs : Fld Z h0 o "com/example/utsatt/utsatt/KeyHashes" "slots" "[J" (.ref t)) (V : Arv Z h0 t kc .long (16 : Int32) (vs.map Value.long) (.long (0 : Int64))) (hl : vs.length = 16) (hj : j < 16) :
    MetFree l (⟨"com/example/utsatt/utsatt/KeyHashes", "next", "(I)I"⟩ : MethodName) (head1 (Jvm.Cond.code (⟨"com/example/utsatt/utsatt/KeyHashes", "next", "(I)I"⟩ : MethodName) prog_2_method_10_code 2 (some .int) :: ws) ({ frames := 0, cells := 0, slots := 0, locals := 0 } : Room)) (fun as_ UU => as_ = #[(.ref o), (.int (Int32.ofNat j))] ∧ Z.Warmed39 UU.vm ∧ UU.heap = h0) (fun _ _ _ _ _ => True) (fun _ UU oo UU' => ∃ vv LL, oo = .returned vv ∧ (Qnext Z o t kc vs j h0 n0) vv UU'.heap LL ∧ FrameEnd UU oo UU' LL ({ frames := 0, cells := 0, slots := 0, locals := 0 } : Room).cells ({ frames := 0, cells := 0, slots := 0, locals := 0 } : Room).slots) := by
  refine own_met (plainFor_of_name pn_2) ?_
  intro p e s m below meth c s₁ X0 hx hby hml hret hlk hown hnm hZ e0
  have N0 := Fr.nil n0
  have Z_ := Z0
  refine OwnGo.cast (ef_next m o (Int32.ofNat j)) ?_
  show OwnGo p e below s _ _ _ s₁ (mkF m 0 #[.val (.ref o), .val (.int (Int32.ofNat j))] [])
  refine OwnGo.st (fun _ kk => XS.iloadN X0.here hx rfl (hb hby d8_0) rfl  kk) ?_
  show OwnGo p e below s _ _ _ s₁ (mkF m 1 #[.val (.ref o), .val (.int (Int32.ofNat j))] [(.int (Int32.ofNat j))])
  refine OwnGo.st (fun _ kk => XS.iconst X0.here hx rfl (hb hby d8_1) kk) ?_
  show OwnGo p e below s _ _ _ s₁ (mkF m 2 #[.val (.ref o), .val (.int (Int32.ofNat j))] [(.int (1 : Int32)), (.int (Int32.ofNat j))])
  refine OwnGo.st (fun _ kk => XS.iadd X0.here hx rfl (hb hby d8_2) rfl kk) ?_
  show OwnGo p e below s _ _ _ s₁ (mkF m 3 #[.val (.ref o), .val (.int (Int32.ofNat j))] [(.int ((Int32.ofNat j) + (1 : Int32)))])
  refine OwnGo.st (fun _ kk => XS.aloadN X0.here hx rfl (hb hby d8_3) rfl rfl  kk) ?_
  show OwnGo p e below s _ _ _ s₁ (mkF m 4 #[.val (.ref o), .val (.int (Int32.ofNat j))] [(.ref o), (.int ((Int32.ofNat j) + (1 : Int32)))])
  obtain ⟨T4, X4, e4, st4⟩ := getF X0 hx hZ hown (host := "") (Or.inl (hw _ (List.mem_of_getElem? (i := 14) rfl))) Via.refl e0 Fs (g := (mkF m 4 #[.val (.ref o), .val (.int (Int32.ofNat j))] [(.ref o), (.int ((Int32.ofNat j) + (1 : Int32)))])) rfl rfl (hb hby d8_4)
  refine OwnGo.st st4 ?_
  show OwnGo p e below s _ _ _ T4 (mkF m 7 #[.val (.ref o), .val (.int (Int32.ofNat j))] [(.ref t), (.int ((Int32.ofNat j) + (1 : Int32)))])
  obtain ⟨cl5, Ar5, -, S5, N5, -, -⟩ := id V
  refine OwnGo.st (fun _ kk => own_len hZ (len_of S5 N5) Ar5 X4 e4 hx (g := (mkF m 7 #[.val (.ref o), .val (.int (Int32.ofNat j))] [(.ref t), (.int ((Int32.ofNat j) + (1 : Int32)))])) rfl rfl (hb hby d8_7) _ kk) ?_
  show OwnGo p e below s _ _ _ T4 (mkF m 8 #[.val (.ref o), .val (.int (Int32.ofNat j))] [(.int (16 : Int32)), (.int ((Int32.ofNat j) + (1 : Int32)))])
  by_cases hc : ((Int32.ofNat j) + (1 : Int32)) = (16 : Int32)
  · refine OwnGo.st (fun _ kk => XS.icmpNo X4.here hx rfl (hb hby d8_8) rfl (teq (hc : ((Int32.ofNat j) + (1 : Int32)) = (16 : Int32))).2 kk) ?_
    show OwnGo p e below s _ _ _ T4 (mkF m 11 #[.val (.ref o), .val (.int (Int32.ofNat j))] [])
    refine OwnGo.st (fun _ kk => XS.iconst X4.here hx rfl (hb hby d8_11) kk) ?_
    show OwnGo p e below s _ _ _ T4 (mkF m 12 #[.val (.ref o), .val (.int (Int32.ofNat j))] [(.int (0 : Int32))])
    refine OwnGo.st (fun _ kk => XS.goto X4.here hx rfl (pc0 := 12) (pc' := 18) rfl (hb hby d8_12) (by decide) (by decide) kk) ?_
    show OwnGo p e below s _ _ _ T4 (mkF m 18 #[.val (.ref o), .val (.int (Int32.ofNat j))] [(.int (0 : Int32))])
    have q := (own_nx16 hj).1 hc
    exact OwnGo.ret X4 hx hret hlk rfl (Or.inl ⟨rfl, Or.inl rfl, _, rfl⟩) (hb hby d8_18) (by show Qnext Z o t kc vs j h0 n0 _ T4.heap _; rw [e4]; exact ⟨congrArg (fun z => some (Value.int z)) (show (0 : Int32) = Int32.ofNat (own_nx j) by unfold own_nx; rw [if_pos q]; rfl), N0, rfl⟩) (by decide) (by decide)
  · refine OwnGo.st (fun _ kk => XS.icmpYes X4.here hx rfl (pc0 := 8) (pc' := 15) rfl (hb hby d8_8) rfl (feq (hc : ¬ (((Int32.ofNat j) + (1 : Int32)) = (16 : Int32)))).2 (by decide) (by decide) kk) ?_
    show OwnGo p e below s _ _ _ T4 (mkF m 15 #[.val (.ref o), .val (.int (Int32.ofNat j))] [])
    refine OwnGo.st (fun _ kk => XS.iloadN X4.here hx rfl (hb hby d8_15) rfl  kk) ?_
    show OwnGo p e below s _ _ _ T4 (mkF m 16 #[.val (.ref o), .val (.int (Int32.ofNat j))] [(.int (Int32.ofNat j))])
    refine OwnGo.st (fun _ kk => XS.iconst X4.here hx rfl (hb hby d8_16) kk) ?_
    show OwnGo p e below s _ _ _ T4 (mkF m 17 #[.val (.ref o), .val (.int (Int32.ofNat j))] [(.int (1 : Int32)), (.int (Int32.ofNat j))])
    refine OwnGo.st (fun _ kk => XS.iadd X4.here hx rfl (hb hby d8_17) rfl kk) ?_
    show OwnGo p e below s _ _ _ T4 (mkF m 18 #[.val (.ref o), .val (.int (Int32.ofNat j))] [(.int ((Int32.ofNat j) + (1 : Int32)))])
    have q := fun z => hc ((own_nx16 hj).2 z)
    exact OwnGo.ret X4 hx hret hlk rfl (Or.inl ⟨rfl, Or.inl rfl, _, rfl⟩) (hb hby d8_18) (by show Qnext Z o t kc vs j h0 n0 _ T4.heap _; rw [e4]; exact ⟨congrArg (fun z => some (Value.int z)) (show (Int32.ofNat j + (1 : Int32)) = Int32.ofNat (own_nx j) by unfold own_nx; rw [if_neg q, inc_ofNat]), N0, rfl⟩) (by decide) (by decide)
def Qslot (Z : State) (o : Addr) (t : Addr) (kc : ClassId) (vs : List Int64) (x : Int64) (h0 : Heap) (n0 : Nat) (v : Option Value) (h : Heap) (L : List Loc) : Prop := ∃ r k : Nat, r < 16 ∧ v = some (.int (Int32.ofNat r)) ∧ own_path vs x k (own_home x) r ∧ Fr n0 L ∧ h = h0
set_option maxRecDepth 65536 in
set_option maxHeartbeats 40000000 in
theorem sg_slot {p : Program} {l : Launch} {e : Env} {s : State} {m : MethodId} {below : List Frame} {meth : Method} {c : Code} {Z : State} {a0 : Array Value} {T0 : State} {locs : List Loc} (o : Addr) (t : Addr) (kc : ClassId) (vs : List Int64) (x : Int64) (d : Nat) (j : Nat) (h0 : Heap) (n0 : Nat) (hw : ∀ d ∈ tables_1, d.before a0 Z = true)
    (X0 : Stand p l e ({ frames := 1, cells := 0, slots := 0, locals := 17 } : Room) s m #[(.ref o), (.long x)] below meth c T0 locs 0 0) (hx : p.tables.exec = Jvm.exec) (hby : c.code = prog_2_method_7_code) (hml : c.maxLocals = 4) (hret : meth.sig.returnType = (some .int)) (hlk : meth.locks = false) (hown : s.vm.findClass "com/example/utsatt/utsatt/KeyHashes" = some m.cls) (hnm : meth.name = "slotOf") (hZ : Z.Warmed39 s.vm) (e0 : T0.heap = h0) (N0 : Fr n0 locs) (E_o : Exa Z h0 o "com/example/utsatt/utsatt/KeyHashes") (Fs : Fld Z h0 o "com/example/utsatt/utsatt/KeyHashes" "slots" "[J" (.ref t)) (V : Arv Z h0 t kc .long (16 : Int32) (vs.map Value.long) (.long (0 : Int64))) (hl : vs.length = 16) (Z_ : n0 ≤ h0.size) (hj : j < 16) (hd : own_at vs (own_it d j) = 0) (hp : ∀ k r, own_path vs x k j r → ∃ k', own_path vs x k' (own_home x) r) :
    OwnGo p e below s ({ frames := 1, cells := 0, slots := 0, locals := 17 } : Room).cells ({ frames := 1, cells := 0, slots := 0, locals := 17 } : Room).slots (Qslot Z o t kc vs x h0 n0) T0 (mkF m 10 #[.val (.ref o), .val (.long x), .second, .val (.int (Int32.ofNat j))] []) := by
  induction d generalizing T0 locs j with
  | zero =>
    refine OwnGo.st (fun _ kk => XS.aloadN X0.here hx rfl (hb hby d6_10) rfl rfl  kk) ?_
    show OwnGo p e below s _ _ _ T0 (mkF m 11 #[.val (.ref o), .val (.long x), .second, .val (.int (Int32.ofNat j))] [(.ref o)])
    obtain ⟨T6, X6, e6, st6⟩ := getF X0 hx hZ hown (host := "") (Or.inl (hw _ (List.mem_of_getElem? (i := 14) rfl))) Via.refl e0 Fs (g := (mkF m 11 #[.val (.ref o), .val (.long x), .second, .val (.int (Int32.ofNat j))] [(.ref o)])) rfl rfl (hb hby d6_11)
    refine OwnGo.st st6 ?_
    show OwnGo p e below s _ _ _ T6 (mkF m 14 #[.val (.ref o), .val (.long x), .second, .val (.int (Int32.ofNat j))] [(.ref t)])
    refine OwnGo.st (fun _ kk => XS.iloadN X6.here hx rfl (hb hby d6_14) rfl  kk) ?_
    show OwnGo p e below s _ _ _ T6 (mkF m 15 #[.val (.ref o), .val (.long x), .second, .val (.int (Int32.ofNat j))] [(.int (Int32.ofNat j)), (.ref t)])
    obtain ⟨cl7, Ar7, -, S7, -, H7, -⟩ := id V
    have hin7 : ¬ ((Int32.ofNat j) < 0 ∨ cl7.slots.size ≤ ((Int32.ofNat j)).toNatClampNeg) := inb_of S7 (own_inb hj)
    refine OwnGo.st (fun _ kk => X6.laload hx (j := (Int32.ofNat j)) (v := (.long (own_at vs j))) (by first | exact Ar7.1 | (rw [e6]; exact Ar7.1)) (State.isArrayOf_alike hZ.alike Ar7.2.1) Ar7.2.2 hin7 (H7.at hin7 (own_get hl hj)) (g := (mkF m 15 #[.val (.ref o), .val (.long x), .second, .val (.int (Int32.ofNat j))] [(.int (Int32.ofNat j)), (.ref t)])) rfl rfl (hb hby d6_15) _ kk) ?_
    show OwnGo p e below s _ _ _ T6 (mkF m 16 #[.val (.ref o), .val (.long x), .second, .val (.int (Int32.ofNat j))] [(.long (own_at vs j))])
    refine OwnGo.st (fun _ kk => XS.lconst X6.here hx rfl (hb hby d6_16) kk) ?_
    show OwnGo p e below s _ _ _ T6 (mkF m 17 #[.val (.ref o), .val (.long x), .second, .val (.int (Int32.ofNat j))] [(.long (0 : Int64)), (.long (own_at vs j))])
    refine OwnGo.st (fun _ kk => XS.lcmp X6.here hx rfl (hb hby d6_17) rfl kk) ?_
    show OwnGo p e below s _ _ _ T6 (mkF m 18 #[.val (.ref o), .val (.long x), .second, .val (.int (Int32.ofNat j))] [(.int (lcmpW (own_at vs j) (0 : Int64)))])
    refine OwnGo.st (fun _ kk => XS.ifYes X6.here hx rfl (pc0 := 18) (pc' := 41) rfl (hb hby d6_18) rfl ((if0 _ _).trans (teq (((lw_eq _ _).2 hd) : (lcmpW (own_at vs j) (0 : Int64)) = (0 : Int32))).1) (by decide) (by decide) kk) ?_
    show OwnGo p e below s _ _ _ T6 (mkF m 41 #[.val (.ref o), .val (.long x), .second, .val (.int (Int32.ofNat j))] [])
    refine OwnGo.st (fun _ kk => XS.iloadN X6.here hx rfl (hb hby d6_41) rfl  kk) ?_
    show OwnGo p e below s _ _ _ T6 (mkF m 42 #[.val (.ref o), .val (.long x), .second, .val (.int (Int32.ofNat j))] [(.int (Int32.ofNat j))])
    obtain ⟨k', hk'⟩ := hp 0 j ⟨rfl, Or.inl hd⟩
    exact OwnGo.ret X6 hx hret hlk rfl (Or.inl ⟨rfl, Or.inl rfl, _, rfl⟩) (hb hby d6_42) (by show Qslot Z o t kc vs x h0 n0 _ T6.heap _; rw [e6]; exact ⟨j, k', hj, rfl, hk', N0, rfl⟩) (by decide) (by decide)
  | succ d ih =>
    refine OwnGo.st (fun _ kk => XS.aloadN X0.here hx rfl (hb hby d6_10) rfl rfl  kk) ?_
    show OwnGo p e below s _ _ _ T0 (mkF m 11 #[.val (.ref o), .val (.long x), .second, .val (.int (Int32.ofNat j))] [(.ref o)])
    obtain ⟨T8, X8, e8, st8⟩ := getF X0 hx hZ hown (host := "") (Or.inl (hw _ (List.mem_of_getElem? (i := 14) rfl))) Via.refl e0 Fs (g := (mkF m 11 #[.val (.ref o), .val (.long x), .second, .val (.int (Int32.ofNat j))] [(.ref o)])) rfl rfl (hb hby d6_11)
    refine OwnGo.st st8 ?_
    show OwnGo p e below s _ _ _ T8 (mkF m 14 #[.val (.ref o), .val (.long x), .second, .val (.int (Int32.ofNat j))] [(.ref t)])
    refine OwnGo.st (fun _ kk => XS.iloadN X8.here hx rfl (hb hby d6_14) rfl  kk) ?_
    show OwnGo p e below s _ _ _ T8 (mkF m 15 #[.val (.ref o), .val (.long x), .second, .val (.int (Int32.ofNat j))] [(.int (Int32.ofNat j)), (.ref t)])
    obtain ⟨cl9, Ar9, -, S9, -, H9, -⟩ := id V
    have hin9 : ¬ ((Int32.ofNat j) < 0 ∨ cl9.slots.size ≤ ((Int32.ofNat j)).toNatClampNeg) := inb_of S9 (own_inb hj)
    refine OwnGo.st (fun _ kk => X8.laload hx (j := (Int32.ofNat j)) (v := (.long (own_at vs j))) (by first | exact Ar9.1 | (rw [e8]; exact Ar9.1)) (State.isArrayOf_alike hZ.alike Ar9.2.1) Ar9.2.2 hin9 (H9.at hin9 (own_get hl hj)) (g := (mkF m 15 #[.val (.ref o), .val (.long x), .second, .val (.int (Int32.ofNat j))] [(.int (Int32.ofNat j)), (.ref t)])) rfl rfl (hb hby d6_15) _ kk) ?_
    show OwnGo p e below s _ _ _ T8 (mkF m 16 #[.val (.ref o), .val (.long x), .second, .val (.int (Int32.ofNat j))] [(.long (own_at vs j))])
    refine OwnGo.st (fun _ kk => XS.lconst X8.here hx rfl (hb hby d6_16) kk) ?_
    show OwnGo p e below s _ _ _ T8 (mkF m 17 #[.val (.ref o), .val (.long x), .second, .val (.int (Int32.ofNat j))] [(.long (0 : Int64)), (.long (own_at vs j))])
    refine OwnGo.st (fun _ kk => XS.lcmp X8.here hx rfl (hb hby d6_17) rfl kk) ?_
    show OwnGo p e below s _ _ _ T8 (mkF m 18 #[.val (.ref o), .val (.long x), .second, .val (.int (Int32.ofNat j))] [(.int (lcmpW (own_at vs j) (0 : Int64)))])
    by_cases h0_ : own_at vs j = (0 : Int64)
    · refine OwnGo.st (fun _ kk => XS.ifYes X8.here hx rfl (pc0 := 18) (pc' := 41) rfl (hb hby d6_18) rfl ((if0 _ _).trans (teq (((lw_eq _ _).2 h0_) : (lcmpW (own_at vs j) (0 : Int64)) = (0 : Int32))).1) (by decide) (by decide) kk) ?_
      show OwnGo p e below s _ _ _ T8 (mkF m 41 #[.val (.ref o), .val (.long x), .second, .val (.int (Int32.ofNat j))] [])
      refine OwnGo.st (fun _ kk => XS.iloadN X8.here hx rfl (hb hby d6_41) rfl  kk) ?_
      show OwnGo p e below s _ _ _ T8 (mkF m 42 #[.val (.ref o), .val (.long x), .second, .val (.int (Int32.ofNat j))] [(.int (Int32.ofNat j))])
      obtain ⟨k', hk'⟩ := hp 0 j ⟨rfl, Or.inl h0_⟩
      exact OwnGo.ret X8 hx hret hlk rfl (Or.inl ⟨rfl, Or.inl rfl, _, rfl⟩) (hb hby d6_42) (by show Qslot Z o t kc vs x h0 n0 _ T8.heap _; rw [e8]; exact ⟨j, k', hj, rfl, hk', N0, rfl⟩) (by decide) (by decide)
    · refine OwnGo.st (fun _ kk => XS.ifNo X8.here hx rfl (hb hby d6_18) rfl ((if0 _ _).trans (feq ((fun z => h0_ ((lw_eq _ _).1 z)) : ¬ ((lcmpW (own_at vs j) (0 : Int64)) = (0 : Int32)))).1) kk) ?_
      show OwnGo p e below s _ _ _ T8 (mkF m 21 #[.val (.ref o), .val (.long x), .second, .val (.int (Int32.ofNat j))] [])
      refine OwnGo.st (fun _ kk => XS.aloadN X8.here hx rfl (hb hby d6_21) rfl rfl  kk) ?_
      show OwnGo p e below s _ _ _ T8 (mkF m 22 #[.val (.ref o), .val (.long x), .second, .val (.int (Int32.ofNat j))] [(.ref o)])
      obtain ⟨T10, X10, e10, st10⟩ := getF X8 hx hZ hown (host := "") (Or.inl (hw _ (List.mem_of_getElem? (i := 14) rfl))) Via.refl e8 Fs (g := (mkF m 22 #[.val (.ref o), .val (.long x), .second, .val (.int (Int32.ofNat j))] [(.ref o)])) rfl rfl (hb hby d6_22)
      refine OwnGo.st st10 ?_
      show OwnGo p e below s _ _ _ T10 (mkF m 25 #[.val (.ref o), .val (.long x), .second, .val (.int (Int32.ofNat j))] [(.ref t)])
      refine OwnGo.st (fun _ kk => XS.iloadN X10.here hx rfl (hb hby d6_25) rfl  kk) ?_
      show OwnGo p e below s _ _ _ T10 (mkF m 26 #[.val (.ref o), .val (.long x), .second, .val (.int (Int32.ofNat j))] [(.int (Int32.ofNat j)), (.ref t)])
      obtain ⟨cl11, Ar11, -, S11, -, H11, -⟩ := id V
      have hin11 : ¬ ((Int32.ofNat j) < 0 ∨ cl11.slots.size ≤ ((Int32.ofNat j)).toNatClampNeg) := inb_of S11 (own_inb hj)
      refine OwnGo.st (fun _ kk => X10.laload hx (j := (Int32.ofNat j)) (v := (.long (own_at vs j))) (by first | exact Ar11.1 | (rw [e10]; exact Ar11.1)) (State.isArrayOf_alike hZ.alike Ar11.2.1) Ar11.2.2 hin11 (H11.at hin11 (own_get hl hj)) (g := (mkF m 26 #[.val (.ref o), .val (.long x), .second, .val (.int (Int32.ofNat j))] [(.int (Int32.ofNat j)), (.ref t)])) rfl rfl (hb hby d6_26) _ kk) ?_
      show OwnGo p e below s _ _ _ T10 (mkF m 27 #[.val (.ref o), .val (.long x), .second, .val (.int (Int32.ofNat j))] [(.long (own_at vs j))])
      refine OwnGo.st (fun _ kk => XS.lloadN X10.here hx rfl (hb hby d6_27) rfl  kk) ?_
      show OwnGo p e below s _ _ _ T10 (mkF m 28 #[.val (.ref o), .val (.long x), .second, .val (.int (Int32.ofNat j))] [(.long x), (.long (own_at vs j))])
      refine OwnGo.st (fun _ kk => XS.lcmp X10.here hx rfl (hb hby d6_28) rfl kk) ?_
      show OwnGo p e below s _ _ _ T10 (mkF m 29 #[.val (.ref o), .val (.long x), .second, .val (.int (Int32.ofNat j))] [(.int (lcmpW (own_at vs j) x))])
      by_cases hx_ : own_at vs j = x
      · refine OwnGo.st (fun _ kk => XS.ifYes X10.here hx rfl (pc0 := 29) (pc' := 41) rfl (hb hby d6_29) rfl ((if0 _ _).trans (teq (((lw_eq _ _).2 hx_) : (lcmpW (own_at vs j) x) = (0 : Int32))).1) (by decide) (by decide) kk) ?_
        show OwnGo p e below s _ _ _ T10 (mkF m 41 #[.val (.ref o), .val (.long x), .second, .val (.int (Int32.ofNat j))] [])
        refine OwnGo.st (fun _ kk => XS.iloadN X10.here hx rfl (hb hby d6_41) rfl  kk) ?_
        show OwnGo p e below s _ _ _ T10 (mkF m 42 #[.val (.ref o), .val (.long x), .second, .val (.int (Int32.ofNat j))] [(.int (Int32.ofNat j))])
        obtain ⟨k', hk'⟩ := hp 0 j ⟨rfl, Or.inr hx_⟩
        exact OwnGo.ret X10 hx hret hlk rfl (Or.inl ⟨rfl, Or.inl rfl, _, rfl⟩) (hb hby d6_42) (by show Qslot Z o t kc vs x h0 n0 _ T10.heap _; rw [e10]; exact ⟨j, k', hj, rfl, hk', N0, rfl⟩) (by decide) (by decide)
      · refine OwnGo.st (fun _ kk => XS.ifNo X10.here hx rfl (hb hby d6_29) rfl ((if0 _ _).trans (feq ((fun z => hx_ ((lw_eq _ _).1 z)) : ¬ ((lcmpW (own_at vs j) x) = (0 : Int32)))).1) kk) ?_
        show OwnGo p e below s _ _ _ T10 (mkF m 32 #[.val (.ref o), .val (.long x), .second, .val (.int (Int32.ofNat j))] [])
        refine OwnGo.st (fun _ kk => XS.aloadN X10.here hx rfl (hb hby d6_32) rfl rfl  kk) ?_
        show OwnGo p e below s _ _ _ T10 (mkF m 33 #[.val (.ref o), .val (.long x), .second, .val (.int (Int32.ofNat j))] [(.ref o)])
        refine OwnGo.st (fun _ kk => XS.iloadN X10.here hx rfl (hb hby d6_33) rfl  kk) ?_
        show OwnGo p e below s _ _ _ T10 (mkF m 34 #[.val (.ref o), .val (.long x), .second, .val (.int (Int32.ofNat j))] [(.int (Int32.ofNat j)), (.ref o)])
        obtain ⟨cq12, q12, q12'⟩ := E_o.cell
        obtain ⟨_, _, ⟨T12, L12, k12, n12⟩, -, X12, ⟨Lc12, hQ12, l12, y12, z12⟩, st12⟩ := X10.privateBack hx (y := (⟨"com/example/utsatt/utsatt/KeyHashes", "next", "(I)I"⟩ : MethodName)) hown (mvT hZ (hw _ (List.mem_of_getElem? (i := 34) rfl))) (mvT hZ (hw _ (List.mem_of_getElem? (i := 35) rfl))) (own_selp (z := (⟨"com/example/utsatt/utsatt/KeyHashes", "add", "(J)Z"⟩ : MethodName)) (mvT hZ (hw _ (List.mem_of_getElem? (i := 19) rfl))) rfl (Cond.privateMethod_at (mvP hZ (hw _ (List.mem_of_getElem? (i := 36) rfl)) (args := #[]))) (mvT hZ (hw _ (List.mem_of_getElem? (i := 35) rfl))) (by decide)) (Cond.privateMethod_at (mvP hZ (hw _ (List.mem_of_getElem? (i := 36) rfl)) (args := #[]))) (mvT hZ (hw _ (List.mem_of_getElem? (i := 37) rfl))) (by decide) (backOf (W := 0) (rmnext l Z a0 hw [] o t kc vs j h0 n0 Z_ E_o Fs V hl hj) hZ (hw _ (List.mem_of_getElem? (i := 37) rfl)) (hw _ (List.mem_of_getElem? (i := 6) rfl)) (by decide) (by decide)) (g := (mkF m 34 #[.val (.ref o), .val (.long x), .second, .val (.int (Int32.ofNat j))] [(.int (Int32.ofNat j)), (.ref o)])) rfl (by rw [hml]; rfl) (Steps.refl _) (a := o) (by rw [e10]; exact q12) q12' (argsL := [(.int (Int32.ofNat j))]) (rest := []) (lenOf pd_0 rfl) rfl (by show 2 * 0 + _ ≤ _; exact Nat.le_of_eq rfl) (hb hby d6_34) (fun _ _ => ⟨rfl, e10, (by decide : 0 + 0 ≤ _), (by decide : 0 + 0 ≤ _)⟩)
        dsimp only [Pt.U, Pt.locs, Pt.cells, Pt.slots] at X12 l12 y12 z12 st12 hQ12
        subst l12 y12 z12
        obtain ⟨rfl, N12q, e12⟩ := hQ12
        have N12 := Fr.app N0 N12q
        refine OwnGo.st (fun _ kk => st12.trans kk) ?_
        show OwnGo p e below s _ _ _ T12 (mkF m 37 #[.val (.ref o), .val (.long x), .second, .val (.int (Int32.ofNat j))] [(.int (Int32.ofNat (own_nx j)))])
        refine OwnGo.st (fun _ kk => XS.istoreN X12.here hx rfl (hb hby d6_37) rfl (l' := #[.val (.ref o), .val (.long x), .second, .val (.int (Int32.ofNat (own_nx j)))]) rfl kk) ?_
        show OwnGo p e below s _ _ _ T12 (mkF m 38 #[.val (.ref o), .val (.long x), .second, .val (.int (Int32.ofNat (own_nx j)))] [])
        refine OwnGo.st (fun _ kk => XS.goto X12.here hx rfl (pc0 := 38) (pc' := 10) rfl (hb hby d6_38) (by decide) (by decide) kk) ?_
        show OwnGo p e below s _ _ _ T12 (mkF m 10 #[.val (.ref o), .val (.long x), .second, .val (.int (Int32.ofNat (own_nx j)))] [])
        exact ih (own_nx j) X12 e12 N12 (own_nx_lt hj) hd (fun k r hk => hp (k + 1) r ⟨fun z => z.elim h0_ hx_, hk⟩)
set_option maxRecDepth 65536 in
set_option maxHeartbeats 40000000 in
theorem rmslot (l : Launch) (Z : State) (a0 : Array Value) (hw : ∀ d ∈ tables_1, d.before a0 Z = true) (ws : List Jvm.Cond) (o : Addr) (t : Addr) (kc : ClassId) (vs : List Int64) (x : Int64) (h0 : Heap) (n0 : Nat) (Z0 : n0 ≤ h0.size) (E_o : Exa Z h0 o "com/example/utsatt/utsatt/KeyHashes") (Fs : Fld Z h0 o "com/example/utsatt/utsatt/KeyHashes" "slots" "[J" (.ref t)) (V : Arv Z h0 t kc .long (16 : Int32) (vs.map Value.long) (.long (0 : Int64))) (hl : vs.length = 16) (hfree : ∃ d, own_at vs (own_it d (own_home x)) = 0) :
    MetFree l (⟨"com/example/utsatt/utsatt/KeyHashes", "slotOf", "(J)I"⟩ : MethodName) (head1 (Jvm.Cond.code (⟨"com/example/utsatt/utsatt/KeyHashes", "slotOf", "(J)I"⟩ : MethodName) prog_2_method_7_code 4 (some .int) :: ws) ({ frames := 1, cells := 0, slots := 0, locals := 17 } : Room)) (fun as_ UU => as_ = #[(.ref o), (.long x)] ∧ Z.Warmed39 UU.vm ∧ UU.heap = h0) (fun _ _ _ _ _ => True) (fun _ UU oo UU' => ∃ vv LL, oo = .returned vv ∧ (Qslot Z o t kc vs x h0 n0) vv UU'.heap LL ∧ FrameEnd UU oo UU' LL ({ frames := 1, cells := 0, slots := 0, locals := 17 } : Room).cells ({ frames := 1, cells := 0, slots := 0, locals := 17 } : Room).slots) := by
  refine own_met (plainFor_of_name pn_2) ?_
  intro p e s m below meth c s₁ X0 hx hby hml hret hlk hown hnm hZ e0
  have N0 := Fr.nil n0
  have Z_ := Z0
  refine OwnGo.cast (ef_slot m o x) ?_
  show OwnGo p e below s _ _ _ s₁ (mkF m 0 #[.val (.ref o), .val (.long x), .second, .unset] [])
  refine OwnGo.st (fun _ kk => XS.lloadN X0.here hx rfl (hb hby d6_0) rfl  kk) ?_
  show OwnGo p e below s _ _ _ s₁ (mkF m 1 #[.val (.ref o), .val (.long x), .second, .unset] [(.long x)])
  refine OwnGo.st (fun _ kk => XS.aloadN X0.here hx rfl (hb hby d6_1) rfl rfl  kk) ?_
  show OwnGo p e below s _ _ _ s₁ (mkF m 2 #[.val (.ref o), .val (.long x), .second, .unset] [(.ref o), (.long x)])
  obtain ⟨T13, X13, e13, st13⟩ := getF X0 hx hZ hown (host := "") (Or.inl (hw _ (List.mem_of_getElem? (i := 14) rfl))) Via.refl e0 Fs (g := (mkF m 2 #[.val (.ref o), .val (.long x), .second, .unset] [(.ref o), (.long x)])) rfl rfl (hb hby d6_2)
  refine OwnGo.st st13 ?_
  show OwnGo p e below s _ _ _ T13 (mkF m 5 #[.val (.ref o), .val (.long x), .second, .unset] [(.ref t), (.long x)])
  obtain ⟨cl14, Ar14, -, S14, N14, -, -⟩ := id V
  refine OwnGo.st (fun _ kk => own_len hZ (len_of S14 N14) Ar14 X13 e13 hx (g := (mkF m 5 #[.val (.ref o), .val (.long x), .second, .unset] [(.ref t), (.long x)])) rfl rfl (hb hby d6_5) _ kk) ?_
  show OwnGo p e below s _ _ _ T13 (mkF m 6 #[.val (.ref o), .val (.long x), .second, .unset] [(.int (16 : Int32)), (.long x)])
  obtain ⟨_, _, ⟨T15, L15, k15, n15⟩, -, X15, ⟨Lc15, hQ15, l15, y15, z15⟩, st15⟩ := Jvm.LawKit.callS X13 hx (y := (⟨"com/example/utsatt/utsatt/KeyHashes", "home", "(JI)I"⟩ : MethodName)) hown (mvT hZ (hw _ (List.mem_of_getElem? (i := 28) rfl))) (mvT hZ (hw _ (List.mem_of_getElem? (i := 29) rfl))) (mvT hZ (hw _ (List.mem_of_getElem? (i := 6) rfl))) (mvT hZ (hw _ (List.mem_of_getElem? (i := 30) rfl))) (by decide) (backOf (W := 0) (rmhome l Z a0 hw [] x h0 n0 Z_ ) hZ (hw _ (List.mem_of_getElem? (i := 30) rfl)) (hw _ (List.mem_of_getElem? (i := 6) rfl)) (by decide) (by decide)) (g := (mkF m 6 #[.val (.ref o), .val (.long x), .second, .unset] [(.int (16 : Int32)), (.long x)])) rfl (by rw [hml]; rfl) (argsL := [(.long x), (.int (16 : Int32))]) (rest := []) (lenOf pd_1 rfl) rfl (by show 2 * 0 + _ ≤ _; exact Nat.le_of_eq rfl) (hb hby d6_6) (fun _ _ => ⟨rfl, e13, (by decide : 0 + 0 ≤ _), (by decide : 0 + 0 ≤ _)⟩)
  dsimp only [Pt.U, Pt.locs, Pt.cells, Pt.slots] at X15 l15 y15 z15 st15 hQ15
  subst l15 y15 z15
  obtain ⟨rfl, N15q, e15⟩ := hQ15
  have N15 := Fr.app N0 N15q
  refine OwnGo.st st15 ?_
  show OwnGo p e below s _ _ _ T15 (mkF m 9 #[.val (.ref o), .val (.long x), .second, .unset] [(.int (Int32.ofNat (own_home x)))])
  refine OwnGo.st (fun _ kk => XS.istoreN X15.here hx rfl (hb hby d6_9) rfl (l' := #[.val (.ref o), .val (.long x), .second, .val (.int (Int32.ofNat (own_home x)))]) rfl kk) ?_
  show OwnGo p e below s _ _ _ T15 (mkF m 10 #[.val (.ref o), .val (.long x), .second, .val (.int (Int32.ofNat (own_home x)))] [])
  obtain ⟨d, hd⟩ := hfree
  exact sg_slot o t kc vs x d (own_home x) h0 n0 hw X15 hx hby hml hret hlk hown hnm hZ e15 N15 E_o Fs V hl Z_ (own_home_lt x) hd (fun k r h => ⟨k, h⟩)
def Qsiz (Z : State) (o : Addr) (z : Int32) (h0 : Heap) (n0 : Nat) (v : Option Value) (h : Heap) (L : List Loc) : Prop := v = some (.int z) ∧ Fr n0 L ∧ h = h0
set_option maxRecDepth 65536 in
set_option maxHeartbeats 40000000 in
theorem rmsiz (l : Launch) (Z : State) (a0 : Array Value) (hw : ∀ d ∈ tables_1, d.before a0 Z = true) (ws : List Jvm.Cond) (o : Addr) (z : Int32) (h0 : Heap) (n0 : Nat) (Z0 : n0 ≤ h0.size) (F : Fld Z h0 o "com/example/utsatt/utsatt/KeyHashes" "size" "I" (.int z)) :
    MetFree l (⟨"com/example/utsatt/utsatt/KeyHashes", "size", "()I"⟩ : MethodName) (head1 (Jvm.Cond.code (⟨"com/example/utsatt/utsatt/KeyHashes", "size", "()I"⟩ : MethodName) prog_2_method_3_code 1 (some .int) :: ws) ({ frames := 0, cells := 0, slots := 0, locals := 0 } : Room)) (fun as_ UU => as_ = #[(.ref o)] ∧ Z.Warmed39 UU.vm ∧ UU.heap = h0) (fun _ _ _ _ _ => True) (fun _ UU oo UU' => ∃ vv LL, oo = .returned vv ∧ (Qsiz Z o z h0 n0) vv UU'.heap LL ∧ FrameEnd UU oo UU' LL ({ frames := 0, cells := 0, slots := 0, locals := 0 } : Room).cells ({ frames := 0, cells := 0, slots := 0, locals := 0 } : Room).slots) := by
  refine own_met (plainFor_of_name pn_2) ?_
  intro p e s m below meth c s₁ X0 hx hby hml hret hlk hown hnm hZ e0
  have N0 := Fr.nil n0
  have Z_ := Z0
  refine OwnGo.cast (ef_siz m o) ?_
  show OwnGo p e below s _ _ _ s₁ (mkF m 0 #[.val (.ref o)] [])
  refine OwnGo.st (fun _ kk => XS.aloadN X0.here hx rfl (hb hby d10_0) rfl rfl  kk) ?_
  show OwnGo p e below s _ _ _ s₁ (mkF m 1 #[.val (.ref o)] [(.ref o)])
  obtain ⟨T16, X16, e16, st16⟩ := getF X0 hx hZ hown (host := "") (Or.inl (hw _ (List.mem_of_getElem? (i := 31) rfl))) Via.refl e0 F (g := (mkF m 1 #[.val (.ref o)] [(.ref o)])) rfl rfl (hb hby d10_1)
  refine OwnGo.st st16 ?_
  show OwnGo p e below s _ _ _ T16 (mkF m 4 #[.val (.ref o)] [(.int z)])
  exact OwnGo.ret X16 hx hret hlk rfl (Or.inl ⟨rfl, Or.inl rfl, _, rfl⟩) (hb hby d10_4) (by show Qsiz Z o z h0 n0 _ T16.heap _; rw [e16]; exact ⟨rfl, N0, rfl⟩) (by decide) (by decide)
def Qnrm (Z : State) (p1 : Int64) (h0 : Heap) (n0 : Nat) (v : Option Value) (h : Heap) (L : List Loc) : Prop := v = some (.long (own_st p1)) ∧ Fr n0 L ∧ h = h0
set_option maxRecDepth 65536 in
set_option maxHeartbeats 40000000 in
theorem rmnrm (l : Launch) (Z : State) (a0 : Array Value) (hw : ∀ d ∈ tables_1, d.before a0 Z = true) (ws : List Jvm.Cond) (p1 : Int64) (h0 : Heap) (n0 : Nat) (Z0 : n0 ≤ h0.size) :
    MetFree l (⟨"com/example/utsatt/utsatt/KeyHashesRemovePinLaw", "st", "(J)J"⟩ : MethodName) (head1 (Jvm.Cond.code (⟨"com/example/utsatt/utsatt/KeyHashesRemovePinLaw", "st", "(J)J"⟩ : MethodName) method_2_code 2 (some .long) :: ws) ({ frames := 0, cells := 0, slots := 0, locals := 0 } : Room)) (fun as_ UU => as_ = #[(.long p1)] ∧ Z.Warmed39 UU.vm ∧ UU.heap = h0) (fun _ _ _ _ _ => True) (fun _ UU oo UU' => ∃ vv LL, oo = .returned vv ∧ (Qnrm Z p1 h0 n0) vv UU'.heap LL ∧ FrameEnd UU oo UU' LL ({ frames := 0, cells := 0, slots := 0, locals := 0 } : Room).cells ({ frames := 0, cells := 0, slots := 0, locals := 0 } : Room).slots) := by
  refine own_met (plainFor_of_name pn_1) ?_
  intro p e s m below meth c s₁ X0 hx hby hml hret hlk hown hnm hZ e0
  have N0 := Fr.nil n0
  have Z_ := Z0
  refine OwnGo.cast (ef_nrm m p1) ?_
  show OwnGo p e below s _ _ _ s₁ (mkF m 0 #[.val (.long p1), .second] [])
  refine OwnGo.st (fun _ kk => XS.lloadN X0.here hx rfl (hb hby d1_0) rfl  kk) ?_
  show OwnGo p e below s _ _ _ s₁ (mkF m 1 #[.val (.long p1), .second] [(.long p1)])
  refine OwnGo.st (fun _ kk => XS.lconst X0.here hx rfl (hb hby d1_1) kk) ?_
  show OwnGo p e below s _ _ _ s₁ (mkF m 2 #[.val (.long p1), .second] [(.long (0 : Int64)), (.long p1)])
  refine OwnGo.st (fun _ kk => XS.lcmp X0.here hx rfl (hb hby d1_2) rfl kk) ?_
  show OwnGo p e below s _ _ _ s₁ (mkF m 3 #[.val (.long p1), .second] [(.int (lcmpW p1 (0 : Int64)))])
  by_cases hz : p1 = (0 : Int64)
  · refine OwnGo.st (fun _ kk => XS.ifNo X0.here hx rfl (hb hby d1_3) rfl ((if0 _ _).trans (teq (((lw_eq _ _).2 hz) : (lcmpW p1 (0 : Int64)) = (0 : Int32))).2) kk) ?_
    show OwnGo p e below s _ _ _ s₁ (mkF m 6 #[.val (.long p1), .second] [])
    refine OwnGo.st (fun _ kk => XS.lconst X0.here hx rfl (hb hby d1_6) kk) ?_
    show OwnGo p e below s _ _ _ s₁ (mkF m 7 #[.val (.long p1), .second] [(.long (1 : Int64))])
    refine OwnGo.st (fun _ kk => XS.goto X0.here hx rfl (pc0 := 7) (pc' := 11) rfl (hb hby d1_7) (by decide) (by decide) kk) ?_
    show OwnGo p e below s _ _ _ s₁ (mkF m 11 #[.val (.long p1), .second] [(.long (1 : Int64))])
    exact OwnGo.ret X0 hx hret hlk rfl (Or.inr (Or.inl ⟨rfl, rfl, _, rfl⟩)) (hb hby d1_11) (by show Qnrm Z p1 h0 n0 _ s₁.heap _; rw [e0]; exact ⟨congrArg (fun z => some (Value.long z)) (own_st0 hz).symm, N0, rfl⟩) (by decide) (by decide)
  · refine OwnGo.st (fun _ kk => XS.ifYes X0.here hx rfl (pc0 := 3) (pc' := 10) rfl (hb hby d1_3) rfl ((if0 _ _).trans (feq ((fun q => hz ((lw_eq _ _).1 q)) : ¬ ((lcmpW p1 (0 : Int64)) = (0 : Int32)))).2) (by decide) (by decide) kk) ?_
    show OwnGo p e below s _ _ _ s₁ (mkF m 10 #[.val (.long p1), .second] [])
    refine OwnGo.st (fun _ kk => XS.lloadN X0.here hx rfl (hb hby d1_10) rfl  kk) ?_
    show OwnGo p e below s _ _ _ s₁ (mkF m 11 #[.val (.long p1), .second] [(.long p1)])
    exact OwnGo.ret X0 hx hret hlk rfl (Or.inr (Or.inl ⟨rfl, rfl, _, rfl⟩)) (hb hby d1_11) (by show Qnrm Z p1 h0 n0 _ s₁.heap _; rw [e0]; exact ⟨congrArg (fun z => some (Value.long z)) (own_st1 hz).symm, N0, rfl⟩) (by decide) (by decide)
def QaddG (Z : State) (o : Addr) (t : Addr) (kc : ClassId) (vs : List Int64) (n : Nat) (p1 : Int64) (h0 : Heap) (n0 : Nat) (v : Option Value) (h : Heap) (L : List Loc) : Prop := ∃ (ws : List Int64) (k : Nat), v = some (.int (own_bit (¬ own_has vs (own_st p1)))) ∧ Fr n0 L ∧ Keep h0 h [o, t] ∧ Exa Z h o "com/example/utsatt/utsatt/KeyHashes" ∧ Fld Z h o "com/example/utsatt/utsatt/KeyHashes" "slots" "[J" (.ref t) ∧ Fld Z h o "com/example/utsatt/utsatt/KeyHashes" "size" "I" (.int (Int32.ofNat k)) ∧ Arv Z h t kc .long (16 : Int32) (ws.map Value.long) (.long (0 : Int64)) ∧ own_T ws k ∧ k = n + own_bn (¬ own_has vs (own_st p1)) ∧ ∀ y, y ≠ 0 → (own_has ws y ↔ own_has vs y ∨ y = own_st p1)
set_option maxRecDepth 65536 in
set_option maxHeartbeats 40000000 in
theorem rmaddG (l : Launch) (Z : State) (a0 : Array Value) (hw : ∀ d ∈ tables_1, d.before a0 Z = true) (ws : List Jvm.Cond) (o : Addr) (t : Addr) (kc : ClassId) (vs : List Int64) (n : Nat) (p1 : Int64) (h0 : Heap) (n0 : Nat) (Z0 : n0 ≤ h0.size) (E_o : Exa Z h0 o "com/example/utsatt/utsatt/KeyHashes") (Fs : Fld Z h0 o "com/example/utsatt/utsatt/KeyHashes" "slots" "[J" (.ref t)) (V : Arv Z h0 t kc .long (16 : Int32) (vs.map Value.long) (.long (0 : Int64))) (F_size : Fld Z h0 o "com/example/utsatt/utsatt/KeyHashes" "size" "I" (.int (Int32.ofNat n))) (g_o : n0 ≤ o) (g_t : n0 ≤ t) (ne_t_o : t ≠ o) (TT : own_T vs n) (hn : n ≤ 2) :
    MetFree l (⟨"com/example/utsatt/utsatt/KeyHashes", "add", "(J)Z"⟩ : MethodName) (head1 (Jvm.Cond.code (⟨"com/example/utsatt/utsatt/KeyHashes", "add", "(J)Z"⟩ : MethodName) prog_2_method_4_code 6 (some .boolean) :: ws) ({ frames := 2, cells := 0, slots := 0, locals := 32 } : Room)) (fun as_ UU => as_ = #[(.ref o), (.long p1)] ∧ Z.Warmed39 UU.vm ∧ UU.heap = h0) (fun _ _ _ _ _ => True) (fun _ UU oo UU' => ∃ vv LL, oo = .returned vv ∧ (QaddG Z o t kc vs n p1 h0 n0) vv UU'.heap LL ∧ FrameEnd UU oo UU' LL ({ frames := 2, cells := 0, slots := 0, locals := 32 } : Room).cells ({ frames := 2, cells := 0, slots := 0, locals := 32 } : Room).slots) := by
  refine own_met (plainFor_of_name pn_2) ?_
  intro p e s m below meth c s₁ X0 hx hby hml hret hlk hown hnm hZ e0
  have N0 := Fr.nil n0
  have Z_ := Z0
  refine OwnGo.cast (ef_addG m o p1) ?_
  show OwnGo p e below s _ _ _ s₁ (mkF m 0 #[.val (.ref o), .val (.long p1), .second, .unset, .unset, .unset] [])
  have Kp : Keep h0 h0 [o, t] := Keep.refl h0 [o, t]
  refine OwnGo.st (fun _ kk => XS.lloadN X0.here hx rfl (hb hby d4_0) rfl  kk) ?_
  show OwnGo p e below s _ _ _ s₁ (mkF m 1 #[.val (.ref o), .val (.long p1), .second, .unset, .unset, .unset] [(.long p1)])
  obtain ⟨_, _, ⟨T17, L17, k17, n17⟩, -, X17, ⟨Lc17, hQ17, l17, y17, z17⟩, st17⟩ := Jvm.LawKit.callS X0 hx (y := (⟨"com/example/utsatt/utsatt/KeyHashes", "stored", "(J)J"⟩ : MethodName)) hown (mvT hZ (hw _ (List.mem_of_getElem? (i := 21) rfl))) (mvT hZ (hw _ (List.mem_of_getElem? (i := 22) rfl))) (mvT hZ (hw _ (List.mem_of_getElem? (i := 6) rfl))) (mvT hZ (hw _ (List.mem_of_getElem? (i := 23) rfl))) (by decide) (backOf (W := 0) (rmsto l Z a0 hw [] p1 h0 n0 Z_ ) hZ (hw _ (List.mem_of_getElem? (i := 23) rfl)) (hw _ (List.mem_of_getElem? (i := 6) rfl)) (by decide) (by decide)) (g := (mkF m 1 #[.val (.ref o), .val (.long p1), .second, .unset, .unset, .unset] [(.long p1)])) rfl (by rw [hml]; rfl) (argsL := [(.long p1)]) (rest := []) (lenOf pd_2 rfl) rfl (by show 2 * 0 + _ ≤ _; exact Nat.le_of_eq rfl) (hb hby d4_1) (fun _ _ => ⟨rfl, e0, (by decide : 0 + 0 ≤ _), (by decide : 0 + 0 ≤ _)⟩)
  dsimp only [Pt.U, Pt.locs, Pt.cells, Pt.slots] at X17 l17 y17 z17 st17 hQ17
  subst l17 y17 z17
  obtain ⟨rfl, N17q, e17⟩ := hQ17
  have N17 := Fr.app N0 N17q
  refine OwnGo.st st17 ?_
  show OwnGo p e below s _ _ _ T17 (mkF m 4 #[.val (.ref o), .val (.long p1), .second, .unset, .unset, .unset] [(.long (own_st p1))])
  refine OwnGo.st (fun _ kk => XS.lstoreN X17.here hx rfl (hb hby d4_4) rfl (l' := #[.val (.ref o), .val (.long p1), .second, .val (.long (own_st p1)), .second, .unset]) rfl kk) ?_
  show OwnGo p e below s _ _ _ T17 (mkF m 5 #[.val (.ref o), .val (.long p1), .second, .val (.long (own_st p1)), .second, .unset] [])
  refine OwnGo.st (fun _ kk => XS.aloadN X17.here hx rfl (hb hby d4_5) rfl rfl  kk) ?_
  show OwnGo p e below s _ _ _ T17 (mkF m 6 #[.val (.ref o), .val (.long p1), .second, .val (.long (own_st p1)), .second, .unset] [(.ref o)])
  refine OwnGo.st (fun _ kk => XS.lloadN X17.here hx rfl (hb hby d4_6) rfl  kk) ?_
  show OwnGo p e below s _ _ _ T17 (mkF m 7 #[.val (.ref o), .val (.long p1), .second, .val (.long (own_st p1)), .second, .unset] [(.long (own_st p1)), (.ref o)])
  obtain ⟨cq18, q18, q18'⟩ := E_o.cell
  obtain ⟨_, _, ⟨T18, L18, k18, n18⟩, -, X18, ⟨Lc18, hQ18, l18, y18, z18⟩, st18⟩ := X17.privateBack hx (y := (⟨"com/example/utsatt/utsatt/KeyHashes", "slotOf", "(J)I"⟩ : MethodName)) hown (mvT hZ (hw _ (List.mem_of_getElem? (i := 24) rfl))) (mvT hZ (hw _ (List.mem_of_getElem? (i := 25) rfl))) (own_selp (z := (⟨"com/example/utsatt/utsatt/KeyHashes", "add", "(J)Z"⟩ : MethodName)) (mvT hZ (hw _ (List.mem_of_getElem? (i := 19) rfl))) rfl (Cond.privateMethod_at (mvP hZ (hw _ (List.mem_of_getElem? (i := 26) rfl)) (args := #[]))) (mvT hZ (hw _ (List.mem_of_getElem? (i := 25) rfl))) (by decide)) (Cond.privateMethod_at (mvP hZ (hw _ (List.mem_of_getElem? (i := 26) rfl)) (args := #[]))) (mvT hZ (hw _ (List.mem_of_getElem? (i := 27) rfl))) (by decide) (backOf (W := 0) (rmslot l Z a0 hw [] o t kc vs (own_st p1) h0 n0 Z_ E_o Fs V TT.hl (own_free TT.hl (own_T_zero TT (by omega)) _)) hZ (hw _ (List.mem_of_getElem? (i := 27) rfl)) (hw _ (List.mem_of_getElem? (i := 6) rfl)) (by decide) (by decide)) (g := (mkF m 7 #[.val (.ref o), .val (.long p1), .second, .val (.long (own_st p1)), .second, .unset] [(.long (own_st p1)), (.ref o)])) rfl (by rw [hml]; rfl) (Steps.refl _) (a := o) (by rw [e17]; exact q18) q18' (argsL := [(.long (own_st p1))]) (rest := []) (lenOf pd_3 rfl) rfl (by show 2 * 0 + _ ≤ _; exact Nat.le_of_eq rfl) (hb hby d4_7) (fun _ _ => ⟨rfl, e17, (by decide : 0 + 0 ≤ _), (by decide : 0 + 0 ≤ _)⟩)
  dsimp only [Pt.U, Pt.locs, Pt.cells, Pt.slots] at X18 l18 y18 z18 st18 hQ18
  subst l18 y18 z18
  obtain ⟨r, k, hr, rfl, hk, N18q, e18⟩ := hQ18
  have N18 := Fr.app N17 N18q
  refine OwnGo.st (fun _ kk => st18.trans kk) ?_
  show OwnGo p e below s _ _ _ T18 (mkF m 10 #[.val (.ref o), .val (.long p1), .second, .val (.long (own_st p1)), .second, .unset] [(.int (Int32.ofNat r))])
  refine OwnGo.st (fun _ kk => XS.istore X18.here hx rfl (hb hby d4_10) rfl (l' := #[.val (.ref o), .val (.long p1), .second, .val (.long (own_st p1)), .second, .val (.int (Int32.ofNat r))]) rfl kk) ?_
  show OwnGo p e below s _ _ _ T18 (mkF m 12 #[.val (.ref o), .val (.long p1), .second, .val (.long (own_st p1)), .second, .val (.int (Int32.ofNat r))] [])
  refine OwnGo.st (fun _ kk => XS.aloadN X18.here hx rfl (hb hby d4_12) rfl rfl  kk) ?_
  show OwnGo p e below s _ _ _ T18 (mkF m 13 #[.val (.ref o), .val (.long p1), .second, .val (.long (own_st p1)), .second, .val (.int (Int32.ofNat r))] [(.ref o)])
  obtain ⟨T19, X19, e19, st19⟩ := getF X18 hx hZ hown (host := "") (Or.inl (hw _ (List.mem_of_getElem? (i := 14) rfl))) Via.refl e18 Fs (g := (mkF m 13 #[.val (.ref o), .val (.long p1), .second, .val (.long (own_st p1)), .second, .val (.int (Int32.ofNat r))] [(.ref o)])) rfl rfl (hb hby d4_13)
  refine OwnGo.st st19 ?_
  show OwnGo p e below s _ _ _ T19 (mkF m 16 #[.val (.ref o), .val (.long p1), .second, .val (.long (own_st p1)), .second, .val (.int (Int32.ofNat r))] [(.ref t)])
  refine OwnGo.st (fun _ kk => XS.iload X19.here hx rfl (hb hby d4_16) rfl  kk) ?_
  show OwnGo p e below s _ _ _ T19 (mkF m 18 #[.val (.ref o), .val (.long p1), .second, .val (.long (own_st p1)), .second, .val (.int (Int32.ofNat r))] [(.int (Int32.ofNat r)), (.ref t)])
  obtain ⟨cl20, Ar20, -, S20, -, H20, -⟩ := id V
  have hin20 : ¬ ((Int32.ofNat r) < 0 ∨ cl20.slots.size ≤ ((Int32.ofNat r)).toNatClampNeg) := inb_of S20 (own_inb hr)
  refine OwnGo.st (fun _ kk => X19.laload hx (j := (Int32.ofNat r)) (v := (.long (own_at vs r))) (by first | exact Ar20.1 | (rw [e19]; exact Ar20.1)) (State.isArrayOf_alike hZ.alike Ar20.2.1) Ar20.2.2 hin20 (H20.at hin20 (own_get TT.hl hr)) (g := (mkF m 18 #[.val (.ref o), .val (.long p1), .second, .val (.long (own_st p1)), .second, .val (.int (Int32.ofNat r))] [(.int (Int32.ofNat r)), (.ref t)])) rfl rfl (hb hby d4_18) _ kk) ?_
  show OwnGo p e below s _ _ _ T19 (mkF m 19 #[.val (.ref o), .val (.long p1), .second, .val (.long (own_st p1)), .second, .val (.int (Int32.ofNat r))] [(.long (own_at vs r))])
  refine OwnGo.st (fun _ kk => XS.lloadN X19.here hx rfl (hb hby d4_19) rfl  kk) ?_
  show OwnGo p e below s _ _ _ T19 (mkF m 20 #[.val (.ref o), .val (.long p1), .second, .val (.long (own_st p1)), .second, .val (.int (Int32.ofNat r))] [(.long (own_st p1)), (.long (own_at vs r))])
  refine OwnGo.st (fun _ kk => XS.lcmp X19.here hx rfl (hb hby d4_20) rfl kk) ?_
  show OwnGo p e below s _ _ _ T19 (mkF m 21 #[.val (.ref o), .val (.long p1), .second, .val (.long (own_st p1)), .second, .val (.int (Int32.ofNat r))] [(.int (lcmpW (own_at vs r) (own_st p1)))])
  by_cases hh : own_has vs (own_st p1)
  · refine OwnGo.st (fun _ kk => XS.ifNo X19.here hx rfl (hb hby d4_21) rfl ((if0 _ _).trans (teq (((lw_eq _ _).2 (own_T_found TT (own_stn _) hh k r hk)) : (lcmpW (own_at vs r) (own_st p1)) = (0 : Int32))).2) kk) ?_
    show OwnGo p e below s _ _ _ T19 (mkF m 24 #[.val (.ref o), .val (.long p1), .second, .val (.long (own_st p1)), .second, .val (.int (Int32.ofNat r))] [])
    refine OwnGo.st (fun _ kk => XS.iconst X19.here hx rfl (hb hby d4_24) kk) ?_
    show OwnGo p e below s _ _ _ T19 (mkF m 25 #[.val (.ref o), .val (.long p1), .second, .val (.long (own_st p1)), .second, .val (.int (Int32.ofNat r))] [(.int (0 : Int32))])
    exact OwnGo.retN X19 hx (t := .boolean) hret hlk (by simp) (hb hby d4_25) (by show QaddG Z o t kc vs n p1 h0 n0 _ T19.heap _; rw [e19]; exact ⟨vs, n, congrArg (fun z => some (Value.int z)) (own_bit0 (fun q => q hh)).symm, N18, Kp, E_o, Fs, F_size, V, TT, by rw [own_bn0 (fun q => q hh)]; rfl, fun y _ => ⟨Or.inl, fun q => q.elim id (fun q => q ▸ hh)⟩⟩) (by decide) (by decide)
  · have hm := own_T_miss hh k r hk
    have hz := (own_path_end k hk).resolve_right hm
    obtain ⟨T2, hs2⟩ := own_T_add TT (own_stn p1) hh hr hz hk
    refine OwnGo.st (fun _ kk => XS.ifYes X19.here hx rfl (pc0 := 21) (pc' := 26) rfl (hb hby d4_21) rfl ((if0 _ _).trans (feq ((fun q => hm ((lw_eq _ _).1 q)) : ¬ ((lcmpW (own_at vs r) (own_st p1)) = (0 : Int32)))).2) (by decide) (by decide) kk) ?_
    show OwnGo p e below s _ _ _ T19 (mkF m 26 #[.val (.ref o), .val (.long p1), .second, .val (.long (own_st p1)), .second, .val (.int (Int32.ofNat r))] [])
    refine OwnGo.st (fun _ kk => XS.aloadN X19.here hx rfl (hb hby d4_26) rfl rfl  kk) ?_
    show OwnGo p e below s _ _ _ T19 (mkF m 27 #[.val (.ref o), .val (.long p1), .second, .val (.long (own_st p1)), .second, .val (.int (Int32.ofNat r))] [(.ref o)])
    obtain ⟨T21, X21, e21, st21⟩ := getF X19 hx hZ hown (host := "") (Or.inl (hw _ (List.mem_of_getElem? (i := 14) rfl))) Via.refl e19 Fs (g := (mkF m 27 #[.val (.ref o), .val (.long p1), .second, .val (.long (own_st p1)), .second, .val (.int (Int32.ofNat r))] [(.ref o)])) rfl rfl (hb hby d4_27)
    refine OwnGo.st st21 ?_
    show OwnGo p e below s _ _ _ T21 (mkF m 30 #[.val (.ref o), .val (.long p1), .second, .val (.long (own_st p1)), .second, .val (.int (Int32.ofNat r))] [(.ref t)])
    refine OwnGo.st (fun _ kk => XS.iload X21.here hx rfl (hb hby d4_30) rfl  kk) ?_
    show OwnGo p e below s _ _ _ T21 (mkF m 32 #[.val (.ref o), .val (.long p1), .second, .val (.long (own_st p1)), .second, .val (.int (Int32.ofNat r))] [(.int (Int32.ofNat r)), (.ref t)])
    refine OwnGo.st (fun _ kk => XS.lloadN X21.here hx rfl (hb hby d4_32) rfl  kk) ?_
    show OwnGo p e below s _ _ _ T21 (mkF m 33 #[.val (.ref o), .val (.long p1), .second, .val (.long (own_st p1)), .second, .val (.int (Int32.ofNat r))] [(.long (own_st p1)), (.int (Int32.ofNat r)), (.ref t)])
    obtain ⟨cl22, Ar22, q22, S22, N22, H22, G22⟩ := id V
    obtain ⟨T22, h22, X22, e22, W22, st22⟩ := stJ X21 hx hZ e21 Ar22 (j := (Int32.ofNat r)) (inb_of S22 (own_inb hr)) (g := (mkF m 33 #[.val (.ref o), .val (.long p1), .second, .val (.long (own_st p1)), .second, .val (.int (Int32.ofNat r))] [(.long (own_st p1)), (.int (Int32.ofNat r)), (.ref t)])) rfl rfl (hb hby d4_33)
    have V' := Arv.set Ar22 q22 S22 N22 H22 G22 rfl W22 r (own_nat hr) (by rw [List.length_map, TT.hl]; exact hr)
    rw [own_set] at V'
    have E_o := E_o.wr W22
    have Fs := Fs.other W22 (Or.inl (Ne.symm ne_t_o))
    have F_size := F_size.other W22 (Or.inl (Ne.symm ne_t_o))
    have Kp := Kp.wr W22 (Or.inl (List.mem_of_getElem? (i := 1) rfl))
    have N22 := Fr.snoc X22 N18 g_t
    have Z_ : n0 ≤ h22.size := by rw [W22.size]; exact Z_
    have V := V'
    refine OwnGo.st st22 ?_
    show OwnGo p e below s _ _ _ T22 (mkF m 34 #[.val (.ref o), .val (.long p1), .second, .val (.long (own_st p1)), .second, .val (.int (Int32.ofNat r))] [])
    obtain hn_ | hn_ | hn_ : n = 0 ∨ n = 1 ∨ n = 2 := by omega
    · have F_size : Fld Z h22 o "com/example/utsatt/utsatt/KeyHashes" "size" "I" (.int (0 : Int32)) := by have q := F_size; rw [hn_] at q; exact q
      refine OwnGo.st (fun _ kk => XS.aloadN X22.here hx rfl (hb hby d4_34) rfl rfl  kk) ?_
      show OwnGo p e below s _ _ _ T22 (mkF m 35 #[.val (.ref o), .val (.long p1), .second, .val (.long (own_st p1)), .second, .val (.int (Int32.ofNat r))] [(.ref o)])
      refine OwnGo.st (fun _ kk => XS.dup X22.here hx rfl (hb hby d4_35) rfl rfl kk) ?_
      show OwnGo p e below s _ _ _ T22 (mkF m 36 #[.val (.ref o), .val (.long p1), .second, .val (.long (own_st p1)), .second, .val (.int (Int32.ofNat r))] [(.ref o), (.ref o)])
      obtain ⟨T23, X23, e23, st23⟩ := getF X22 hx hZ hown (host := "") (Or.inl (hw _ (List.mem_of_getElem? (i := 31) rfl))) Via.refl e22 F_size (g := (mkF m 36 #[.val (.ref o), .val (.long p1), .second, .val (.long (own_st p1)), .second, .val (.int (Int32.ofNat r))] [(.ref o), (.ref o)])) rfl rfl (hb hby d4_36)
      refine OwnGo.st st23 ?_
      show OwnGo p e below s _ _ _ T23 (mkF m 39 #[.val (.ref o), .val (.long p1), .second, .val (.long (own_st p1)), .second, .val (.int (Int32.ofNat r))] [(.int (0 : Int32)), (.ref o)])
      refine OwnGo.st (fun _ kk => XS.iconst X23.here hx rfl (hb hby d4_39) kk) ?_
      show OwnGo p e below s _ _ _ T23 (mkF m 40 #[.val (.ref o), .val (.long p1), .second, .val (.long (own_st p1)), .second, .val (.int (Int32.ofNat r))] [(.int (1 : Int32)), (.int (0 : Int32)), (.ref o)])
      refine OwnGo.st (fun _ kk => XS.iadd X23.here hx rfl (hb hby d4_40) rfl kk) ?_
      show OwnGo p e below s _ _ _ T23 (mkF m 41 #[.val (.ref o), .val (.long p1), .second, .val (.long (own_st p1)), .second, .val (.int (Int32.ofNat r))] [(.int (1 : Int32)), (.ref o)])
      show OwnGo p e below s _ _ _ T23 (mkF m 41 #[.val (.ref o), .val (.long p1), .second, .val (.long (own_st p1)), .second, .val (.int (Int32.ofNat r))] [(.int (1 : Int32)), (.ref o)])
      obtain ⟨T24, h24, X24, e24, W24, st24⟩ := putF X23 hx hZ hown (host := "") (Or.inl (hw _ (List.mem_of_getElem? (i := 31) rfl))) Via.refl e23 F_size E_o (Or.inl (hw _ (List.mem_of_getElem? (i := 32) rfl))) (hw _ (List.mem_of_getElem? (i := 5) rfl)) (ty := .int) (by decide) rfl rfl (g := (mkF m 41 #[.val (.ref o), .val (.long p1), .second, .val (.long (own_st p1)), .second, .val (.int (Int32.ofNat r))] [(.int (1 : Int32)), (.ref o)])) rfl rfl (hb hby d4_41)
      have E_o := E_o.wr W24
      have Fs := Fs.other W24 (Or.inr (slot_ne (Or.inl (hw _ (List.mem_of_getElem? (i := 15) rfl))) (Or.inl (hw _ (List.mem_of_getElem? (i := 32) rfl))) (by decide) (t := (.array .long)) (t' := .int) (by decide) (by decide)))
      have F_size := F_size.same W24
      have V := V.other W24 ne_t_o
      have Kp := Kp.wr W24 (Or.inl (List.mem_of_getElem? (i := 0) rfl))
      have N24 := Fr.snoc X24 N22 g_o
      have Z_ : n0 ≤ h24.size := by rw [W24.size]; exact Z_
      refine OwnGo.st st24 ?_
      show OwnGo p e below s _ _ _ T24 (mkF m 44 #[.val (.ref o), .val (.long p1), .second, .val (.long (own_st p1)), .second, .val (.int (Int32.ofNat r))] [])
      refine OwnGo.st (fun _ kk => XS.aloadN X24.here hx rfl (hb hby d4_44) rfl rfl  kk) ?_
      show OwnGo p e below s _ _ _ T24 (mkF m 45 #[.val (.ref o), .val (.long p1), .second, .val (.long (own_st p1)), .second, .val (.int (Int32.ofNat r))] [(.ref o)])
      obtain ⟨T25, X25, e25, st25⟩ := getF X24 hx hZ hown (host := "") (Or.inl (hw _ (List.mem_of_getElem? (i := 31) rfl))) Via.refl e24 F_size (g := (mkF m 45 #[.val (.ref o), .val (.long p1), .second, .val (.long (own_st p1)), .second, .val (.int (Int32.ofNat r))] [(.ref o)])) rfl rfl (hb hby d4_45)
      refine OwnGo.st st25 ?_
      show OwnGo p e below s _ _ _ T25 (mkF m 48 #[.val (.ref o), .val (.long p1), .second, .val (.long (own_st p1)), .second, .val (.int (Int32.ofNat r))] [(.int (1 : Int32))])
      refine OwnGo.st (fun _ kk => XS.i2dS X25.here hx rfl (v := (4607182418800017408 : UInt64)) (hb hby d4_48) rfl (by decide +kernel) kk) ?_
      show OwnGo p e below s _ _ _ T25 (mkF m 49 #[.val (.ref o), .val (.long p1), .second, .val (.long (own_st p1)), .second, .val (.int (Int32.ofNat r))] [(.double (4607182418800017408 : UInt64))])
      refine OwnGo.st (fun _ kk => XS.aloadN X25.here hx rfl (hb hby d4_49) rfl rfl  kk) ?_
      show OwnGo p e below s _ _ _ T25 (mkF m 50 #[.val (.ref o), .val (.long p1), .second, .val (.long (own_st p1)), .second, .val (.int (Int32.ofNat r))] [(.ref o), (.double (4607182418800017408 : UInt64))])
      obtain ⟨T26, X26, e26, st26⟩ := getF X25 hx hZ hown (host := "") (Or.inl (hw _ (List.mem_of_getElem? (i := 14) rfl))) Via.refl e25 Fs (g := (mkF m 50 #[.val (.ref o), .val (.long p1), .second, .val (.long (own_st p1)), .second, .val (.int (Int32.ofNat r))] [(.ref o), (.double (4607182418800017408 : UInt64))])) rfl rfl (hb hby d4_50)
      refine OwnGo.st st26 ?_
      show OwnGo p e below s _ _ _ T26 (mkF m 53 #[.val (.ref o), .val (.long p1), .second, .val (.long (own_st p1)), .second, .val (.int (Int32.ofNat r))] [(.ref t), (.double (4607182418800017408 : UInt64))])
      obtain ⟨cl27, Ar27, -, S27, N27, -, -⟩ := id V
      refine OwnGo.st (fun _ kk => own_len hZ (len_of S27 N27) Ar27 X26 e26 hx (g := (mkF m 53 #[.val (.ref o), .val (.long p1), .second, .val (.long (own_st p1)), .second, .val (.int (Int32.ofNat r))] [(.ref t), (.double (4607182418800017408 : UInt64))])) rfl rfl (hb hby d4_53) _ kk) ?_
      show OwnGo p e below s _ _ _ T26 (mkF m 54 #[.val (.ref o), .val (.long p1), .second, .val (.long (own_st p1)), .second, .val (.int (Int32.ofNat r))] [(.int (16 : Int32)), (.double (4607182418800017408 : UInt64))])
      refine OwnGo.st (fun _ kk => XS.i2dS X26.here hx rfl (v := (4625196817309499392 : UInt64)) (hb hby d4_54) rfl (by decide +kernel) kk) ?_
      show OwnGo p e below s _ _ _ T26 (mkF m 55 #[.val (.ref o), .val (.long p1), .second, .val (.long (own_st p1)), .second, .val (.int (Int32.ofNat r))] [(.double (4625196817309499392 : UInt64)), (.double (4607182418800017408 : UInt64))])
      refine OwnGo.st (fun _ kk => X26.ldc2DoubleC hx hown (mvT hZ (hw _ (List.mem_of_getElem? (i := 33) rfl))) (g := (mkF m 55 #[.val (.ref o), .val (.long p1), .second, .val (.long (own_st p1)), .second, .val (.int (Int32.ofNat r))] [(.double (4625196817309499392 : UInt64)), (.double (4607182418800017408 : UInt64))])) rfl (hb hby d4_55) _ kk) ?_
      show OwnGo p e below s _ _ _ T26 (mkF m 58 #[.val (.ref o), .val (.long p1), .second, .val (.long (own_st p1)), .second, .val (.int (Int32.ofNat r))] [(.double (4605380978949069210 : UInt64)), (.double (4625196817309499392 : UInt64)), (.double (4607182418800017408 : UInt64))])
      refine OwnGo.st (fun _ kk => XS.dmulS X26.here hx rfl (v := (4623395377458551194 : UInt64)) (hb hby d4_58) rfl (show _ ≤ _ by decide +kernel) (by decide +kernel) kk) ?_
      show OwnGo p e below s _ _ _ T26 (mkF m 59 #[.val (.ref o), .val (.long p1), .second, .val (.long (own_st p1)), .second, .val (.int (Int32.ofNat r))] [(.double (4623395377458551194 : UInt64)), (.double (4607182418800017408 : UInt64))])
      refine OwnGo.st (fun _ kk => XS.dcmpS X26.here hx rfl (v := (-1 : Int32)) (hb hby d4_59) rfl (by decide +kernel) kk) ?_
      show OwnGo p e below s _ _ _ T26 (mkF m 60 #[.val (.ref o), .val (.long p1), .second, .val (.long (own_st p1)), .second, .val (.int (Int32.ofNat r))] [(.int (-1 : Int32))])
      refine OwnGo.st (fun _ kk => XS.ifYes X26.here hx rfl (pc0 := 60) (pc' := 80) rfl (hb hby d4_60) rfl ((if0 _ _).trans (flt ((by decide) : ¬ ((0 : Int32) < (-1 : Int32)))).2.2.2) (by decide) (by decide) kk) ?_
      show OwnGo p e below s _ _ _ T26 (mkF m 80 #[.val (.ref o), .val (.long p1), .second, .val (.long (own_st p1)), .second, .val (.int (Int32.ofNat r))] [])
      refine OwnGo.st (fun _ kk => XS.iconst X26.here hx rfl (hb hby d4_80) kk) ?_
      show OwnGo p e below s _ _ _ T26 (mkF m 81 #[.val (.ref o), .val (.long p1), .second, .val (.long (own_st p1)), .second, .val (.int (Int32.ofNat r))] [(.int (1 : Int32))])
      exact OwnGo.retN X26 hx (t := .boolean) hret hlk (by simp) (hb hby d4_81) (by show QaddG Z o t kc vs n p1 h0 n0 _ T26.heap _; rw [e26]; exact ⟨_, n + 1, congrArg (fun z => some (Value.int z)) (own_bit1 hh).symm, N24, Kp, E_o, Fs, (by rw [hn_]; exact F_size), V, T2, by rw [own_bn1 hh], hs2⟩) (by decide) (by decide)
    · have F_size : Fld Z h22 o "com/example/utsatt/utsatt/KeyHashes" "size" "I" (.int (1 : Int32)) := by have q := F_size; rw [hn_] at q; exact q
      refine OwnGo.st (fun _ kk => XS.aloadN X22.here hx rfl (hb hby d4_34) rfl rfl  kk) ?_
      show OwnGo p e below s _ _ _ T22 (mkF m 35 #[.val (.ref o), .val (.long p1), .second, .val (.long (own_st p1)), .second, .val (.int (Int32.ofNat r))] [(.ref o)])
      refine OwnGo.st (fun _ kk => XS.dup X22.here hx rfl (hb hby d4_35) rfl rfl kk) ?_
      show OwnGo p e below s _ _ _ T22 (mkF m 36 #[.val (.ref o), .val (.long p1), .second, .val (.long (own_st p1)), .second, .val (.int (Int32.ofNat r))] [(.ref o), (.ref o)])
      obtain ⟨T28, X28, e28, st28⟩ := getF X22 hx hZ hown (host := "") (Or.inl (hw _ (List.mem_of_getElem? (i := 31) rfl))) Via.refl e22 F_size (g := (mkF m 36 #[.val (.ref o), .val (.long p1), .second, .val (.long (own_st p1)), .second, .val (.int (Int32.ofNat r))] [(.ref o), (.ref o)])) rfl rfl (hb hby d4_36)
      refine OwnGo.st st28 ?_
      show OwnGo p e below s _ _ _ T28 (mkF m 39 #[.val (.ref o), .val (.long p1), .second, .val (.long (own_st p1)), .second, .val (.int (Int32.ofNat r))] [(.int (1 : Int32)), (.ref o)])
      refine OwnGo.st (fun _ kk => XS.iconst X28.here hx rfl (hb hby d4_39) kk) ?_
      show OwnGo p e below s _ _ _ T28 (mkF m 40 #[.val (.ref o), .val (.long p1), .second, .val (.long (own_st p1)), .second, .val (.int (Int32.ofNat r))] [(.int (1 : Int32)), (.int (1 : Int32)), (.ref o)])
      refine OwnGo.st (fun _ kk => XS.iadd X28.here hx rfl (hb hby d4_40) rfl kk) ?_
      show OwnGo p e below s _ _ _ T28 (mkF m 41 #[.val (.ref o), .val (.long p1), .second, .val (.long (own_st p1)), .second, .val (.int (Int32.ofNat r))] [(.int (2 : Int32)), (.ref o)])
      show OwnGo p e below s _ _ _ T28 (mkF m 41 #[.val (.ref o), .val (.long p1), .second, .val (.long (own_st p1)), .second, .val (.int (Int32.ofNat r))] [(.int (2 : Int32)), (.ref o)])
      obtain ⟨T29, h29, X29, e29, W29, st29⟩ := putF X28 hx hZ hown (host := "") (Or.inl (hw _ (List.mem_of_getElem? (i := 31) rfl))) Via.refl e28 F_size E_o (Or.inl (hw _ (List.mem_of_getElem? (i := 32) rfl))) (hw _ (List.mem_of_getElem? (i := 5) rfl)) (ty := .int) (by decide) rfl rfl (g := (mkF m 41 #[.val (.ref o), .val (.long p1), .second, .val (.long (own_st p1)), .second, .val (.int (Int32.ofNat r))] [(.int (2 : Int32)), (.ref o)])) rfl rfl (hb hby d4_41)
      have E_o := E_o.wr W29
      have Fs := Fs.other W29 (Or.inr (slot_ne (Or.inl (hw _ (List.mem_of_getElem? (i := 15) rfl))) (Or.inl (hw _ (List.mem_of_getElem? (i := 32) rfl))) (by decide) (t := (.array .long)) (t' := .int) (by decide) (by decide)))
      have F_size := F_size.same W29
      have V := V.other W29 ne_t_o
      have Kp := Kp.wr W29 (Or.inl (List.mem_of_getElem? (i := 0) rfl))
      have N29 := Fr.snoc X29 N22 g_o
      have Z_ : n0 ≤ h29.size := by rw [W29.size]; exact Z_
      refine OwnGo.st st29 ?_
      show OwnGo p e below s _ _ _ T29 (mkF m 44 #[.val (.ref o), .val (.long p1), .second, .val (.long (own_st p1)), .second, .val (.int (Int32.ofNat r))] [])
      refine OwnGo.st (fun _ kk => XS.aloadN X29.here hx rfl (hb hby d4_44) rfl rfl  kk) ?_
      show OwnGo p e below s _ _ _ T29 (mkF m 45 #[.val (.ref o), .val (.long p1), .second, .val (.long (own_st p1)), .second, .val (.int (Int32.ofNat r))] [(.ref o)])
      obtain ⟨T30, X30, e30, st30⟩ := getF X29 hx hZ hown (host := "") (Or.inl (hw _ (List.mem_of_getElem? (i := 31) rfl))) Via.refl e29 F_size (g := (mkF m 45 #[.val (.ref o), .val (.long p1), .second, .val (.long (own_st p1)), .second, .val (.int (Int32.ofNat r))] [(.ref o)])) rfl rfl (hb hby d4_45)
      refine OwnGo.st st30 ?_
      show OwnGo p e below s _ _ _ T30 (mkF m 48 #[.val (.ref o), .val (.long p1), .second, .val (.long (own_st p1)), .second, .val (.int (Int32.ofNat r))] [(.int (2 : Int32))])
      refine OwnGo.st (fun _ kk => XS.i2dS X30.here hx rfl (v := (4611686018427387904 : UInt64)) (hb hby d4_48) rfl (by decide +kernel) kk) ?_
      show OwnGo p e below s _ _ _ T30 (mkF m 49 #[.val (.ref o), .val (.long p1), .second, .val (.long (own_st p1)), .second, .val (.int (Int32.ofNat r))] [(.double (4611686018427387904 : UInt64))])
      refine OwnGo.st (fun _ kk => XS.aloadN X30.here hx rfl (hb hby d4_49) rfl rfl  kk) ?_
      show OwnGo p e below s _ _ _ T30 (mkF m 50 #[.val (.ref o), .val (.long p1), .second, .val (.long (own_st p1)), .second, .val (.int (Int32.ofNat r))] [(.ref o), (.double (4611686018427387904 : UInt64))])
      obtain ⟨T31, X31, e31, st31⟩ := getF X30 hx hZ hown (host := "") (Or.inl (hw _ (List.mem_of_getElem? (i := 14) rfl))) Via.refl e30 Fs (g := (mkF m 50 #[.val (.ref o), .val (.long p1), .second, .val (.long (own_st p1)), .second, .val (.int (Int32.ofNat r))] [(.ref o), (.double (4611686018427387904 : UInt64))])) rfl rfl (hb hby d4_50)
      refine OwnGo.st st31 ?_
      show OwnGo p e below s _ _ _ T31 (mkF m 53 #[.val (.ref o), .val (.long p1), .second, .val (.long (own_st p1)), .second, .val (.int (Int32.ofNat r))] [(.ref t), (.double (4611686018427387904 : UInt64))])
      obtain ⟨cl32, Ar32, -, S32, N32, -, -⟩ := id V
      refine OwnGo.st (fun _ kk => own_len hZ (len_of S32 N32) Ar32 X31 e31 hx (g := (mkF m 53 #[.val (.ref o), .val (.long p1), .second, .val (.long (own_st p1)), .second, .val (.int (Int32.ofNat r))] [(.ref t), (.double (4611686018427387904 : UInt64))])) rfl rfl (hb hby d4_53) _ kk) ?_
      show OwnGo p e below s _ _ _ T31 (mkF m 54 #[.val (.ref o), .val (.long p1), .second, .val (.long (own_st p1)), .second, .val (.int (Int32.ofNat r))] [(.int (16 : Int32)), (.double (4611686018427387904 : UInt64))])
      refine OwnGo.st (fun _ kk => XS.i2dS X31.here hx rfl (v := (4625196817309499392 : UInt64)) (hb hby d4_54) rfl (by decide +kernel) kk) ?_
      show OwnGo p e below s _ _ _ T31 (mkF m 55 #[.val (.ref o), .val (.long p1), .second, .val (.long (own_st p1)), .second, .val (.int (Int32.ofNat r))] [(.double (4625196817309499392 : UInt64)), (.double (4611686018427387904 : UInt64))])
      refine OwnGo.st (fun _ kk => X31.ldc2DoubleC hx hown (mvT hZ (hw _ (List.mem_of_getElem? (i := 33) rfl))) (g := (mkF m 55 #[.val (.ref o), .val (.long p1), .second, .val (.long (own_st p1)), .second, .val (.int (Int32.ofNat r))] [(.double (4625196817309499392 : UInt64)), (.double (4611686018427387904 : UInt64))])) rfl (hb hby d4_55) _ kk) ?_
      show OwnGo p e below s _ _ _ T31 (mkF m 58 #[.val (.ref o), .val (.long p1), .second, .val (.long (own_st p1)), .second, .val (.int (Int32.ofNat r))] [(.double (4605380978949069210 : UInt64)), (.double (4625196817309499392 : UInt64)), (.double (4611686018427387904 : UInt64))])
      refine OwnGo.st (fun _ kk => XS.dmulS X31.here hx rfl (v := (4623395377458551194 : UInt64)) (hb hby d4_58) rfl (show _ ≤ _ by decide +kernel) (by decide +kernel) kk) ?_
      show OwnGo p e below s _ _ _ T31 (mkF m 59 #[.val (.ref o), .val (.long p1), .second, .val (.long (own_st p1)), .second, .val (.int (Int32.ofNat r))] [(.double (4623395377458551194 : UInt64)), (.double (4611686018427387904 : UInt64))])
      refine OwnGo.st (fun _ kk => XS.dcmpS X31.here hx rfl (v := (-1 : Int32)) (hb hby d4_59) rfl (by decide +kernel) kk) ?_
      show OwnGo p e below s _ _ _ T31 (mkF m 60 #[.val (.ref o), .val (.long p1), .second, .val (.long (own_st p1)), .second, .val (.int (Int32.ofNat r))] [(.int (-1 : Int32))])
      refine OwnGo.st (fun _ kk => XS.ifYes X31.here hx rfl (pc0 := 60) (pc' := 80) rfl (hb hby d4_60) rfl ((if0 _ _).trans (flt ((by decide) : ¬ ((0 : Int32) < (-1 : Int32)))).2.2.2) (by decide) (by decide) kk) ?_
      show OwnGo p e below s _ _ _ T31 (mkF m 80 #[.val (.ref o), .val (.long p1), .second, .val (.long (own_st p1)), .second, .val (.int (Int32.ofNat r))] [])
      refine OwnGo.st (fun _ kk => XS.iconst X31.here hx rfl (hb hby d4_80) kk) ?_
      show OwnGo p e below s _ _ _ T31 (mkF m 81 #[.val (.ref o), .val (.long p1), .second, .val (.long (own_st p1)), .second, .val (.int (Int32.ofNat r))] [(.int (1 : Int32))])
      exact OwnGo.retN X31 hx (t := .boolean) hret hlk (by simp) (hb hby d4_81) (by show QaddG Z o t kc vs n p1 h0 n0 _ T31.heap _; rw [e31]; exact ⟨_, n + 1, congrArg (fun z => some (Value.int z)) (own_bit1 hh).symm, N29, Kp, E_o, Fs, (by rw [hn_]; exact F_size), V, T2, by rw [own_bn1 hh], hs2⟩) (by decide) (by decide)
    · have F_size : Fld Z h22 o "com/example/utsatt/utsatt/KeyHashes" "size" "I" (.int (2 : Int32)) := by have q := F_size; rw [hn_] at q; exact q
      refine OwnGo.st (fun _ kk => XS.aloadN X22.here hx rfl (hb hby d4_34) rfl rfl  kk) ?_
      show OwnGo p e below s _ _ _ T22 (mkF m 35 #[.val (.ref o), .val (.long p1), .second, .val (.long (own_st p1)), .second, .val (.int (Int32.ofNat r))] [(.ref o)])
      refine OwnGo.st (fun _ kk => XS.dup X22.here hx rfl (hb hby d4_35) rfl rfl kk) ?_
      show OwnGo p e below s _ _ _ T22 (mkF m 36 #[.val (.ref o), .val (.long p1), .second, .val (.long (own_st p1)), .second, .val (.int (Int32.ofNat r))] [(.ref o), (.ref o)])
      obtain ⟨T33, X33, e33, st33⟩ := getF X22 hx hZ hown (host := "") (Or.inl (hw _ (List.mem_of_getElem? (i := 31) rfl))) Via.refl e22 F_size (g := (mkF m 36 #[.val (.ref o), .val (.long p1), .second, .val (.long (own_st p1)), .second, .val (.int (Int32.ofNat r))] [(.ref o), (.ref o)])) rfl rfl (hb hby d4_36)
      refine OwnGo.st st33 ?_
      show OwnGo p e below s _ _ _ T33 (mkF m 39 #[.val (.ref o), .val (.long p1), .second, .val (.long (own_st p1)), .second, .val (.int (Int32.ofNat r))] [(.int (2 : Int32)), (.ref o)])
      refine OwnGo.st (fun _ kk => XS.iconst X33.here hx rfl (hb hby d4_39) kk) ?_
      show OwnGo p e below s _ _ _ T33 (mkF m 40 #[.val (.ref o), .val (.long p1), .second, .val (.long (own_st p1)), .second, .val (.int (Int32.ofNat r))] [(.int (1 : Int32)), (.int (2 : Int32)), (.ref o)])
      refine OwnGo.st (fun _ kk => XS.iadd X33.here hx rfl (hb hby d4_40) rfl kk) ?_
      show OwnGo p e below s _ _ _ T33 (mkF m 41 #[.val (.ref o), .val (.long p1), .second, .val (.long (own_st p1)), .second, .val (.int (Int32.ofNat r))] [(.int (3 : Int32)), (.ref o)])
      show OwnGo p e below s _ _ _ T33 (mkF m 41 #[.val (.ref o), .val (.long p1), .second, .val (.long (own_st p1)), .second, .val (.int (Int32.ofNat r))] [(.int (3 : Int32)), (.ref o)])
      obtain ⟨T34, h34, X34, e34, W34, st34⟩ := putF X33 hx hZ hown (host := "") (Or.inl (hw _ (List.mem_of_getElem? (i := 31) rfl))) Via.refl e33 F_size E_o (Or.inl (hw _ (List.mem_of_getElem? (i := 32) rfl))) (hw _ (List.mem_of_getElem? (i := 5) rfl)) (ty := .int) (by decide) rfl rfl (g := (mkF m 41 #[.val (.ref o), .val (.long p1), .second, .val (.long (own_st p1)), .second, .val (.int (Int32.ofNat r))] [(.int (3 : Int32)), (.ref o)])) rfl rfl (hb hby d4_41)
      have E_o := E_o.wr W34
      have Fs := Fs.other W34 (Or.inr (slot_ne (Or.inl (hw _ (List.mem_of_getElem? (i := 15) rfl))) (Or.inl (hw _ (List.mem_of_getElem? (i := 32) rfl))) (by decide) (t := (.array .long)) (t' := .int) (by decide) (by decide)))
      have F_size := F_size.same W34
      have V := V.other W34 ne_t_o
      have Kp := Kp.wr W34 (Or.inl (List.mem_of_getElem? (i := 0) rfl))
      have N34 := Fr.snoc X34 N22 g_o
      have Z_ : n0 ≤ h34.size := by rw [W34.size]; exact Z_
      refine OwnGo.st st34 ?_
      show OwnGo p e below s _ _ _ T34 (mkF m 44 #[.val (.ref o), .val (.long p1), .second, .val (.long (own_st p1)), .second, .val (.int (Int32.ofNat r))] [])
      refine OwnGo.st (fun _ kk => XS.aloadN X34.here hx rfl (hb hby d4_44) rfl rfl  kk) ?_
      show OwnGo p e below s _ _ _ T34 (mkF m 45 #[.val (.ref o), .val (.long p1), .second, .val (.long (own_st p1)), .second, .val (.int (Int32.ofNat r))] [(.ref o)])
      obtain ⟨T35, X35, e35, st35⟩ := getF X34 hx hZ hown (host := "") (Or.inl (hw _ (List.mem_of_getElem? (i := 31) rfl))) Via.refl e34 F_size (g := (mkF m 45 #[.val (.ref o), .val (.long p1), .second, .val (.long (own_st p1)), .second, .val (.int (Int32.ofNat r))] [(.ref o)])) rfl rfl (hb hby d4_45)
      refine OwnGo.st st35 ?_
      show OwnGo p e below s _ _ _ T35 (mkF m 48 #[.val (.ref o), .val (.long p1), .second, .val (.long (own_st p1)), .second, .val (.int (Int32.ofNat r))] [(.int (3 : Int32))])
      refine OwnGo.st (fun _ kk => XS.i2dS X35.here hx rfl (v := (4613937818241073152 : UInt64)) (hb hby d4_48) rfl (by decide +kernel) kk) ?_
      show OwnGo p e below s _ _ _ T35 (mkF m 49 #[.val (.ref o), .val (.long p1), .second, .val (.long (own_st p1)), .second, .val (.int (Int32.ofNat r))] [(.double (4613937818241073152 : UInt64))])
      refine OwnGo.st (fun _ kk => XS.aloadN X35.here hx rfl (hb hby d4_49) rfl rfl  kk) ?_
      show OwnGo p e below s _ _ _ T35 (mkF m 50 #[.val (.ref o), .val (.long p1), .second, .val (.long (own_st p1)), .second, .val (.int (Int32.ofNat r))] [(.ref o), (.double (4613937818241073152 : UInt64))])
      obtain ⟨T36, X36, e36, st36⟩ := getF X35 hx hZ hown (host := "") (Or.inl (hw _ (List.mem_of_getElem? (i := 14) rfl))) Via.refl e35 Fs (g := (mkF m 50 #[.val (.ref o), .val (.long p1), .second, .val (.long (own_st p1)), .second, .val (.int (Int32.ofNat r))] [(.ref o), (.double (4613937818241073152 : UInt64))])) rfl rfl (hb hby d4_50)
      refine OwnGo.st st36 ?_
      show OwnGo p e below s _ _ _ T36 (mkF m 53 #[.val (.ref o), .val (.long p1), .second, .val (.long (own_st p1)), .second, .val (.int (Int32.ofNat r))] [(.ref t), (.double (4613937818241073152 : UInt64))])
      obtain ⟨cl37, Ar37, -, S37, N37, -, -⟩ := id V
      refine OwnGo.st (fun _ kk => own_len hZ (len_of S37 N37) Ar37 X36 e36 hx (g := (mkF m 53 #[.val (.ref o), .val (.long p1), .second, .val (.long (own_st p1)), .second, .val (.int (Int32.ofNat r))] [(.ref t), (.double (4613937818241073152 : UInt64))])) rfl rfl (hb hby d4_53) _ kk) ?_
      show OwnGo p e below s _ _ _ T36 (mkF m 54 #[.val (.ref o), .val (.long p1), .second, .val (.long (own_st p1)), .second, .val (.int (Int32.ofNat r))] [(.int (16 : Int32)), (.double (4613937818241073152 : UInt64))])
      refine OwnGo.st (fun _ kk => XS.i2dS X36.here hx rfl (v := (4625196817309499392 : UInt64)) (hb hby d4_54) rfl (by decide +kernel) kk) ?_
      show OwnGo p e below s _ _ _ T36 (mkF m 55 #[.val (.ref o), .val (.long p1), .second, .val (.long (own_st p1)), .second, .val (.int (Int32.ofNat r))] [(.double (4625196817309499392 : UInt64)), (.double (4613937818241073152 : UInt64))])
      refine OwnGo.st (fun _ kk => X36.ldc2DoubleC hx hown (mvT hZ (hw _ (List.mem_of_getElem? (i := 33) rfl))) (g := (mkF m 55 #[.val (.ref o), .val (.long p1), .second, .val (.long (own_st p1)), .second, .val (.int (Int32.ofNat r))] [(.double (4625196817309499392 : UInt64)), (.double (4613937818241073152 : UInt64))])) rfl (hb hby d4_55) _ kk) ?_
      show OwnGo p e below s _ _ _ T36 (mkF m 58 #[.val (.ref o), .val (.long p1), .second, .val (.long (own_st p1)), .second, .val (.int (Int32.ofNat r))] [(.double (4605380978949069210 : UInt64)), (.double (4625196817309499392 : UInt64)), (.double (4613937818241073152 : UInt64))])
      refine OwnGo.st (fun _ kk => XS.dmulS X36.here hx rfl (v := (4623395377458551194 : UInt64)) (hb hby d4_58) rfl (show _ ≤ _ by decide +kernel) (by decide +kernel) kk) ?_
      show OwnGo p e below s _ _ _ T36 (mkF m 59 #[.val (.ref o), .val (.long p1), .second, .val (.long (own_st p1)), .second, .val (.int (Int32.ofNat r))] [(.double (4623395377458551194 : UInt64)), (.double (4613937818241073152 : UInt64))])
      refine OwnGo.st (fun _ kk => XS.dcmpS X36.here hx rfl (v := (-1 : Int32)) (hb hby d4_59) rfl (by decide +kernel) kk) ?_
      show OwnGo p e below s _ _ _ T36 (mkF m 60 #[.val (.ref o), .val (.long p1), .second, .val (.long (own_st p1)), .second, .val (.int (Int32.ofNat r))] [(.int (-1 : Int32))])
      refine OwnGo.st (fun _ kk => XS.ifYes X36.here hx rfl (pc0 := 60) (pc' := 80) rfl (hb hby d4_60) rfl ((if0 _ _).trans (flt ((by decide) : ¬ ((0 : Int32) < (-1 : Int32)))).2.2.2) (by decide) (by decide) kk) ?_
      show OwnGo p e below s _ _ _ T36 (mkF m 80 #[.val (.ref o), .val (.long p1), .second, .val (.long (own_st p1)), .second, .val (.int (Int32.ofNat r))] [])
      refine OwnGo.st (fun _ kk => XS.iconst X36.here hx rfl (hb hby d4_80) kk) ?_
      show OwnGo p e below s _ _ _ T36 (mkF m 81 #[.val (.ref o), .val (.long p1), .second, .val (.long (own_st p1)), .second, .val (.int (Int32.ofNat r))] [(.int (1 : Int32))])
      exact OwnGo.retN X36 hx (t := .boolean) hret hlk (by simp) (hb hby d4_81) (by show QaddG Z o t kc vs n p1 h0 n0 _ T36.heap _; rw [e36]; exact ⟨_, n + 1, congrArg (fun z => some (Value.int z)) (own_bit1 hh).symm, N34, Kp, E_o, Fs, (by rw [hn_]; exact F_size), V, T2, by rw [own_bn1 hh], hs2⟩) (by decide) (by decide)
def QremG (Z : State) (o : Addr) (t : Addr) (kc : ClassId) (vs : List Int64) (n : Nat) (p1 : Int64) (h0 : Heap) (n0 : Nat) (v : Option Value) (h : Heap) (L : List Loc) : Prop := ∃ (ws : List Int64) (k : Nat), v = some (.int (own_bit (own_has vs (own_st p1)))) ∧ Fr n0 L ∧ Keep h0 h [o, t] ∧ Exa Z h o "com/example/utsatt/utsatt/KeyHashes" ∧ Fld Z h o "com/example/utsatt/utsatt/KeyHashes" "slots" "[J" (.ref t) ∧ Fld Z h o "com/example/utsatt/utsatt/KeyHashes" "size" "I" (.int (Int32.ofNat k)) ∧ Arv Z h t kc .long (16 : Int32) (ws.map Value.long) (.long (0 : Int64)) ∧ own_T ws k ∧ k + own_bn (own_has vs (own_st p1)) = n ∧ ∀ y, y ≠ 0 → (own_has ws y ↔ own_has vs y ∧ y ≠ own_st p1)
set_option maxRecDepth 65536 in
set_option maxHeartbeats 40000000 in
theorem sg_rem {p : Program} {l : Launch} {e : Env} {s : State} {m : MethodId} {below : List Frame} {meth : Method} {c : Code} {Z : State} {a0 : Array Value} {T0 : State} {locs : List Loc} (o : Addr) (t : Addr) (kc : ClassId) (vs : List Int64) (n : Nat) (p1 : Int64) (r : Nat) (sl : Int32) (ws : List Int64) (kk : Nat) (g : Nat) (a : Nat) (zz : Nat) (h1 : Heap) (s6 : Slot) (s7 : Slot) (h0 : Heap) (n0 : Nat) (hw : ∀ d ∈ tables_1, d.before a0 Z = true)
    (X0 : Stand p l e ({ frames := 2, cells := 0, slots := 0, locals := 32 } : Room) s m #[(.ref o), (.long p1)] below meth c T0 locs 0 0) (hx : p.tables.exec = Jvm.exec) (hby : c.code = prog_2_method_5_code) (hml : c.maxLocals = 8) (hret : meth.sig.returnType = (some .boolean)) (hlk : meth.locks = false) (hown : s.vm.findClass "com/example/utsatt/utsatt/KeyHashes" = some m.cls) (hnm : meth.name = "remove") (hZ : Z.Warmed39 s.vm) (e0 : T0.heap = h1) (N0 : Fr n0 locs) (E_o : Exa Z h1 o "com/example/utsatt/utsatt/KeyHashes") (Fs : Fld Z h1 o "com/example/utsatt/utsatt/KeyHashes" "slots" "[J" (.ref t)) (V : Arv Z h1 t kc .long (16 : Int32) (ws.map Value.long) (.long (0 : Int64))) (F_size : Fld Z h1 o "com/example/utsatt/utsatt/KeyHashes" "size" "I" (.int (Int32.ofNat n))) (g_o : n0 ≤ o) (g_t : n0 ≤ t) (ne_t_o : t ≠ o) (TT : own_T vs n) (hn : n ≤ 3) (hh : own_has vs (own_st p1)) (Z_ : n0 ≤ h1.size) (LL : own_L vs (own_st p1) r ws g a zz) (hkk : a + kk = zz) (h67 : (s6 = .unset ∧ s7 = .unset) ∨ ∃ i6 i7 : Int32, s6 = .val (.int i6) ∧ s7 = .val (.int i7)) (Kp : Keep h0 h1 [o, t]) :
    OwnGo p e below s ({ frames := 2, cells := 0, slots := 0, locals := 32 } : Room).cells ({ frames := 2, cells := 0, slots := 0, locals := 32 } : Room).slots (QremG Z o t kc vs n p1 h0 n0) T0 (mkF m 33 #[.val (.ref o), .val (.long p1), .second, .val (.int sl), .val (.int (Int32.ofNat ((r + g) % 16))), .val (.int (Int32.ofNat ((r + a) % 16))), s6, s7] []) := by
  induction kk generalizing T0 locs ws g a h1 s6 s7 with
  | zero =>
    refine OwnGo.st (fun _ kk => XS.aloadN X0.here hx rfl (hb hby d9_33) rfl rfl  kk) ?_
    show OwnGo p e below s _ _ _ T0 (mkF m 34 #[.val (.ref o), .val (.long p1), .second, .val (.int sl), .val (.int (Int32.ofNat ((r + g) % 16))), .val (.int (Int32.ofNat ((r + a) % 16))), s6, s7] [(.ref o)])
    obtain ⟨T134, X134, e134, st134⟩ := getF X0 hx hZ hown (host := "") (Or.inl (hw _ (List.mem_of_getElem? (i := 14) rfl))) Via.refl e0 Fs (g := (mkF m 34 #[.val (.ref o), .val (.long p1), .second, .val (.int sl), .val (.int (Int32.ofNat ((r + g) % 16))), .val (.int (Int32.ofNat ((r + a) % 16))), s6, s7] [(.ref o)])) rfl rfl (hb hby d9_34)
    refine OwnGo.st st134 ?_
    show OwnGo p e below s _ _ _ T134 (mkF m 37 #[.val (.ref o), .val (.long p1), .second, .val (.int sl), .val (.int (Int32.ofNat ((r + g) % 16))), .val (.int (Int32.ofNat ((r + a) % 16))), s6, s7] [(.ref t)])
    refine OwnGo.st (fun _ kk => XS.iload X134.here hx rfl (hb hby d9_37) rfl  kk) ?_
    show OwnGo p e below s _ _ _ T134 (mkF m 39 #[.val (.ref o), .val (.long p1), .second, .val (.int sl), .val (.int (Int32.ofNat ((r + g) % 16))), .val (.int (Int32.ofNat ((r + a) % 16))), s6, s7] [(.int (Int32.ofNat ((r + a) % 16))), (.ref t)])
    obtain ⟨cl135, Ar135, -, S135, -, H135, -⟩ := id V
    have hin135 : ¬ ((Int32.ofNat ((r + a) % 16)) < 0 ∨ cl135.slots.size ≤ ((Int32.ofNat ((r + a) % 16))).toNatClampNeg) := inb_of S135 (own_inb (Nat.mod_lt _ (by decide)))
    refine OwnGo.st (fun _ kk => X134.laload hx (j := (Int32.ofNat ((r + a) % 16))) (v := (.long (own_F ws r a))) (by first | exact Ar135.1 | (rw [e134]; exact Ar135.1)) (State.isArrayOf_alike hZ.alike Ar135.2.1) Ar135.2.2 hin135 (H135.at hin135 (own_get LL.hl (Nat.mod_lt _ (by decide)))) (g := (mkF m 39 #[.val (.ref o), .val (.long p1), .second, .val (.int sl), .val (.int (Int32.ofNat ((r + g) % 16))), .val (.int (Int32.ofNat ((r + a) % 16))), s6, s7] [(.int (Int32.ofNat ((r + a) % 16))), (.ref t)])) rfl rfl (hb hby d9_39) _ kk) ?_
    show OwnGo p e below s _ _ _ T134 (mkF m 40 #[.val (.ref o), .val (.long p1), .second, .val (.int sl), .val (.int (Int32.ofNat ((r + g) % 16))), .val (.int (Int32.ofNat ((r + a) % 16))), s6, s7] [(.long (own_F ws r a))])
    refine OwnGo.st (fun _ kk => XS.lconst X134.here hx rfl (hb hby d9_40) kk) ?_
    show OwnGo p e below s _ _ _ T134 (mkF m 41 #[.val (.ref o), .val (.long p1), .second, .val (.int sl), .val (.int (Int32.ofNat ((r + g) % 16))), .val (.int (Int32.ofNat ((r + a) % 16))), s6, s7] [(.long (0 : Int64)), (.long (own_F ws r a))])
    refine OwnGo.st (fun _ kk => XS.lcmp X134.here hx rfl (hb hby d9_41) rfl kk) ?_
    show OwnGo p e below s _ _ _ T134 (mkF m 42 #[.val (.ref o), .val (.long p1), .second, .val (.int sl), .val (.int (Int32.ofNat ((r + g) % 16))), .val (.int (Int32.ofNat ((r + a) % 16))), s6, s7] [(.int (lcmpW (own_F ws r a) (0 : Int64)))])
    have hz0 : own_F ws r a = 0 := by have q := LL.z0; rwa [← hkk] at q
    refine OwnGo.st (fun _ kk => XS.ifYes X134.here hx rfl (pc0 := 42) (pc' := 146) rfl (hb hby d9_42) rfl ((if0 _ _).trans (teq (((lw_eq _ _).2 hz0) : (lcmpW (own_F ws r a) (0 : Int64)) = (0 : Int32))).1) (by decide) (by decide) kk) ?_
    show OwnGo p e below s _ _ _ T134 (mkF m 146 #[.val (.ref o), .val (.long p1), .second, .val (.int sl), .val (.int (Int32.ofNat ((r + g) % 16))), .val (.int (Int32.ofNat ((r + a) % 16))), s6, s7] [])
    have RR := own_L_end LL hz0
    refine OwnGo.st (fun _ kk => XS.aloadN X134.here hx rfl (hb hby d9_146) rfl rfl  kk) ?_
    show OwnGo p e below s _ _ _ T134 (mkF m 147 #[.val (.ref o), .val (.long p1), .second, .val (.int sl), .val (.int (Int32.ofNat ((r + g) % 16))), .val (.int (Int32.ofNat ((r + a) % 16))), s6, s7] [(.ref o)])
    obtain ⟨T136, X136, e136, st136⟩ := getF X134 hx hZ hown (host := "") (Or.inl (hw _ (List.mem_of_getElem? (i := 14) rfl))) Via.refl e134 Fs (g := (mkF m 147 #[.val (.ref o), .val (.long p1), .second, .val (.int sl), .val (.int (Int32.ofNat ((r + g) % 16))), .val (.int (Int32.ofNat ((r + a) % 16))), s6, s7] [(.ref o)])) rfl rfl (hb hby d9_147)
    refine OwnGo.st st136 ?_
    show OwnGo p e below s _ _ _ T136 (mkF m 150 #[.val (.ref o), .val (.long p1), .second, .val (.int sl), .val (.int (Int32.ofNat ((r + g) % 16))), .val (.int (Int32.ofNat ((r + a) % 16))), s6, s7] [(.ref t)])
    refine OwnGo.st (fun _ kk => XS.iload X136.here hx rfl (hb hby d9_150) rfl  kk) ?_
    show OwnGo p e below s _ _ _ T136 (mkF m 152 #[.val (.ref o), .val (.long p1), .second, .val (.int sl), .val (.int (Int32.ofNat ((r + g) % 16))), .val (.int (Int32.ofNat ((r + a) % 16))), s6, s7] [(.int (Int32.ofNat ((r + g) % 16))), (.ref t)])
    refine OwnGo.st (fun _ kk => XS.lconst X136.here hx rfl (hb hby d9_152) kk) ?_
    show OwnGo p e below s _ _ _ T136 (mkF m 153 #[.val (.ref o), .val (.long p1), .second, .val (.int sl), .val (.int (Int32.ofNat ((r + g) % 16))), .val (.int (Int32.ofNat ((r + a) % 16))), s6, s7] [(.long (0 : Int64)), (.int (Int32.ofNat ((r + g) % 16))), (.ref t)])
    obtain ⟨cl137, Ar137, q137, S137, N137, H137, G137⟩ := id V
    obtain ⟨T137, h137, X137, e137, W137, st137⟩ := stJ X136 hx hZ e136 Ar137 (j := (Int32.ofNat ((r + g) % 16))) (inb_of S137 (own_inb (Nat.mod_lt _ (by decide)))) (g := (mkF m 153 #[.val (.ref o), .val (.long p1), .second, .val (.int sl), .val (.int (Int32.ofNat ((r + g) % 16))), .val (.int (Int32.ofNat ((r + a) % 16))), s6, s7] [(.long (0 : Int64)), (.int (Int32.ofNat ((r + g) % 16))), (.ref t)])) rfl rfl (hb hby d9_153)
    have V' := Arv.set Ar137 q137 S137 N137 H137 G137 rfl W137 ((r + g) % 16) (own_nat (Nat.mod_lt _ (by decide))) (by rw [List.length_map, LL.hl]; exact (Nat.mod_lt _ (by decide)))
    rw [own_set] at V'
    have E_o := E_o.wr W137
    have Fs := Fs.other W137 (Or.inl (Ne.symm ne_t_o))
    have F_size := F_size.other W137 (Or.inl (Ne.symm ne_t_o))
    have Kp := Kp.wr W137 (Or.inl (List.mem_of_getElem? (i := 1) rfl))
    have N137 := Fr.snoc X137 N0 g_t
    have Z_ : n0 ≤ h137.size := by rw [W137.size]; exact Z_
    have V := V'
    refine OwnGo.st st137 ?_
    show OwnGo p e below s _ _ _ T137 (mkF m 154 #[.val (.ref o), .val (.long p1), .second, .val (.int sl), .val (.int (Int32.ofNat ((r + g) % 16))), .val (.int (Int32.ofNat ((r + a) % 16))), s6, s7] [])
    obtain hn_ | hn_ | hn_ : n = 1 ∨ n = 2 ∨ n = 3 := by have := own_T_pos TT (own_stn p1) hh; omega
    · have F_size : Fld Z h137 o "com/example/utsatt/utsatt/KeyHashes" "size" "I" (.int (1 : Int32)) := by have q := F_size; rw [hn_] at q; exact q
      refine OwnGo.st (fun _ kk => XS.aloadN X137.here hx rfl (hb hby d9_154) rfl rfl  kk) ?_
      show OwnGo p e below s _ _ _ T137 (mkF m 155 #[.val (.ref o), .val (.long p1), .second, .val (.int sl), .val (.int (Int32.ofNat ((r + g) % 16))), .val (.int (Int32.ofNat ((r + a) % 16))), s6, s7] [(.ref o)])
      refine OwnGo.st (fun _ kk => XS.dup X137.here hx rfl (hb hby d9_155) rfl rfl kk) ?_
      show OwnGo p e below s _ _ _ T137 (mkF m 156 #[.val (.ref o), .val (.long p1), .second, .val (.int sl), .val (.int (Int32.ofNat ((r + g) % 16))), .val (.int (Int32.ofNat ((r + a) % 16))), s6, s7] [(.ref o), (.ref o)])
      obtain ⟨T138, X138, e138, st138⟩ := getF X137 hx hZ hown (host := "") (Or.inl (hw _ (List.mem_of_getElem? (i := 31) rfl))) Via.refl e137 F_size (g := (mkF m 156 #[.val (.ref o), .val (.long p1), .second, .val (.int sl), .val (.int (Int32.ofNat ((r + g) % 16))), .val (.int (Int32.ofNat ((r + a) % 16))), s6, s7] [(.ref o), (.ref o)])) rfl rfl (hb hby d9_156)
      refine OwnGo.st st138 ?_
      show OwnGo p e below s _ _ _ T138 (mkF m 159 #[.val (.ref o), .val (.long p1), .second, .val (.int sl), .val (.int (Int32.ofNat ((r + g) % 16))), .val (.int (Int32.ofNat ((r + a) % 16))), s6, s7] [(.int (1 : Int32)), (.ref o)])
      refine OwnGo.st (fun _ kk => XS.iconst X138.here hx rfl (hb hby d9_159) kk) ?_
      show OwnGo p e below s _ _ _ T138 (mkF m 160 #[.val (.ref o), .val (.long p1), .second, .val (.int sl), .val (.int (Int32.ofNat ((r + g) % 16))), .val (.int (Int32.ofNat ((r + a) % 16))), s6, s7] [(.int (1 : Int32)), (.int (1 : Int32)), (.ref o)])
      refine OwnGo.st (fun _ kk => XS.isub X138.here hx rfl (hb hby d9_160) rfl kk) ?_
      show OwnGo p e below s _ _ _ T138 (mkF m 161 #[.val (.ref o), .val (.long p1), .second, .val (.int sl), .val (.int (Int32.ofNat ((r + g) % 16))), .val (.int (Int32.ofNat ((r + a) % 16))), s6, s7] [(.int (0 : Int32)), (.ref o)])
      show OwnGo p e below s _ _ _ T138 (mkF m 161 #[.val (.ref o), .val (.long p1), .second, .val (.int sl), .val (.int (Int32.ofNat ((r + g) % 16))), .val (.int (Int32.ofNat ((r + a) % 16))), s6, s7] [(.int (0 : Int32)), (.ref o)])
      obtain ⟨T139, h139, X139, e139, W139, st139⟩ := putF X138 hx hZ hown (host := "") (Or.inl (hw _ (List.mem_of_getElem? (i := 31) rfl))) Via.refl e138 F_size E_o (Or.inl (hw _ (List.mem_of_getElem? (i := 32) rfl))) (hw _ (List.mem_of_getElem? (i := 5) rfl)) (ty := .int) (by decide) rfl rfl (g := (mkF m 161 #[.val (.ref o), .val (.long p1), .second, .val (.int sl), .val (.int (Int32.ofNat ((r + g) % 16))), .val (.int (Int32.ofNat ((r + a) % 16))), s6, s7] [(.int (0 : Int32)), (.ref o)])) rfl rfl (hb hby d9_161)
      have E_o := E_o.wr W139
      have Fs := Fs.other W139 (Or.inr (slot_ne (Or.inl (hw _ (List.mem_of_getElem? (i := 15) rfl))) (Or.inl (hw _ (List.mem_of_getElem? (i := 32) rfl))) (by decide) (t := (.array .long)) (t' := .int) (by decide) (by decide)))
      have F_size := F_size.same W139
      have V := V.other W139 ne_t_o
      have Kp := Kp.wr W139 (Or.inl (List.mem_of_getElem? (i := 0) rfl))
      have N139 := Fr.snoc X139 N137 g_o
      have Z_ : n0 ≤ h139.size := by rw [W139.size]; exact Z_
      refine OwnGo.st st139 ?_
      show OwnGo p e below s _ _ _ T139 (mkF m 164 #[.val (.ref o), .val (.long p1), .second, .val (.int sl), .val (.int (Int32.ofNat ((r + g) % 16))), .val (.int (Int32.ofNat ((r + a) % 16))), s6, s7] [])
      refine OwnGo.st (fun _ kk => XS.aloadN X139.here hx rfl (hb hby d9_164) rfl rfl  kk) ?_
      show OwnGo p e below s _ _ _ T139 (mkF m 165 #[.val (.ref o), .val (.long p1), .second, .val (.int sl), .val (.int (Int32.ofNat ((r + g) % 16))), .val (.int (Int32.ofNat ((r + a) % 16))), s6, s7] [(.ref o)])
      obtain ⟨T140, X140, e140, st140⟩ := getF X139 hx hZ hown (host := "") (Or.inl (hw _ (List.mem_of_getElem? (i := 31) rfl))) Via.refl e139 F_size (g := (mkF m 165 #[.val (.ref o), .val (.long p1), .second, .val (.int sl), .val (.int (Int32.ofNat ((r + g) % 16))), .val (.int (Int32.ofNat ((r + a) % 16))), s6, s7] [(.ref o)])) rfl rfl (hb hby d9_165)
      refine OwnGo.st st140 ?_
      show OwnGo p e below s _ _ _ T140 (mkF m 168 #[.val (.ref o), .val (.long p1), .second, .val (.int sl), .val (.int (Int32.ofNat ((r + g) % 16))), .val (.int (Int32.ofNat ((r + a) % 16))), s6, s7] [(.int (0 : Int32))])
      refine OwnGo.st (fun _ kk => XS.i2dS X140.here hx rfl (v := (0 : UInt64)) (hb hby d9_168) rfl (by decide +kernel) kk) ?_
      show OwnGo p e below s _ _ _ T140 (mkF m 169 #[.val (.ref o), .val (.long p1), .second, .val (.int sl), .val (.int (Int32.ofNat ((r + g) % 16))), .val (.int (Int32.ofNat ((r + a) % 16))), s6, s7] [(.double (0 : UInt64))])
      refine OwnGo.st (fun _ kk => XS.aloadN X140.here hx rfl (hb hby d9_169) rfl rfl  kk) ?_
      show OwnGo p e below s _ _ _ T140 (mkF m 170 #[.val (.ref o), .val (.long p1), .second, .val (.int sl), .val (.int (Int32.ofNat ((r + g) % 16))), .val (.int (Int32.ofNat ((r + a) % 16))), s6, s7] [(.ref o), (.double (0 : UInt64))])
      obtain ⟨T141, X141, e141, st141⟩ := getF X140 hx hZ hown (host := "") (Or.inl (hw _ (List.mem_of_getElem? (i := 14) rfl))) Via.refl e140 Fs (g := (mkF m 170 #[.val (.ref o), .val (.long p1), .second, .val (.int sl), .val (.int (Int32.ofNat ((r + g) % 16))), .val (.int (Int32.ofNat ((r + a) % 16))), s6, s7] [(.ref o), (.double (0 : UInt64))])) rfl rfl (hb hby d9_170)
      refine OwnGo.st st141 ?_
      show OwnGo p e below s _ _ _ T141 (mkF m 173 #[.val (.ref o), .val (.long p1), .second, .val (.int sl), .val (.int (Int32.ofNat ((r + g) % 16))), .val (.int (Int32.ofNat ((r + a) % 16))), s6, s7] [(.ref t), (.double (0 : UInt64))])
      obtain ⟨cl142, Ar142, -, S142, N142, -, -⟩ := id V
      refine OwnGo.st (fun _ kk => own_len hZ (len_of S142 N142) Ar142 X141 e141 hx (g := (mkF m 173 #[.val (.ref o), .val (.long p1), .second, .val (.int sl), .val (.int (Int32.ofNat ((r + g) % 16))), .val (.int (Int32.ofNat ((r + a) % 16))), s6, s7] [(.ref t), (.double (0 : UInt64))])) rfl rfl (hb hby d9_173) _ kk) ?_
      show OwnGo p e below s _ _ _ T141 (mkF m 174 #[.val (.ref o), .val (.long p1), .second, .val (.int sl), .val (.int (Int32.ofNat ((r + g) % 16))), .val (.int (Int32.ofNat ((r + a) % 16))), s6, s7] [(.int (16 : Int32)), (.double (0 : UInt64))])
      refine OwnGo.st (fun _ kk => XS.i2dS X141.here hx rfl (v := (4625196817309499392 : UInt64)) (hb hby d9_174) rfl (by decide +kernel) kk) ?_
      show OwnGo p e below s _ _ _ T141 (mkF m 175 #[.val (.ref o), .val (.long p1), .second, .val (.int sl), .val (.int (Int32.ofNat ((r + g) % 16))), .val (.int (Int32.ofNat ((r + a) % 16))), s6, s7] [(.double (4625196817309499392 : UInt64)), (.double (0 : UInt64))])
      refine OwnGo.st (fun _ kk => X141.ldc2DoubleC hx hown (mvT hZ (hw _ (List.mem_of_getElem? (i := 43) rfl))) (g := (mkF m 175 #[.val (.ref o), .val (.long p1), .second, .val (.int sl), .val (.int (Int32.ofNat ((r + g) % 16))), .val (.int (Int32.ofNat ((r + a) % 16))), s6, s7] [(.double (4625196817309499392 : UInt64)), (.double (0 : UInt64))])) rfl (hb hby d9_175) _ kk) ?_
      show OwnGo p e below s _ _ _ T141 (mkF m 178 #[.val (.ref o), .val (.long p1), .second, .val (.int sl), .val (.int (Int32.ofNat ((r + g) % 16))), .val (.int (Int32.ofNat ((r + a) % 16))), s6, s7] [(.double (4596373779694328218 : UInt64)), (.double (4625196817309499392 : UInt64)), (.double (0 : UInt64))])
      refine OwnGo.st (fun _ kk => XS.dmulS X141.here hx rfl (v := (4614388178203810202 : UInt64)) (hb hby d9_178) rfl (show _ ≤ _ by decide +kernel) (by decide +kernel) kk) ?_
      show OwnGo p e below s _ _ _ T141 (mkF m 179 #[.val (.ref o), .val (.long p1), .second, .val (.int sl), .val (.int (Int32.ofNat ((r + g) % 16))), .val (.int (Int32.ofNat ((r + a) % 16))), s6, s7] [(.double (4614388178203810202 : UInt64)), (.double (0 : UInt64))])
      refine OwnGo.st (fun _ kk => XS.dcmpS X141.here hx rfl (v := (-1 : Int32)) (hb hby d9_179) rfl (by decide +kernel) kk) ?_
      show OwnGo p e below s _ _ _ T141 (mkF m 180 #[.val (.ref o), .val (.long p1), .second, .val (.int sl), .val (.int (Int32.ofNat ((r + g) % 16))), .val (.int (Int32.ofNat ((r + a) % 16))), s6, s7] [(.int (-1 : Int32))])
      refine OwnGo.st (fun _ kk => XS.ifNo X141.here hx rfl (hb hby d9_180) rfl ((if0 _ _).trans (tlt ((by decide) : (-1 : Int32) < (0 : Int32))).2.1) kk) ?_
      show OwnGo p e below s _ _ _ T141 (mkF m 183 #[.val (.ref o), .val (.long p1), .second, .val (.int sl), .val (.int (Int32.ofNat ((r + g) % 16))), .val (.int (Int32.ofNat ((r + a) % 16))), s6, s7] [])
      refine OwnGo.st (fun _ kk => XS.aloadN X141.here hx rfl (hb hby d9_183) rfl rfl  kk) ?_
      show OwnGo p e below s _ _ _ T141 (mkF m 184 #[.val (.ref o), .val (.long p1), .second, .val (.int sl), .val (.int (Int32.ofNat ((r + g) % 16))), .val (.int (Int32.ofNat ((r + a) % 16))), s6, s7] [(.ref o)])
      obtain ⟨T143, X143, e143, st143⟩ := getF X141 hx hZ hown (host := "") (Or.inl (hw _ (List.mem_of_getElem? (i := 14) rfl))) Via.refl e141 Fs (g := (mkF m 184 #[.val (.ref o), .val (.long p1), .second, .val (.int sl), .val (.int (Int32.ofNat ((r + g) % 16))), .val (.int (Int32.ofNat ((r + a) % 16))), s6, s7] [(.ref o)])) rfl rfl (hb hby d9_184)
      refine OwnGo.st st143 ?_
      show OwnGo p e below s _ _ _ T143 (mkF m 187 #[.val (.ref o), .val (.long p1), .second, .val (.int sl), .val (.int (Int32.ofNat ((r + g) % 16))), .val (.int (Int32.ofNat ((r + a) % 16))), s6, s7] [(.ref t)])
      obtain ⟨cl144, Ar144, -, S144, N144, -, -⟩ := id V
      refine OwnGo.st (fun _ kk => own_len hZ (len_of S144 N144) Ar144 X143 e143 hx (g := (mkF m 187 #[.val (.ref o), .val (.long p1), .second, .val (.int sl), .val (.int (Int32.ofNat ((r + g) % 16))), .val (.int (Int32.ofNat ((r + a) % 16))), s6, s7] [(.ref t)])) rfl rfl (hb hby d9_187) _ kk) ?_
      show OwnGo p e below s _ _ _ T143 (mkF m 188 #[.val (.ref o), .val (.long p1), .second, .val (.int sl), .val (.int (Int32.ofNat ((r + g) % 16))), .val (.int (Int32.ofNat ((r + a) % 16))), s6, s7] [(.int (16 : Int32))])
      refine OwnGo.st (fun _ kk => XS.bipush X143.here hx rfl (hb hby d9_188) kk) ?_
      show OwnGo p e below s _ _ _ T143 (mkF m 190 #[.val (.ref o), .val (.long p1), .second, .val (.int sl), .val (.int (Int32.ofNat ((r + g) % 16))), .val (.int (Int32.ofNat ((r + a) % 16))), s6, s7] [(.int (16 : Int32)), (.int (16 : Int32))])
      refine OwnGo.st (fun _ kk => XS.icmpYes X143.here hx rfl (pc0 := 190) (pc' := 208) rfl (hb hby d9_190) rfl (flt ((by decide) : ¬ ((16 : Int32) < (16 : Int32)))).2.2.2 (by decide) (by decide) kk) ?_
      show OwnGo p e below s _ _ _ T143 (mkF m 208 #[.val (.ref o), .val (.long p1), .second, .val (.int sl), .val (.int (Int32.ofNat ((r + g) % 16))), .val (.int (Int32.ofNat ((r + a) % 16))), s6, s7] [])
      refine OwnGo.st (fun _ kk => XS.iconst X143.here hx rfl (hb hby d9_208) kk) ?_
      show OwnGo p e below s _ _ _ T143 (mkF m 209 #[.val (.ref o), .val (.long p1), .second, .val (.int sl), .val (.int (Int32.ofNat ((r + g) % 16))), .val (.int (Int32.ofNat ((r + a) % 16))), s6, s7] [(.int (1 : Int32))])
      exact OwnGo.retN X143 hx (t := .boolean) hret hlk (by simp) (hb hby d9_209) (by show QremG Z o t kc vs n p1 h0 n0 _ T143.heap _; rw [e143]; exact ⟨_, 0, congrArg (fun z => some (Value.int z)) (own_bit1 hh).symm, N139, Kp, E_o, Fs, F_size, V, own_T_rem (n := 0) (by have q := TT; rw [hn_] at q; exact q) RR, by rw [own_bn1 hh, hn_], RR.2.2.2.1⟩) (by decide) (by decide)
    · have F_size : Fld Z h137 o "com/example/utsatt/utsatt/KeyHashes" "size" "I" (.int (2 : Int32)) := by have q := F_size; rw [hn_] at q; exact q
      refine OwnGo.st (fun _ kk => XS.aloadN X137.here hx rfl (hb hby d9_154) rfl rfl  kk) ?_
      show OwnGo p e below s _ _ _ T137 (mkF m 155 #[.val (.ref o), .val (.long p1), .second, .val (.int sl), .val (.int (Int32.ofNat ((r + g) % 16))), .val (.int (Int32.ofNat ((r + a) % 16))), s6, s7] [(.ref o)])
      refine OwnGo.st (fun _ kk => XS.dup X137.here hx rfl (hb hby d9_155) rfl rfl kk) ?_
      show OwnGo p e below s _ _ _ T137 (mkF m 156 #[.val (.ref o), .val (.long p1), .second, .val (.int sl), .val (.int (Int32.ofNat ((r + g) % 16))), .val (.int (Int32.ofNat ((r + a) % 16))), s6, s7] [(.ref o), (.ref o)])
      obtain ⟨T145, X145, e145, st145⟩ := getF X137 hx hZ hown (host := "") (Or.inl (hw _ (List.mem_of_getElem? (i := 31) rfl))) Via.refl e137 F_size (g := (mkF m 156 #[.val (.ref o), .val (.long p1), .second, .val (.int sl), .val (.int (Int32.ofNat ((r + g) % 16))), .val (.int (Int32.ofNat ((r + a) % 16))), s6, s7] [(.ref o), (.ref o)])) rfl rfl (hb hby d9_156)
      refine OwnGo.st st145 ?_
      show OwnGo p e below s _ _ _ T145 (mkF m 159 #[.val (.ref o), .val (.long p1), .second, .val (.int sl), .val (.int (Int32.ofNat ((r + g) % 16))), .val (.int (Int32.ofNat ((r + a) % 16))), s6, s7] [(.int (2 : Int32)), (.ref o)])
      refine OwnGo.st (fun _ kk => XS.iconst X145.here hx rfl (hb hby d9_159) kk) ?_
      show OwnGo p e below s _ _ _ T145 (mkF m 160 #[.val (.ref o), .val (.long p1), .second, .val (.int sl), .val (.int (Int32.ofNat ((r + g) % 16))), .val (.int (Int32.ofNat ((r + a) % 16))), s6, s7] [(.int (1 : Int32)), (.int (2 : Int32)), (.ref o)])
      refine OwnGo.st (fun _ kk => XS.isub X145.here hx rfl (hb hby d9_160) rfl kk) ?_
      show OwnGo p e below s _ _ _ T145 (mkF m 161 #[.val (.ref o), .val (.long p1), .second, .val (.int sl), .val (.int (Int32.ofNat ((r + g) % 16))), .val (.int (Int32.ofNat ((r + a) % 16))), s6, s7] [(.int (1 : Int32)), (.ref o)])
      show OwnGo p e below s _ _ _ T145 (mkF m 161 #[.val (.ref o), .val (.long p1), .second, .val (.int sl), .val (.int (Int32.ofNat ((r + g) % 16))), .val (.int (Int32.ofNat ((r + a) % 16))), s6, s7] [(.int (1 : Int32)), (.ref o)])
      obtain ⟨T146, h146, X146, e146, W146, st146⟩ := putF X145 hx hZ hown (host := "") (Or.inl (hw _ (List.mem_of_getElem? (i := 31) rfl))) Via.refl e145 F_size E_o (Or.inl (hw _ (List.mem_of_getElem? (i := 32) rfl))) (hw _ (List.mem_of_getElem? (i := 5) rfl)) (ty := .int) (by decide) rfl rfl (g := (mkF m 161 #[.val (.ref o), .val (.long p1), .second, .val (.int sl), .val (.int (Int32.ofNat ((r + g) % 16))), .val (.int (Int32.ofNat ((r + a) % 16))), s6, s7] [(.int (1 : Int32)), (.ref o)])) rfl rfl (hb hby d9_161)
      have E_o := E_o.wr W146
      have Fs := Fs.other W146 (Or.inr (slot_ne (Or.inl (hw _ (List.mem_of_getElem? (i := 15) rfl))) (Or.inl (hw _ (List.mem_of_getElem? (i := 32) rfl))) (by decide) (t := (.array .long)) (t' := .int) (by decide) (by decide)))
      have F_size := F_size.same W146
      have V := V.other W146 ne_t_o
      have Kp := Kp.wr W146 (Or.inl (List.mem_of_getElem? (i := 0) rfl))
      have N146 := Fr.snoc X146 N137 g_o
      have Z_ : n0 ≤ h146.size := by rw [W146.size]; exact Z_
      refine OwnGo.st st146 ?_
      show OwnGo p e below s _ _ _ T146 (mkF m 164 #[.val (.ref o), .val (.long p1), .second, .val (.int sl), .val (.int (Int32.ofNat ((r + g) % 16))), .val (.int (Int32.ofNat ((r + a) % 16))), s6, s7] [])
      refine OwnGo.st (fun _ kk => XS.aloadN X146.here hx rfl (hb hby d9_164) rfl rfl  kk) ?_
      show OwnGo p e below s _ _ _ T146 (mkF m 165 #[.val (.ref o), .val (.long p1), .second, .val (.int sl), .val (.int (Int32.ofNat ((r + g) % 16))), .val (.int (Int32.ofNat ((r + a) % 16))), s6, s7] [(.ref o)])
      obtain ⟨T147, X147, e147, st147⟩ := getF X146 hx hZ hown (host := "") (Or.inl (hw _ (List.mem_of_getElem? (i := 31) rfl))) Via.refl e146 F_size (g := (mkF m 165 #[.val (.ref o), .val (.long p1), .second, .val (.int sl), .val (.int (Int32.ofNat ((r + g) % 16))), .val (.int (Int32.ofNat ((r + a) % 16))), s6, s7] [(.ref o)])) rfl rfl (hb hby d9_165)
      refine OwnGo.st st147 ?_
      show OwnGo p e below s _ _ _ T147 (mkF m 168 #[.val (.ref o), .val (.long p1), .second, .val (.int sl), .val (.int (Int32.ofNat ((r + g) % 16))), .val (.int (Int32.ofNat ((r + a) % 16))), s6, s7] [(.int (1 : Int32))])
      refine OwnGo.st (fun _ kk => XS.i2dS X147.here hx rfl (v := (4607182418800017408 : UInt64)) (hb hby d9_168) rfl (by decide +kernel) kk) ?_
      show OwnGo p e below s _ _ _ T147 (mkF m 169 #[.val (.ref o), .val (.long p1), .second, .val (.int sl), .val (.int (Int32.ofNat ((r + g) % 16))), .val (.int (Int32.ofNat ((r + a) % 16))), s6, s7] [(.double (4607182418800017408 : UInt64))])
      refine OwnGo.st (fun _ kk => XS.aloadN X147.here hx rfl (hb hby d9_169) rfl rfl  kk) ?_
      show OwnGo p e below s _ _ _ T147 (mkF m 170 #[.val (.ref o), .val (.long p1), .second, .val (.int sl), .val (.int (Int32.ofNat ((r + g) % 16))), .val (.int (Int32.ofNat ((r + a) % 16))), s6, s7] [(.ref o), (.double (4607182418800017408 : UInt64))])
      obtain ⟨T148, X148, e148, st148⟩ := getF X147 hx hZ hown (host := "") (Or.inl (hw _ (List.mem_of_getElem? (i := 14) rfl))) Via.refl e147 Fs (g := (mkF m 170 #[.val (.ref o), .val (.long p1), .second, .val (.int sl), .val (.int (Int32.ofNat ((r + g) % 16))), .val (.int (Int32.ofNat ((r + a) % 16))), s6, s7] [(.ref o), (.double (4607182418800017408 : UInt64))])) rfl rfl (hb hby d9_170)
      refine OwnGo.st st148 ?_
      show OwnGo p e below s _ _ _ T148 (mkF m 173 #[.val (.ref o), .val (.long p1), .second, .val (.int sl), .val (.int (Int32.ofNat ((r + g) % 16))), .val (.int (Int32.ofNat ((r + a) % 16))), s6, s7] [(.ref t), (.double (4607182418800017408 : UInt64))])
      obtain ⟨cl149, Ar149, -, S149, N149, -, -⟩ := id V
      refine OwnGo.st (fun _ kk => own_len hZ (len_of S149 N149) Ar149 X148 e148 hx (g := (mkF m 173 #[.val (.ref o), .val (.long p1), .second, .val (.int sl), .val (.int (Int32.ofNat ((r + g) % 16))), .val (.int (Int32.ofNat ((r + a) % 16))), s6, s7] [(.ref t), (.double (4607182418800017408 : UInt64))])) rfl rfl (hb hby d9_173) _ kk) ?_
      show OwnGo p e below s _ _ _ T148 (mkF m 174 #[.val (.ref o), .val (.long p1), .second, .val (.int sl), .val (.int (Int32.ofNat ((r + g) % 16))), .val (.int (Int32.ofNat ((r + a) % 16))), s6, s7] [(.int (16 : Int32)), (.double (4607182418800017408 : UInt64))])
      refine OwnGo.st (fun _ kk => XS.i2dS X148.here hx rfl (v := (4625196817309499392 : UInt64)) (hb hby d9_174) rfl (by decide +kernel) kk) ?_
      show OwnGo p e below s _ _ _ T148 (mkF m 175 #[.val (.ref o), .val (.long p1), .second, .val (.int sl), .val (.int (Int32.ofNat ((r + g) % 16))), .val (.int (Int32.ofNat ((r + a) % 16))), s6, s7] [(.double (4625196817309499392 : UInt64)), (.double (4607182418800017408 : UInt64))])
      refine OwnGo.st (fun _ kk => X148.ldc2DoubleC hx hown (mvT hZ (hw _ (List.mem_of_getElem? (i := 43) rfl))) (g := (mkF m 175 #[.val (.ref o), .val (.long p1), .second, .val (.int sl), .val (.int (Int32.ofNat ((r + g) % 16))), .val (.int (Int32.ofNat ((r + a) % 16))), s6, s7] [(.double (4625196817309499392 : UInt64)), (.double (4607182418800017408 : UInt64))])) rfl (hb hby d9_175) _ kk) ?_
      show OwnGo p e below s _ _ _ T148 (mkF m 178 #[.val (.ref o), .val (.long p1), .second, .val (.int sl), .val (.int (Int32.ofNat ((r + g) % 16))), .val (.int (Int32.ofNat ((r + a) % 16))), s6, s7] [(.double (4596373779694328218 : UInt64)), (.double (4625196817309499392 : UInt64)), (.double (4607182418800017408 : UInt64))])
      refine OwnGo.st (fun _ kk => XS.dmulS X148.here hx rfl (v := (4614388178203810202 : UInt64)) (hb hby d9_178) rfl (show _ ≤ _ by decide +kernel) (by decide +kernel) kk) ?_
      show OwnGo p e below s _ _ _ T148 (mkF m 179 #[.val (.ref o), .val (.long p1), .second, .val (.int sl), .val (.int (Int32.ofNat ((r + g) % 16))), .val (.int (Int32.ofNat ((r + a) % 16))), s6, s7] [(.double (4614388178203810202 : UInt64)), (.double (4607182418800017408 : UInt64))])
      refine OwnGo.st (fun _ kk => XS.dcmpS X148.here hx rfl (v := (-1 : Int32)) (hb hby d9_179) rfl (by decide +kernel) kk) ?_
      show OwnGo p e below s _ _ _ T148 (mkF m 180 #[.val (.ref o), .val (.long p1), .second, .val (.int sl), .val (.int (Int32.ofNat ((r + g) % 16))), .val (.int (Int32.ofNat ((r + a) % 16))), s6, s7] [(.int (-1 : Int32))])
      refine OwnGo.st (fun _ kk => XS.ifNo X148.here hx rfl (hb hby d9_180) rfl ((if0 _ _).trans (tlt ((by decide) : (-1 : Int32) < (0 : Int32))).2.1) kk) ?_
      show OwnGo p e below s _ _ _ T148 (mkF m 183 #[.val (.ref o), .val (.long p1), .second, .val (.int sl), .val (.int (Int32.ofNat ((r + g) % 16))), .val (.int (Int32.ofNat ((r + a) % 16))), s6, s7] [])
      refine OwnGo.st (fun _ kk => XS.aloadN X148.here hx rfl (hb hby d9_183) rfl rfl  kk) ?_
      show OwnGo p e below s _ _ _ T148 (mkF m 184 #[.val (.ref o), .val (.long p1), .second, .val (.int sl), .val (.int (Int32.ofNat ((r + g) % 16))), .val (.int (Int32.ofNat ((r + a) % 16))), s6, s7] [(.ref o)])
      obtain ⟨T150, X150, e150, st150⟩ := getF X148 hx hZ hown (host := "") (Or.inl (hw _ (List.mem_of_getElem? (i := 14) rfl))) Via.refl e148 Fs (g := (mkF m 184 #[.val (.ref o), .val (.long p1), .second, .val (.int sl), .val (.int (Int32.ofNat ((r + g) % 16))), .val (.int (Int32.ofNat ((r + a) % 16))), s6, s7] [(.ref o)])) rfl rfl (hb hby d9_184)
      refine OwnGo.st st150 ?_
      show OwnGo p e below s _ _ _ T150 (mkF m 187 #[.val (.ref o), .val (.long p1), .second, .val (.int sl), .val (.int (Int32.ofNat ((r + g) % 16))), .val (.int (Int32.ofNat ((r + a) % 16))), s6, s7] [(.ref t)])
      obtain ⟨cl151, Ar151, -, S151, N151, -, -⟩ := id V
      refine OwnGo.st (fun _ kk => own_len hZ (len_of S151 N151) Ar151 X150 e150 hx (g := (mkF m 187 #[.val (.ref o), .val (.long p1), .second, .val (.int sl), .val (.int (Int32.ofNat ((r + g) % 16))), .val (.int (Int32.ofNat ((r + a) % 16))), s6, s7] [(.ref t)])) rfl rfl (hb hby d9_187) _ kk) ?_
      show OwnGo p e below s _ _ _ T150 (mkF m 188 #[.val (.ref o), .val (.long p1), .second, .val (.int sl), .val (.int (Int32.ofNat ((r + g) % 16))), .val (.int (Int32.ofNat ((r + a) % 16))), s6, s7] [(.int (16 : Int32))])
      refine OwnGo.st (fun _ kk => XS.bipush X150.here hx rfl (hb hby d9_188) kk) ?_
      show OwnGo p e below s _ _ _ T150 (mkF m 190 #[.val (.ref o), .val (.long p1), .second, .val (.int sl), .val (.int (Int32.ofNat ((r + g) % 16))), .val (.int (Int32.ofNat ((r + a) % 16))), s6, s7] [(.int (16 : Int32)), (.int (16 : Int32))])
      refine OwnGo.st (fun _ kk => XS.icmpYes X150.here hx rfl (pc0 := 190) (pc' := 208) rfl (hb hby d9_190) rfl (flt ((by decide) : ¬ ((16 : Int32) < (16 : Int32)))).2.2.2 (by decide) (by decide) kk) ?_
      show OwnGo p e below s _ _ _ T150 (mkF m 208 #[.val (.ref o), .val (.long p1), .second, .val (.int sl), .val (.int (Int32.ofNat ((r + g) % 16))), .val (.int (Int32.ofNat ((r + a) % 16))), s6, s7] [])
      refine OwnGo.st (fun _ kk => XS.iconst X150.here hx rfl (hb hby d9_208) kk) ?_
      show OwnGo p e below s _ _ _ T150 (mkF m 209 #[.val (.ref o), .val (.long p1), .second, .val (.int sl), .val (.int (Int32.ofNat ((r + g) % 16))), .val (.int (Int32.ofNat ((r + a) % 16))), s6, s7] [(.int (1 : Int32))])
      exact OwnGo.retN X150 hx (t := .boolean) hret hlk (by simp) (hb hby d9_209) (by show QremG Z o t kc vs n p1 h0 n0 _ T150.heap _; rw [e150]; exact ⟨_, 1, congrArg (fun z => some (Value.int z)) (own_bit1 hh).symm, N146, Kp, E_o, Fs, F_size, V, own_T_rem (n := 1) (by have q := TT; rw [hn_] at q; exact q) RR, by rw [own_bn1 hh, hn_], RR.2.2.2.1⟩) (by decide) (by decide)
    · have F_size : Fld Z h137 o "com/example/utsatt/utsatt/KeyHashes" "size" "I" (.int (3 : Int32)) := by have q := F_size; rw [hn_] at q; exact q
      refine OwnGo.st (fun _ kk => XS.aloadN X137.here hx rfl (hb hby d9_154) rfl rfl  kk) ?_
      show OwnGo p e below s _ _ _ T137 (mkF m 155 #[.val (.ref o), .val (.long p1), .second, .val (.int sl), .val (.int (Int32.ofNat ((r + g) % 16))), .val (.int (Int32.ofNat ((r + a) % 16))), s6, s7] [(.ref o)])
      refine OwnGo.st (fun _ kk => XS.dup X137.here hx rfl (hb hby d9_155) rfl rfl kk) ?_
      show OwnGo p e below s _ _ _ T137 (mkF m 156 #[.val (.ref o), .val (.long p1), .second, .val (.int sl), .val (.int (Int32.ofNat ((r + g) % 16))), .val (.int (Int32.ofNat ((r + a) % 16))), s6, s7] [(.ref o), (.ref o)])
      obtain ⟨T152, X152, e152, st152⟩ := getF X137 hx hZ hown (host := "") (Or.inl (hw _ (List.mem_of_getElem? (i := 31) rfl))) Via.refl e137 F_size (g := (mkF m 156 #[.val (.ref o), .val (.long p1), .second, .val (.int sl), .val (.int (Int32.ofNat ((r + g) % 16))), .val (.int (Int32.ofNat ((r + a) % 16))), s6, s7] [(.ref o), (.ref o)])) rfl rfl (hb hby d9_156)
      refine OwnGo.st st152 ?_
      show OwnGo p e below s _ _ _ T152 (mkF m 159 #[.val (.ref o), .val (.long p1), .second, .val (.int sl), .val (.int (Int32.ofNat ((r + g) % 16))), .val (.int (Int32.ofNat ((r + a) % 16))), s6, s7] [(.int (3 : Int32)), (.ref o)])
      refine OwnGo.st (fun _ kk => XS.iconst X152.here hx rfl (hb hby d9_159) kk) ?_
      show OwnGo p e below s _ _ _ T152 (mkF m 160 #[.val (.ref o), .val (.long p1), .second, .val (.int sl), .val (.int (Int32.ofNat ((r + g) % 16))), .val (.int (Int32.ofNat ((r + a) % 16))), s6, s7] [(.int (1 : Int32)), (.int (3 : Int32)), (.ref o)])
      refine OwnGo.st (fun _ kk => XS.isub X152.here hx rfl (hb hby d9_160) rfl kk) ?_
      show OwnGo p e below s _ _ _ T152 (mkF m 161 #[.val (.ref o), .val (.long p1), .second, .val (.int sl), .val (.int (Int32.ofNat ((r + g) % 16))), .val (.int (Int32.ofNat ((r + a) % 16))), s6, s7] [(.int (2 : Int32)), (.ref o)])
      show OwnGo p e below s _ _ _ T152 (mkF m 161 #[.val (.ref o), .val (.long p1), .second, .val (.int sl), .val (.int (Int32.ofNat ((r + g) % 16))), .val (.int (Int32.ofNat ((r + a) % 16))), s6, s7] [(.int (2 : Int32)), (.ref o)])
      obtain ⟨T153, h153, X153, e153, W153, st153⟩ := putF X152 hx hZ hown (host := "") (Or.inl (hw _ (List.mem_of_getElem? (i := 31) rfl))) Via.refl e152 F_size E_o (Or.inl (hw _ (List.mem_of_getElem? (i := 32) rfl))) (hw _ (List.mem_of_getElem? (i := 5) rfl)) (ty := .int) (by decide) rfl rfl (g := (mkF m 161 #[.val (.ref o), .val (.long p1), .second, .val (.int sl), .val (.int (Int32.ofNat ((r + g) % 16))), .val (.int (Int32.ofNat ((r + a) % 16))), s6, s7] [(.int (2 : Int32)), (.ref o)])) rfl rfl (hb hby d9_161)
      have E_o := E_o.wr W153
      have Fs := Fs.other W153 (Or.inr (slot_ne (Or.inl (hw _ (List.mem_of_getElem? (i := 15) rfl))) (Or.inl (hw _ (List.mem_of_getElem? (i := 32) rfl))) (by decide) (t := (.array .long)) (t' := .int) (by decide) (by decide)))
      have F_size := F_size.same W153
      have V := V.other W153 ne_t_o
      have Kp := Kp.wr W153 (Or.inl (List.mem_of_getElem? (i := 0) rfl))
      have N153 := Fr.snoc X153 N137 g_o
      have Z_ : n0 ≤ h153.size := by rw [W153.size]; exact Z_
      refine OwnGo.st st153 ?_
      show OwnGo p e below s _ _ _ T153 (mkF m 164 #[.val (.ref o), .val (.long p1), .second, .val (.int sl), .val (.int (Int32.ofNat ((r + g) % 16))), .val (.int (Int32.ofNat ((r + a) % 16))), s6, s7] [])
      refine OwnGo.st (fun _ kk => XS.aloadN X153.here hx rfl (hb hby d9_164) rfl rfl  kk) ?_
      show OwnGo p e below s _ _ _ T153 (mkF m 165 #[.val (.ref o), .val (.long p1), .second, .val (.int sl), .val (.int (Int32.ofNat ((r + g) % 16))), .val (.int (Int32.ofNat ((r + a) % 16))), s6, s7] [(.ref o)])
      obtain ⟨T154, X154, e154, st154⟩ := getF X153 hx hZ hown (host := "") (Or.inl (hw _ (List.mem_of_getElem? (i := 31) rfl))) Via.refl e153 F_size (g := (mkF m 165 #[.val (.ref o), .val (.long p1), .second, .val (.int sl), .val (.int (Int32.ofNat ((r + g) % 16))), .val (.int (Int32.ofNat ((r + a) % 16))), s6, s7] [(.ref o)])) rfl rfl (hb hby d9_165)
      refine OwnGo.st st154 ?_
      show OwnGo p e below s _ _ _ T154 (mkF m 168 #[.val (.ref o), .val (.long p1), .second, .val (.int sl), .val (.int (Int32.ofNat ((r + g) % 16))), .val (.int (Int32.ofNat ((r + a) % 16))), s6, s7] [(.int (2 : Int32))])
      refine OwnGo.st (fun _ kk => XS.i2dS X154.here hx rfl (v := (4611686018427387904 : UInt64)) (hb hby d9_168) rfl (by decide +kernel) kk) ?_
      show OwnGo p e below s _ _ _ T154 (mkF m 169 #[.val (.ref o), .val (.long p1), .second, .val (.int sl), .val (.int (Int32.ofNat ((r + g) % 16))), .val (.int (Int32.ofNat ((r + a) % 16))), s6, s7] [(.double (4611686018427387904 : UInt64))])
      refine OwnGo.st (fun _ kk => XS.aloadN X154.here hx rfl (hb hby d9_169) rfl rfl  kk) ?_
      show OwnGo p e below s _ _ _ T154 (mkF m 170 #[.val (.ref o), .val (.long p1), .second, .val (.int sl), .val (.int (Int32.ofNat ((r + g) % 16))), .val (.int (Int32.ofNat ((r + a) % 16))), s6, s7] [(.ref o), (.double (4611686018427387904 : UInt64))])
      obtain ⟨T155, X155, e155, st155⟩ := getF X154 hx hZ hown (host := "") (Or.inl (hw _ (List.mem_of_getElem? (i := 14) rfl))) Via.refl e154 Fs (g := (mkF m 170 #[.val (.ref o), .val (.long p1), .second, .val (.int sl), .val (.int (Int32.ofNat ((r + g) % 16))), .val (.int (Int32.ofNat ((r + a) % 16))), s6, s7] [(.ref o), (.double (4611686018427387904 : UInt64))])) rfl rfl (hb hby d9_170)
      refine OwnGo.st st155 ?_
      show OwnGo p e below s _ _ _ T155 (mkF m 173 #[.val (.ref o), .val (.long p1), .second, .val (.int sl), .val (.int (Int32.ofNat ((r + g) % 16))), .val (.int (Int32.ofNat ((r + a) % 16))), s6, s7] [(.ref t), (.double (4611686018427387904 : UInt64))])
      obtain ⟨cl156, Ar156, -, S156, N156, -, -⟩ := id V
      refine OwnGo.st (fun _ kk => own_len hZ (len_of S156 N156) Ar156 X155 e155 hx (g := (mkF m 173 #[.val (.ref o), .val (.long p1), .second, .val (.int sl), .val (.int (Int32.ofNat ((r + g) % 16))), .val (.int (Int32.ofNat ((r + a) % 16))), s6, s7] [(.ref t), (.double (4611686018427387904 : UInt64))])) rfl rfl (hb hby d9_173) _ kk) ?_
      show OwnGo p e below s _ _ _ T155 (mkF m 174 #[.val (.ref o), .val (.long p1), .second, .val (.int sl), .val (.int (Int32.ofNat ((r + g) % 16))), .val (.int (Int32.ofNat ((r + a) % 16))), s6, s7] [(.int (16 : Int32)), (.double (4611686018427387904 : UInt64))])
      refine OwnGo.st (fun _ kk => XS.i2dS X155.here hx rfl (v := (4625196817309499392 : UInt64)) (hb hby d9_174) rfl (by decide +kernel) kk) ?_
      show OwnGo p e below s _ _ _ T155 (mkF m 175 #[.val (.ref o), .val (.long p1), .second, .val (.int sl), .val (.int (Int32.ofNat ((r + g) % 16))), .val (.int (Int32.ofNat ((r + a) % 16))), s6, s7] [(.double (4625196817309499392 : UInt64)), (.double (4611686018427387904 : UInt64))])
      refine OwnGo.st (fun _ kk => X155.ldc2DoubleC hx hown (mvT hZ (hw _ (List.mem_of_getElem? (i := 43) rfl))) (g := (mkF m 175 #[.val (.ref o), .val (.long p1), .second, .val (.int sl), .val (.int (Int32.ofNat ((r + g) % 16))), .val (.int (Int32.ofNat ((r + a) % 16))), s6, s7] [(.double (4625196817309499392 : UInt64)), (.double (4611686018427387904 : UInt64))])) rfl (hb hby d9_175) _ kk) ?_
      show OwnGo p e below s _ _ _ T155 (mkF m 178 #[.val (.ref o), .val (.long p1), .second, .val (.int sl), .val (.int (Int32.ofNat ((r + g) % 16))), .val (.int (Int32.ofNat ((r + a) % 16))), s6, s7] [(.double (4596373779694328218 : UInt64)), (.double (4625196817309499392 : UInt64)), (.double (4611686018427387904 : UInt64))])
      refine OwnGo.st (fun _ kk => XS.dmulS X155.here hx rfl (v := (4614388178203810202 : UInt64)) (hb hby d9_178) rfl (show _ ≤ _ by decide +kernel) (by decide +kernel) kk) ?_
      show OwnGo p e below s _ _ _ T155 (mkF m 179 #[.val (.ref o), .val (.long p1), .second, .val (.int sl), .val (.int (Int32.ofNat ((r + g) % 16))), .val (.int (Int32.ofNat ((r + a) % 16))), s6, s7] [(.double (4614388178203810202 : UInt64)), (.double (4611686018427387904 : UInt64))])
      refine OwnGo.st (fun _ kk => XS.dcmpS X155.here hx rfl (v := (-1 : Int32)) (hb hby d9_179) rfl (by decide +kernel) kk) ?_
      show OwnGo p e below s _ _ _ T155 (mkF m 180 #[.val (.ref o), .val (.long p1), .second, .val (.int sl), .val (.int (Int32.ofNat ((r + g) % 16))), .val (.int (Int32.ofNat ((r + a) % 16))), s6, s7] [(.int (-1 : Int32))])
      refine OwnGo.st (fun _ kk => XS.ifNo X155.here hx rfl (hb hby d9_180) rfl ((if0 _ _).trans (tlt ((by decide) : (-1 : Int32) < (0 : Int32))).2.1) kk) ?_
      show OwnGo p e below s _ _ _ T155 (mkF m 183 #[.val (.ref o), .val (.long p1), .second, .val (.int sl), .val (.int (Int32.ofNat ((r + g) % 16))), .val (.int (Int32.ofNat ((r + a) % 16))), s6, s7] [])
      refine OwnGo.st (fun _ kk => XS.aloadN X155.here hx rfl (hb hby d9_183) rfl rfl  kk) ?_
      show OwnGo p e below s _ _ _ T155 (mkF m 184 #[.val (.ref o), .val (.long p1), .second, .val (.int sl), .val (.int (Int32.ofNat ((r + g) % 16))), .val (.int (Int32.ofNat ((r + a) % 16))), s6, s7] [(.ref o)])
      obtain ⟨T157, X157, e157, st157⟩ := getF X155 hx hZ hown (host := "") (Or.inl (hw _ (List.mem_of_getElem? (i := 14) rfl))) Via.refl e155 Fs (g := (mkF m 184 #[.val (.ref o), .val (.long p1), .second, .val (.int sl), .val (.int (Int32.ofNat ((r + g) % 16))), .val (.int (Int32.ofNat ((r + a) % 16))), s6, s7] [(.ref o)])) rfl rfl (hb hby d9_184)
      refine OwnGo.st st157 ?_
      show OwnGo p e below s _ _ _ T157 (mkF m 187 #[.val (.ref o), .val (.long p1), .second, .val (.int sl), .val (.int (Int32.ofNat ((r + g) % 16))), .val (.int (Int32.ofNat ((r + a) % 16))), s6, s7] [(.ref t)])
      obtain ⟨cl158, Ar158, -, S158, N158, -, -⟩ := id V
      refine OwnGo.st (fun _ kk => own_len hZ (len_of S158 N158) Ar158 X157 e157 hx (g := (mkF m 187 #[.val (.ref o), .val (.long p1), .second, .val (.int sl), .val (.int (Int32.ofNat ((r + g) % 16))), .val (.int (Int32.ofNat ((r + a) % 16))), s6, s7] [(.ref t)])) rfl rfl (hb hby d9_187) _ kk) ?_
      show OwnGo p e below s _ _ _ T157 (mkF m 188 #[.val (.ref o), .val (.long p1), .second, .val (.int sl), .val (.int (Int32.ofNat ((r + g) % 16))), .val (.int (Int32.ofNat ((r + a) % 16))), s6, s7] [(.int (16 : Int32))])
      refine OwnGo.st (fun _ kk => XS.bipush X157.here hx rfl (hb hby d9_188) kk) ?_
      show OwnGo p e below s _ _ _ T157 (mkF m 190 #[.val (.ref o), .val (.long p1), .second, .val (.int sl), .val (.int (Int32.ofNat ((r + g) % 16))), .val (.int (Int32.ofNat ((r + a) % 16))), s6, s7] [(.int (16 : Int32)), (.int (16 : Int32))])
      refine OwnGo.st (fun _ kk => XS.icmpYes X157.here hx rfl (pc0 := 190) (pc' := 208) rfl (hb hby d9_190) rfl (flt ((by decide) : ¬ ((16 : Int32) < (16 : Int32)))).2.2.2 (by decide) (by decide) kk) ?_
      show OwnGo p e below s _ _ _ T157 (mkF m 208 #[.val (.ref o), .val (.long p1), .second, .val (.int sl), .val (.int (Int32.ofNat ((r + g) % 16))), .val (.int (Int32.ofNat ((r + a) % 16))), s6, s7] [])
      refine OwnGo.st (fun _ kk => XS.iconst X157.here hx rfl (hb hby d9_208) kk) ?_
      show OwnGo p e below s _ _ _ T157 (mkF m 209 #[.val (.ref o), .val (.long p1), .second, .val (.int sl), .val (.int (Int32.ofNat ((r + g) % 16))), .val (.int (Int32.ofNat ((r + a) % 16))), s6, s7] [(.int (1 : Int32))])
      exact OwnGo.retN X157 hx (t := .boolean) hret hlk (by simp) (hb hby d9_209) (by show QremG Z o t kc vs n p1 h0 n0 _ T157.heap _; rw [e157]; exact ⟨_, 2, congrArg (fun z => some (Value.int z)) (own_bit1 hh).symm, N153, Kp, E_o, Fs, F_size, V, own_T_rem (n := 2) (by have q := TT; rw [hn_] at q; exact q) RR, by rw [own_bn1 hh, hn_], RR.2.2.2.1⟩) (by decide) (by decide)
  | succ kk ih =>
    refine OwnGo.st (fun _ kk => XS.aloadN X0.here hx rfl (hb hby d9_33) rfl rfl  kk) ?_
    show OwnGo p e below s _ _ _ T0 (mkF m 34 #[.val (.ref o), .val (.long p1), .second, .val (.int sl), .val (.int (Int32.ofNat ((r + g) % 16))), .val (.int (Int32.ofNat ((r + a) % 16))), s6, s7] [(.ref o)])
    obtain ⟨T159, X159, e159, st159⟩ := getF X0 hx hZ hown (host := "") (Or.inl (hw _ (List.mem_of_getElem? (i := 14) rfl))) Via.refl e0 Fs (g := (mkF m 34 #[.val (.ref o), .val (.long p1), .second, .val (.int sl), .val (.int (Int32.ofNat ((r + g) % 16))), .val (.int (Int32.ofNat ((r + a) % 16))), s6, s7] [(.ref o)])) rfl rfl (hb hby d9_34)
    refine OwnGo.st st159 ?_
    show OwnGo p e below s _ _ _ T159 (mkF m 37 #[.val (.ref o), .val (.long p1), .second, .val (.int sl), .val (.int (Int32.ofNat ((r + g) % 16))), .val (.int (Int32.ofNat ((r + a) % 16))), s6, s7] [(.ref t)])
    refine OwnGo.st (fun _ kk => XS.iload X159.here hx rfl (hb hby d9_37) rfl  kk) ?_
    show OwnGo p e below s _ _ _ T159 (mkF m 39 #[.val (.ref o), .val (.long p1), .second, .val (.int sl), .val (.int (Int32.ofNat ((r + g) % 16))), .val (.int (Int32.ofNat ((r + a) % 16))), s6, s7] [(.int (Int32.ofNat ((r + a) % 16))), (.ref t)])
    obtain ⟨cl160, Ar160, -, S160, -, H160, -⟩ := id V
    have hin160 : ¬ ((Int32.ofNat ((r + a) % 16)) < 0 ∨ cl160.slots.size ≤ ((Int32.ofNat ((r + a) % 16))).toNatClampNeg) := inb_of S160 (own_inb (Nat.mod_lt _ (by decide)))
    refine OwnGo.st (fun _ kk => X159.laload hx (j := (Int32.ofNat ((r + a) % 16))) (v := (.long (own_F ws r a))) (by first | exact Ar160.1 | (rw [e159]; exact Ar160.1)) (State.isArrayOf_alike hZ.alike Ar160.2.1) Ar160.2.2 hin160 (H160.at hin160 (own_get LL.hl (Nat.mod_lt _ (by decide)))) (g := (mkF m 39 #[.val (.ref o), .val (.long p1), .second, .val (.int sl), .val (.int (Int32.ofNat ((r + g) % 16))), .val (.int (Int32.ofNat ((r + a) % 16))), s6, s7] [(.int (Int32.ofNat ((r + a) % 16))), (.ref t)])) rfl rfl (hb hby d9_39) _ kk) ?_
    show OwnGo p e below s _ _ _ T159 (mkF m 40 #[.val (.ref o), .val (.long p1), .second, .val (.int sl), .val (.int (Int32.ofNat ((r + g) % 16))), .val (.int (Int32.ofNat ((r + a) % 16))), s6, s7] [(.long (own_F ws r a))])
    refine OwnGo.st (fun _ kk => XS.lconst X159.here hx rfl (hb hby d9_40) kk) ?_
    show OwnGo p e below s _ _ _ T159 (mkF m 41 #[.val (.ref o), .val (.long p1), .second, .val (.int sl), .val (.int (Int32.ofNat ((r + g) % 16))), .val (.int (Int32.ofNat ((r + a) % 16))), s6, s7] [(.long (0 : Int64)), (.long (own_F ws r a))])
    refine OwnGo.st (fun _ kk => XS.lcmp X159.here hx rfl (hb hby d9_41) rfl kk) ?_
    show OwnGo p e below s _ _ _ T159 (mkF m 42 #[.val (.ref o), .val (.long p1), .second, .val (.int sl), .val (.int (Int32.ofNat ((r + g) % 16))), .val (.int (Int32.ofNat ((r + a) % 16))), s6, s7] [(.int (lcmpW (own_F ws r a) (0 : Int64)))])
    by_cases hz0 : own_F ws r a = 0
    · refine OwnGo.st (fun _ kk => XS.ifYes X159.here hx rfl (pc0 := 42) (pc' := 146) rfl (hb hby d9_42) rfl ((if0 _ _).trans (teq (((lw_eq _ _).2 hz0) : (lcmpW (own_F ws r a) (0 : Int64)) = (0 : Int32))).1) (by decide) (by decide) kk) ?_
      show OwnGo p e below s _ _ _ T159 (mkF m 146 #[.val (.ref o), .val (.long p1), .second, .val (.int sl), .val (.int (Int32.ofNat ((r + g) % 16))), .val (.int (Int32.ofNat ((r + a) % 16))), s6, s7] [])
      have RR := own_L_end LL hz0
      refine OwnGo.st (fun _ kk => XS.aloadN X159.here hx rfl (hb hby d9_146) rfl rfl  kk) ?_
      show OwnGo p e below s _ _ _ T159 (mkF m 147 #[.val (.ref o), .val (.long p1), .second, .val (.int sl), .val (.int (Int32.ofNat ((r + g) % 16))), .val (.int (Int32.ofNat ((r + a) % 16))), s6, s7] [(.ref o)])
      obtain ⟨T161, X161, e161, st161⟩ := getF X159 hx hZ hown (host := "") (Or.inl (hw _ (List.mem_of_getElem? (i := 14) rfl))) Via.refl e159 Fs (g := (mkF m 147 #[.val (.ref o), .val (.long p1), .second, .val (.int sl), .val (.int (Int32.ofNat ((r + g) % 16))), .val (.int (Int32.ofNat ((r + a) % 16))), s6, s7] [(.ref o)])) rfl rfl (hb hby d9_147)
      refine OwnGo.st st161 ?_
      show OwnGo p e below s _ _ _ T161 (mkF m 150 #[.val (.ref o), .val (.long p1), .second, .val (.int sl), .val (.int (Int32.ofNat ((r + g) % 16))), .val (.int (Int32.ofNat ((r + a) % 16))), s6, s7] [(.ref t)])
      refine OwnGo.st (fun _ kk => XS.iload X161.here hx rfl (hb hby d9_150) rfl  kk) ?_
      show OwnGo p e below s _ _ _ T161 (mkF m 152 #[.val (.ref o), .val (.long p1), .second, .val (.int sl), .val (.int (Int32.ofNat ((r + g) % 16))), .val (.int (Int32.ofNat ((r + a) % 16))), s6, s7] [(.int (Int32.ofNat ((r + g) % 16))), (.ref t)])
      refine OwnGo.st (fun _ kk => XS.lconst X161.here hx rfl (hb hby d9_152) kk) ?_
      show OwnGo p e below s _ _ _ T161 (mkF m 153 #[.val (.ref o), .val (.long p1), .second, .val (.int sl), .val (.int (Int32.ofNat ((r + g) % 16))), .val (.int (Int32.ofNat ((r + a) % 16))), s6, s7] [(.long (0 : Int64)), (.int (Int32.ofNat ((r + g) % 16))), (.ref t)])
      obtain ⟨cl162, Ar162, q162, S162, N162, H162, G162⟩ := id V
      obtain ⟨T162, h162, X162, e162, W162, st162⟩ := stJ X161 hx hZ e161 Ar162 (j := (Int32.ofNat ((r + g) % 16))) (inb_of S162 (own_inb (Nat.mod_lt _ (by decide)))) (g := (mkF m 153 #[.val (.ref o), .val (.long p1), .second, .val (.int sl), .val (.int (Int32.ofNat ((r + g) % 16))), .val (.int (Int32.ofNat ((r + a) % 16))), s6, s7] [(.long (0 : Int64)), (.int (Int32.ofNat ((r + g) % 16))), (.ref t)])) rfl rfl (hb hby d9_153)
      have V' := Arv.set Ar162 q162 S162 N162 H162 G162 rfl W162 ((r + g) % 16) (own_nat (Nat.mod_lt _ (by decide))) (by rw [List.length_map, LL.hl]; exact (Nat.mod_lt _ (by decide)))
      rw [own_set] at V'
      have E_o := E_o.wr W162
      have Fs := Fs.other W162 (Or.inl (Ne.symm ne_t_o))
      have F_size := F_size.other W162 (Or.inl (Ne.symm ne_t_o))
      have Kp := Kp.wr W162 (Or.inl (List.mem_of_getElem? (i := 1) rfl))
      have N162 := Fr.snoc X162 N0 g_t
      have Z_ : n0 ≤ h162.size := by rw [W162.size]; exact Z_
      have V := V'
      refine OwnGo.st st162 ?_
      show OwnGo p e below s _ _ _ T162 (mkF m 154 #[.val (.ref o), .val (.long p1), .second, .val (.int sl), .val (.int (Int32.ofNat ((r + g) % 16))), .val (.int (Int32.ofNat ((r + a) % 16))), s6, s7] [])
      obtain hn_ | hn_ | hn_ : n = 1 ∨ n = 2 ∨ n = 3 := by have := own_T_pos TT (own_stn p1) hh; omega
      · have F_size : Fld Z h162 o "com/example/utsatt/utsatt/KeyHashes" "size" "I" (.int (1 : Int32)) := by have q := F_size; rw [hn_] at q; exact q
        refine OwnGo.st (fun _ kk => XS.aloadN X162.here hx rfl (hb hby d9_154) rfl rfl  kk) ?_
        show OwnGo p e below s _ _ _ T162 (mkF m 155 #[.val (.ref o), .val (.long p1), .second, .val (.int sl), .val (.int (Int32.ofNat ((r + g) % 16))), .val (.int (Int32.ofNat ((r + a) % 16))), s6, s7] [(.ref o)])
        refine OwnGo.st (fun _ kk => XS.dup X162.here hx rfl (hb hby d9_155) rfl rfl kk) ?_
        show OwnGo p e below s _ _ _ T162 (mkF m 156 #[.val (.ref o), .val (.long p1), .second, .val (.int sl), .val (.int (Int32.ofNat ((r + g) % 16))), .val (.int (Int32.ofNat ((r + a) % 16))), s6, s7] [(.ref o), (.ref o)])
        obtain ⟨T163, X163, e163, st163⟩ := getF X162 hx hZ hown (host := "") (Or.inl (hw _ (List.mem_of_getElem? (i := 31) rfl))) Via.refl e162 F_size (g := (mkF m 156 #[.val (.ref o), .val (.long p1), .second, .val (.int sl), .val (.int (Int32.ofNat ((r + g) % 16))), .val (.int (Int32.ofNat ((r + a) % 16))), s6, s7] [(.ref o), (.ref o)])) rfl rfl (hb hby d9_156)
        refine OwnGo.st st163 ?_
        show OwnGo p e below s _ _ _ T163 (mkF m 159 #[.val (.ref o), .val (.long p1), .second, .val (.int sl), .val (.int (Int32.ofNat ((r + g) % 16))), .val (.int (Int32.ofNat ((r + a) % 16))), s6, s7] [(.int (1 : Int32)), (.ref o)])
        refine OwnGo.st (fun _ kk => XS.iconst X163.here hx rfl (hb hby d9_159) kk) ?_
        show OwnGo p e below s _ _ _ T163 (mkF m 160 #[.val (.ref o), .val (.long p1), .second, .val (.int sl), .val (.int (Int32.ofNat ((r + g) % 16))), .val (.int (Int32.ofNat ((r + a) % 16))), s6, s7] [(.int (1 : Int32)), (.int (1 : Int32)), (.ref o)])
        refine OwnGo.st (fun _ kk => XS.isub X163.here hx rfl (hb hby d9_160) rfl kk) ?_
        show OwnGo p e below s _ _ _ T163 (mkF m 161 #[.val (.ref o), .val (.long p1), .second, .val (.int sl), .val (.int (Int32.ofNat ((r + g) % 16))), .val (.int (Int32.ofNat ((r + a) % 16))), s6, s7] [(.int (0 : Int32)), (.ref o)])
        show OwnGo p e below s _ _ _ T163 (mkF m 161 #[.val (.ref o), .val (.long p1), .second, .val (.int sl), .val (.int (Int32.ofNat ((r + g) % 16))), .val (.int (Int32.ofNat ((r + a) % 16))), s6, s7] [(.int (0 : Int32)), (.ref o)])
        obtain ⟨T164, h164, X164, e164, W164, st164⟩ := putF X163 hx hZ hown (host := "") (Or.inl (hw _ (List.mem_of_getElem? (i := 31) rfl))) Via.refl e163 F_size E_o (Or.inl (hw _ (List.mem_of_getElem? (i := 32) rfl))) (hw _ (List.mem_of_getElem? (i := 5) rfl)) (ty := .int) (by decide) rfl rfl (g := (mkF m 161 #[.val (.ref o), .val (.long p1), .second, .val (.int sl), .val (.int (Int32.ofNat ((r + g) % 16))), .val (.int (Int32.ofNat ((r + a) % 16))), s6, s7] [(.int (0 : Int32)), (.ref o)])) rfl rfl (hb hby d9_161)
        have E_o := E_o.wr W164
        have Fs := Fs.other W164 (Or.inr (slot_ne (Or.inl (hw _ (List.mem_of_getElem? (i := 15) rfl))) (Or.inl (hw _ (List.mem_of_getElem? (i := 32) rfl))) (by decide) (t := (.array .long)) (t' := .int) (by decide) (by decide)))
        have F_size := F_size.same W164
        have V := V.other W164 ne_t_o
        have Kp := Kp.wr W164 (Or.inl (List.mem_of_getElem? (i := 0) rfl))
        have N164 := Fr.snoc X164 N162 g_o
        have Z_ : n0 ≤ h164.size := by rw [W164.size]; exact Z_
        refine OwnGo.st st164 ?_
        show OwnGo p e below s _ _ _ T164 (mkF m 164 #[.val (.ref o), .val (.long p1), .second, .val (.int sl), .val (.int (Int32.ofNat ((r + g) % 16))), .val (.int (Int32.ofNat ((r + a) % 16))), s6, s7] [])
        refine OwnGo.st (fun _ kk => XS.aloadN X164.here hx rfl (hb hby d9_164) rfl rfl  kk) ?_
        show OwnGo p e below s _ _ _ T164 (mkF m 165 #[.val (.ref o), .val (.long p1), .second, .val (.int sl), .val (.int (Int32.ofNat ((r + g) % 16))), .val (.int (Int32.ofNat ((r + a) % 16))), s6, s7] [(.ref o)])
        obtain ⟨T165, X165, e165, st165⟩ := getF X164 hx hZ hown (host := "") (Or.inl (hw _ (List.mem_of_getElem? (i := 31) rfl))) Via.refl e164 F_size (g := (mkF m 165 #[.val (.ref o), .val (.long p1), .second, .val (.int sl), .val (.int (Int32.ofNat ((r + g) % 16))), .val (.int (Int32.ofNat ((r + a) % 16))), s6, s7] [(.ref o)])) rfl rfl (hb hby d9_165)
        refine OwnGo.st st165 ?_
        show OwnGo p e below s _ _ _ T165 (mkF m 168 #[.val (.ref o), .val (.long p1), .second, .val (.int sl), .val (.int (Int32.ofNat ((r + g) % 16))), .val (.int (Int32.ofNat ((r + a) % 16))), s6, s7] [(.int (0 : Int32))])
        refine OwnGo.st (fun _ kk => XS.i2dS X165.here hx rfl (v := (0 : UInt64)) (hb hby d9_168) rfl (by decide +kernel) kk) ?_
        show OwnGo p e below s _ _ _ T165 (mkF m 169 #[.val (.ref o), .val (.long p1), .second, .val (.int sl), .val (.int (Int32.ofNat ((r + g) % 16))), .val (.int (Int32.ofNat ((r + a) % 16))), s6, s7] [(.double (0 : UInt64))])
        refine OwnGo.st (fun _ kk => XS.aloadN X165.here hx rfl (hb hby d9_169) rfl rfl  kk) ?_
        show OwnGo p e below s _ _ _ T165 (mkF m 170 #[.val (.ref o), .val (.long p1), .second, .val (.int sl), .val (.int (Int32.ofNat ((r + g) % 16))), .val (.int (Int32.ofNat ((r + a) % 16))), s6, s7] [(.ref o), (.double (0 : UInt64))])
        obtain ⟨T166, X166, e166, st166⟩ := getF X165 hx hZ hown (host := "") (Or.inl (hw _ (List.mem_of_getElem? (i := 14) rfl))) Via.refl e165 Fs (g := (mkF m 170 #[.val (.ref o), .val (.long p1), .second, .val (.int sl), .val (.int (Int32.ofNat ((r + g) % 16))), .val (.int (Int32.ofNat ((r + a) % 16))), s6, s7] [(.ref o), (.double (0 : UInt64))])) rfl rfl (hb hby d9_170)
        refine OwnGo.st st166 ?_
        show OwnGo p e below s _ _ _ T166 (mkF m 173 #[.val (.ref o), .val (.long p1), .second, .val (.int sl), .val (.int (Int32.ofNat ((r + g) % 16))), .val (.int (Int32.ofNat ((r + a) % 16))), s6, s7] [(.ref t), (.double (0 : UInt64))])
        obtain ⟨cl167, Ar167, -, S167, N167, -, -⟩ := id V
        refine OwnGo.st (fun _ kk => own_len hZ (len_of S167 N167) Ar167 X166 e166 hx (g := (mkF m 173 #[.val (.ref o), .val (.long p1), .second, .val (.int sl), .val (.int (Int32.ofNat ((r + g) % 16))), .val (.int (Int32.ofNat ((r + a) % 16))), s6, s7] [(.ref t), (.double (0 : UInt64))])) rfl rfl (hb hby d9_173) _ kk) ?_
        show OwnGo p e below s _ _ _ T166 (mkF m 174 #[.val (.ref o), .val (.long p1), .second, .val (.int sl), .val (.int (Int32.ofNat ((r + g) % 16))), .val (.int (Int32.ofNat ((r + a) % 16))), s6, s7] [(.int (16 : Int32)), (.double (0 : UInt64))])
        refine OwnGo.st (fun _ kk => XS.i2dS X166.here hx rfl (v := (4625196817309499392 : UInt64)) (hb hby d9_174) rfl (by decide +kernel) kk) ?_
        show OwnGo p e below s _ _ _ T166 (mkF m 175 #[.val (.ref o), .val (.long p1), .second, .val (.int sl), .val (.int (Int32.ofNat ((r + g) % 16))), .val (.int (Int32.ofNat ((r + a) % 16))), s6, s7] [(.double (4625196817309499392 : UInt64)), (.double (0 : UInt64))])
        refine OwnGo.st (fun _ kk => X166.ldc2DoubleC hx hown (mvT hZ (hw _ (List.mem_of_getElem? (i := 43) rfl))) (g := (mkF m 175 #[.val (.ref o), .val (.long p1), .second, .val (.int sl), .val (.int (Int32.ofNat ((r + g) % 16))), .val (.int (Int32.ofNat ((r + a) % 16))), s6, s7] [(.double (4625196817309499392 : UInt64)), (.double (0 : UInt64))])) rfl (hb hby d9_175) _ kk) ?_
        show OwnGo p e below s _ _ _ T166 (mkF m 178 #[.val (.ref o), .val (.long p1), .second, .val (.int sl), .val (.int (Int32.ofNat ((r + g) % 16))), .val (.int (Int32.ofNat ((r + a) % 16))), s6, s7] [(.double (4596373779694328218 : UInt64)), (.double (4625196817309499392 : UInt64)), (.double (0 : UInt64))])
        refine OwnGo.st (fun _ kk => XS.dmulS X166.here hx rfl (v := (4614388178203810202 : UInt64)) (hb hby d9_178) rfl (show _ ≤ _ by decide +kernel) (by decide +kernel) kk) ?_
        show OwnGo p e below s _ _ _ T166 (mkF m 179 #[.val (.ref o), .val (.long p1), .second, .val (.int sl), .val (.int (Int32.ofNat ((r + g) % 16))), .val (.int (Int32.ofNat ((r + a) % 16))), s6, s7] [(.double (4614388178203810202 : UInt64)), (.double (0 : UInt64))])
        refine OwnGo.st (fun _ kk => XS.dcmpS X166.here hx rfl (v := (-1 : Int32)) (hb hby d9_179) rfl (by decide +kernel) kk) ?_
        show OwnGo p e below s _ _ _ T166 (mkF m 180 #[.val (.ref o), .val (.long p1), .second, .val (.int sl), .val (.int (Int32.ofNat ((r + g) % 16))), .val (.int (Int32.ofNat ((r + a) % 16))), s6, s7] [(.int (-1 : Int32))])
        refine OwnGo.st (fun _ kk => XS.ifNo X166.here hx rfl (hb hby d9_180) rfl ((if0 _ _).trans (tlt ((by decide) : (-1 : Int32) < (0 : Int32))).2.1) kk) ?_
        show OwnGo p e below s _ _ _ T166 (mkF m 183 #[.val (.ref o), .val (.long p1), .second, .val (.int sl), .val (.int (Int32.ofNat ((r + g) % 16))), .val (.int (Int32.ofNat ((r + a) % 16))), s6, s7] [])
        refine OwnGo.st (fun _ kk => XS.aloadN X166.here hx rfl (hb hby d9_183) rfl rfl  kk) ?_
        show OwnGo p e below s _ _ _ T166 (mkF m 184 #[.val (.ref o), .val (.long p1), .second, .val (.int sl), .val (.int (Int32.ofNat ((r + g) % 16))), .val (.int (Int32.ofNat ((r + a) % 16))), s6, s7] [(.ref o)])
        obtain ⟨T168, X168, e168, st168⟩ := getF X166 hx hZ hown (host := "") (Or.inl (hw _ (List.mem_of_getElem? (i := 14) rfl))) Via.refl e166 Fs (g := (mkF m 184 #[.val (.ref o), .val (.long p1), .second, .val (.int sl), .val (.int (Int32.ofNat ((r + g) % 16))), .val (.int (Int32.ofNat ((r + a) % 16))), s6, s7] [(.ref o)])) rfl rfl (hb hby d9_184)
        refine OwnGo.st st168 ?_
        show OwnGo p e below s _ _ _ T168 (mkF m 187 #[.val (.ref o), .val (.long p1), .second, .val (.int sl), .val (.int (Int32.ofNat ((r + g) % 16))), .val (.int (Int32.ofNat ((r + a) % 16))), s6, s7] [(.ref t)])
        obtain ⟨cl169, Ar169, -, S169, N169, -, -⟩ := id V
        refine OwnGo.st (fun _ kk => own_len hZ (len_of S169 N169) Ar169 X168 e168 hx (g := (mkF m 187 #[.val (.ref o), .val (.long p1), .second, .val (.int sl), .val (.int (Int32.ofNat ((r + g) % 16))), .val (.int (Int32.ofNat ((r + a) % 16))), s6, s7] [(.ref t)])) rfl rfl (hb hby d9_187) _ kk) ?_
        show OwnGo p e below s _ _ _ T168 (mkF m 188 #[.val (.ref o), .val (.long p1), .second, .val (.int sl), .val (.int (Int32.ofNat ((r + g) % 16))), .val (.int (Int32.ofNat ((r + a) % 16))), s6, s7] [(.int (16 : Int32))])
        refine OwnGo.st (fun _ kk => XS.bipush X168.here hx rfl (hb hby d9_188) kk) ?_
        show OwnGo p e below s _ _ _ T168 (mkF m 190 #[.val (.ref o), .val (.long p1), .second, .val (.int sl), .val (.int (Int32.ofNat ((r + g) % 16))), .val (.int (Int32.ofNat ((r + a) % 16))), s6, s7] [(.int (16 : Int32)), (.int (16 : Int32))])
        refine OwnGo.st (fun _ kk => XS.icmpYes X168.here hx rfl (pc0 := 190) (pc' := 208) rfl (hb hby d9_190) rfl (flt ((by decide) : ¬ ((16 : Int32) < (16 : Int32)))).2.2.2 (by decide) (by decide) kk) ?_
        show OwnGo p e below s _ _ _ T168 (mkF m 208 #[.val (.ref o), .val (.long p1), .second, .val (.int sl), .val (.int (Int32.ofNat ((r + g) % 16))), .val (.int (Int32.ofNat ((r + a) % 16))), s6, s7] [])
        refine OwnGo.st (fun _ kk => XS.iconst X168.here hx rfl (hb hby d9_208) kk) ?_
        show OwnGo p e below s _ _ _ T168 (mkF m 209 #[.val (.ref o), .val (.long p1), .second, .val (.int sl), .val (.int (Int32.ofNat ((r + g) % 16))), .val (.int (Int32.ofNat ((r + a) % 16))), s6, s7] [(.int (1 : Int32))])
        exact OwnGo.retN X168 hx (t := .boolean) hret hlk (by simp) (hb hby d9_209) (by show QremG Z o t kc vs n p1 h0 n0 _ T168.heap _; rw [e168]; exact ⟨_, 0, congrArg (fun z => some (Value.int z)) (own_bit1 hh).symm, N164, Kp, E_o, Fs, F_size, V, own_T_rem (n := 0) (by have q := TT; rw [hn_] at q; exact q) RR, by rw [own_bn1 hh, hn_], RR.2.2.2.1⟩) (by decide) (by decide)
      · have F_size : Fld Z h162 o "com/example/utsatt/utsatt/KeyHashes" "size" "I" (.int (2 : Int32)) := by have q := F_size; rw [hn_] at q; exact q
        refine OwnGo.st (fun _ kk => XS.aloadN X162.here hx rfl (hb hby d9_154) rfl rfl  kk) ?_
        show OwnGo p e below s _ _ _ T162 (mkF m 155 #[.val (.ref o), .val (.long p1), .second, .val (.int sl), .val (.int (Int32.ofNat ((r + g) % 16))), .val (.int (Int32.ofNat ((r + a) % 16))), s6, s7] [(.ref o)])
        refine OwnGo.st (fun _ kk => XS.dup X162.here hx rfl (hb hby d9_155) rfl rfl kk) ?_
        show OwnGo p e below s _ _ _ T162 (mkF m 156 #[.val (.ref o), .val (.long p1), .second, .val (.int sl), .val (.int (Int32.ofNat ((r + g) % 16))), .val (.int (Int32.ofNat ((r + a) % 16))), s6, s7] [(.ref o), (.ref o)])
        obtain ⟨T170, X170, e170, st170⟩ := getF X162 hx hZ hown (host := "") (Or.inl (hw _ (List.mem_of_getElem? (i := 31) rfl))) Via.refl e162 F_size (g := (mkF m 156 #[.val (.ref o), .val (.long p1), .second, .val (.int sl), .val (.int (Int32.ofNat ((r + g) % 16))), .val (.int (Int32.ofNat ((r + a) % 16))), s6, s7] [(.ref o), (.ref o)])) rfl rfl (hb hby d9_156)
        refine OwnGo.st st170 ?_
        show OwnGo p e below s _ _ _ T170 (mkF m 159 #[.val (.ref o), .val (.long p1), .second, .val (.int sl), .val (.int (Int32.ofNat ((r + g) % 16))), .val (.int (Int32.ofNat ((r + a) % 16))), s6, s7] [(.int (2 : Int32)), (.ref o)])
        refine OwnGo.st (fun _ kk => XS.iconst X170.here hx rfl (hb hby d9_159) kk) ?_
        show OwnGo p e below s _ _ _ T170 (mkF m 160 #[.val (.ref o), .val (.long p1), .second, .val (.int sl), .val (.int (Int32.ofNat ((r + g) % 16))), .val (.int (Int32.ofNat ((r + a) % 16))), s6, s7] [(.int (1 : Int32)), (.int (2 : Int32)), (.ref o)])
        refine OwnGo.st (fun _ kk => XS.isub X170.here hx rfl (hb hby d9_160) rfl kk) ?_
        show OwnGo p e below s _ _ _ T170 (mkF m 161 #[.val (.ref o), .val (.long p1), .second, .val (.int sl), .val (.int (Int32.ofNat ((r + g) % 16))), .val (.int (Int32.ofNat ((r + a) % 16))), s6, s7] [(.int (1 : Int32)), (.ref o)])
        show OwnGo p e below s _ _ _ T170 (mkF m 161 #[.val (.ref o), .val (.long p1), .second, .val (.int sl), .val (.int (Int32.ofNat ((r + g) % 16))), .val (.int (Int32.ofNat ((r + a) % 16))), s6, s7] [(.int (1 : Int32)), (.ref o)])
        obtain ⟨T171, h171, X171, e171, W171, st171⟩ := putF X170 hx hZ hown (host := "") (Or.inl (hw _ (List.mem_of_getElem? (i := 31) rfl))) Via.refl e170 F_size E_o (Or.inl (hw _ (List.mem_of_getElem? (i := 32) rfl))) (hw _ (List.mem_of_getElem? (i := 5) rfl)) (ty := .int) (by decide) rfl rfl (g := (mkF m 161 #[.val (.ref o), .val (.long p1), .second, .val (.int sl), .val (.int (Int32.ofNat ((r + g) % 16))), .val (.int (Int32.ofNat ((r + a) % 16))), s6, s7] [(.int (1 : Int32)), (.ref o)])) rfl rfl (hb hby d9_161)
        have E_o := E_o.wr W171
        have Fs := Fs.other W171 (Or.inr (slot_ne (Or.inl (hw _ (List.mem_of_getElem? (i := 15) rfl))) (Or.inl (hw _ (List.mem_of_getElem? (i := 32) rfl))) (by decide) (t := (.array .long)) (t' := .int) (by decide) (by decide)))
        have F_size := F_size.same W171
        have V := V.other W171 ne_t_o
        have Kp := Kp.wr W171 (Or.inl (List.mem_of_getElem? (i := 0) rfl))
        have N171 := Fr.snoc X171 N162 g_o
        have Z_ : n0 ≤ h171.size := by rw [W171.size]; exact Z_
        refine OwnGo.st st171 ?_
        show OwnGo p e below s _ _ _ T171 (mkF m 164 #[.val (.ref o), .val (.long p1), .second, .val (.int sl), .val (.int (Int32.ofNat ((r + g) % 16))), .val (.int (Int32.ofNat ((r + a) % 16))), s6, s7] [])
        refine OwnGo.st (fun _ kk => XS.aloadN X171.here hx rfl (hb hby d9_164) rfl rfl  kk) ?_
        show OwnGo p e below s _ _ _ T171 (mkF m 165 #[.val (.ref o), .val (.long p1), .second, .val (.int sl), .val (.int (Int32.ofNat ((r + g) % 16))), .val (.int (Int32.ofNat ((r + a) % 16))), s6, s7] [(.ref o)])
        obtain ⟨T172, X172, e172, st172⟩ := getF X171 hx hZ hown (host := "") (Or.inl (hw _ (List.mem_of_getElem? (i := 31) rfl))) Via.refl e171 F_size (g := (mkF m 165 #[.val (.ref o), .val (.long p1), .second, .val (.int sl), .val (.int (Int32.ofNat ((r + g) % 16))), .val (.int (Int32.ofNat ((r + a) % 16))), s6, s7] [(.ref o)])) rfl rfl (hb hby d9_165)
        refine OwnGo.st st172 ?_
        show OwnGo p e below s _ _ _ T172 (mkF m 168 #[.val (.ref o), .val (.long p1), .second, .val (.int sl), .val (.int (Int32.ofNat ((r + g) % 16))), .val (.int (Int32.ofNat ((r + a) % 16))), s6, s7] [(.int (1 : Int32))])
        refine OwnGo.st (fun _ kk => XS.i2dS X172.here hx rfl (v := (4607182418800017408 : UInt64)) (hb hby d9_168) rfl (by decide +kernel) kk) ?_
        show OwnGo p e below s _ _ _ T172 (mkF m 169 #[.val (.ref o), .val (.long p1), .second, .val (.int sl), .val (.int (Int32.ofNat ((r + g) % 16))), .val (.int (Int32.ofNat ((r + a) % 16))), s6, s7] [(.double (4607182418800017408 : UInt64))])
        refine OwnGo.st (fun _ kk => XS.aloadN X172.here hx rfl (hb hby d9_169) rfl rfl  kk) ?_
        show OwnGo p e below s _ _ _ T172 (mkF m 170 #[.val (.ref o), .val (.long p1), .second, .val (.int sl), .val (.int (Int32.ofNat ((r + g) % 16))), .val (.int (Int32.ofNat ((r + a) % 16))), s6, s7] [(.ref o), (.double (4607182418800017408 : UInt64))])
        obtain ⟨T173, X173, e173, st173⟩ := getF X172 hx hZ hown (host := "") (Or.inl (hw _ (List.mem_of_getElem? (i := 14) rfl))) Via.refl e172 Fs (g := (mkF m 170 #[.val (.ref o), .val (.long p1), .second, .val (.int sl), .val (.int (Int32.ofNat ((r + g) % 16))), .val (.int (Int32.ofNat ((r + a) % 16))), s6, s7] [(.ref o), (.double (4607182418800017408 : UInt64))])) rfl rfl (hb hby d9_170)
        refine OwnGo.st st173 ?_
        show OwnGo p e below s _ _ _ T173 (mkF m 173 #[.val (.ref o), .val (.long p1), .second, .val (.int sl), .val (.int (Int32.ofNat ((r + g) % 16))), .val (.int (Int32.ofNat ((r + a) % 16))), s6, s7] [(.ref t), (.double (4607182418800017408 : UInt64))])
        obtain ⟨cl174, Ar174, -, S174, N174, -, -⟩ := id V
        refine OwnGo.st (fun _ kk => own_len hZ (len_of S174 N174) Ar174 X173 e173 hx (g := (mkF m 173 #[.val (.ref o), .val (.long p1), .second, .val (.int sl), .val (.int (Int32.ofNat ((r + g) % 16))), .val (.int (Int32.ofNat ((r + a) % 16))), s6, s7] [(.ref t), (.double (4607182418800017408 : UInt64))])) rfl rfl (hb hby d9_173) _ kk) ?_
        show OwnGo p e below s _ _ _ T173 (mkF m 174 #[.val (.ref o), .val (.long p1), .second, .val (.int sl), .val (.int (Int32.ofNat ((r + g) % 16))), .val (.int (Int32.ofNat ((r + a) % 16))), s6, s7] [(.int (16 : Int32)), (.double (4607182418800017408 : UInt64))])
        refine OwnGo.st (fun _ kk => XS.i2dS X173.here hx rfl (v := (4625196817309499392 : UInt64)) (hb hby d9_174) rfl (by decide +kernel) kk) ?_
        show OwnGo p e below s _ _ _ T173 (mkF m 175 #[.val (.ref o), .val (.long p1), .second, .val (.int sl), .val (.int (Int32.ofNat ((r + g) % 16))), .val (.int (Int32.ofNat ((r + a) % 16))), s6, s7] [(.double (4625196817309499392 : UInt64)), (.double (4607182418800017408 : UInt64))])
        refine OwnGo.st (fun _ kk => X173.ldc2DoubleC hx hown (mvT hZ (hw _ (List.mem_of_getElem? (i := 43) rfl))) (g := (mkF m 175 #[.val (.ref o), .val (.long p1), .second, .val (.int sl), .val (.int (Int32.ofNat ((r + g) % 16))), .val (.int (Int32.ofNat ((r + a) % 16))), s6, s7] [(.double (4625196817309499392 : UInt64)), (.double (4607182418800017408 : UInt64))])) rfl (hb hby d9_175) _ kk) ?_
        show OwnGo p e below s _ _ _ T173 (mkF m 178 #[.val (.ref o), .val (.long p1), .second, .val (.int sl), .val (.int (Int32.ofNat ((r + g) % 16))), .val (.int (Int32.ofNat ((r + a) % 16))), s6, s7] [(.double (4596373779694328218 : UInt64)), (.double (4625196817309499392 : UInt64)), (.double (4607182418800017408 : UInt64))])
        refine OwnGo.st (fun _ kk => XS.dmulS X173.here hx rfl (v := (4614388178203810202 : UInt64)) (hb hby d9_178) rfl (show _ ≤ _ by decide +kernel) (by decide +kernel) kk) ?_
        show OwnGo p e below s _ _ _ T173 (mkF m 179 #[.val (.ref o), .val (.long p1), .second, .val (.int sl), .val (.int (Int32.ofNat ((r + g) % 16))), .val (.int (Int32.ofNat ((r + a) % 16))), s6, s7] [(.double (4614388178203810202 : UInt64)), (.double (4607182418800017408 : UInt64))])
        refine OwnGo.st (fun _ kk => XS.dcmpS X173.here hx rfl (v := (-1 : Int32)) (hb hby d9_179) rfl (by decide +kernel) kk) ?_
        show OwnGo p e below s _ _ _ T173 (mkF m 180 #[.val (.ref o), .val (.long p1), .second, .val (.int sl), .val (.int (Int32.ofNat ((r + g) % 16))), .val (.int (Int32.ofNat ((r + a) % 16))), s6, s7] [(.int (-1 : Int32))])
        refine OwnGo.st (fun _ kk => XS.ifNo X173.here hx rfl (hb hby d9_180) rfl ((if0 _ _).trans (tlt ((by decide) : (-1 : Int32) < (0 : Int32))).2.1) kk) ?_
        show OwnGo p e below s _ _ _ T173 (mkF m 183 #[.val (.ref o), .val (.long p1), .second, .val (.int sl), .val (.int (Int32.ofNat ((r + g) % 16))), .val (.int (Int32.ofNat ((r + a) % 16))), s6, s7] [])
        refine OwnGo.st (fun _ kk => XS.aloadN X173.here hx rfl (hb hby d9_183) rfl rfl  kk) ?_
        show OwnGo p e below s _ _ _ T173 (mkF m 184 #[.val (.ref o), .val (.long p1), .second, .val (.int sl), .val (.int (Int32.ofNat ((r + g) % 16))), .val (.int (Int32.ofNat ((r + a) % 16))), s6, s7] [(.ref o)])
        obtain ⟨T175, X175, e175, st175⟩ := getF X173 hx hZ hown (host := "") (Or.inl (hw _ (List.mem_of_getElem? (i := 14) rfl))) Via.refl e173 Fs (g := (mkF m 184 #[.val (.ref o), .val (.long p1), .second, .val (.int sl), .val (.int (Int32.ofNat ((r + g) % 16))), .val (.int (Int32.ofNat ((r + a) % 16))), s6, s7] [(.ref o)])) rfl rfl (hb hby d9_184)
        refine OwnGo.st st175 ?_
        show OwnGo p e below s _ _ _ T175 (mkF m 187 #[.val (.ref o), .val (.long p1), .second, .val (.int sl), .val (.int (Int32.ofNat ((r + g) % 16))), .val (.int (Int32.ofNat ((r + a) % 16))), s6, s7] [(.ref t)])
        obtain ⟨cl176, Ar176, -, S176, N176, -, -⟩ := id V
        refine OwnGo.st (fun _ kk => own_len hZ (len_of S176 N176) Ar176 X175 e175 hx (g := (mkF m 187 #[.val (.ref o), .val (.long p1), .second, .val (.int sl), .val (.int (Int32.ofNat ((r + g) % 16))), .val (.int (Int32.ofNat ((r + a) % 16))), s6, s7] [(.ref t)])) rfl rfl (hb hby d9_187) _ kk) ?_
        show OwnGo p e below s _ _ _ T175 (mkF m 188 #[.val (.ref o), .val (.long p1), .second, .val (.int sl), .val (.int (Int32.ofNat ((r + g) % 16))), .val (.int (Int32.ofNat ((r + a) % 16))), s6, s7] [(.int (16 : Int32))])
        refine OwnGo.st (fun _ kk => XS.bipush X175.here hx rfl (hb hby d9_188) kk) ?_
        show OwnGo p e below s _ _ _ T175 (mkF m 190 #[.val (.ref o), .val (.long p1), .second, .val (.int sl), .val (.int (Int32.ofNat ((r + g) % 16))), .val (.int (Int32.ofNat ((r + a) % 16))), s6, s7] [(.int (16 : Int32)), (.int (16 : Int32))])
        refine OwnGo.st (fun _ kk => XS.icmpYes X175.here hx rfl (pc0 := 190) (pc' := 208) rfl (hb hby d9_190) rfl (flt ((by decide) : ¬ ((16 : Int32) < (16 : Int32)))).2.2.2 (by decide) (by decide) kk) ?_
        show OwnGo p e below s _ _ _ T175 (mkF m 208 #[.val (.ref o), .val (.long p1), .second, .val (.int sl), .val (.int (Int32.ofNat ((r + g) % 16))), .val (.int (Int32.ofNat ((r + a) % 16))), s6, s7] [])
        refine OwnGo.st (fun _ kk => XS.iconst X175.here hx rfl (hb hby d9_208) kk) ?_
        show OwnGo p e below s _ _ _ T175 (mkF m 209 #[.val (.ref o), .val (.long p1), .second, .val (.int sl), .val (.int (Int32.ofNat ((r + g) % 16))), .val (.int (Int32.ofNat ((r + a) % 16))), s6, s7] [(.int (1 : Int32))])
        exact OwnGo.retN X175 hx (t := .boolean) hret hlk (by simp) (hb hby d9_209) (by show QremG Z o t kc vs n p1 h0 n0 _ T175.heap _; rw [e175]; exact ⟨_, 1, congrArg (fun z => some (Value.int z)) (own_bit1 hh).symm, N171, Kp, E_o, Fs, F_size, V, own_T_rem (n := 1) (by have q := TT; rw [hn_] at q; exact q) RR, by rw [own_bn1 hh, hn_], RR.2.2.2.1⟩) (by decide) (by decide)
      · have F_size : Fld Z h162 o "com/example/utsatt/utsatt/KeyHashes" "size" "I" (.int (3 : Int32)) := by have q := F_size; rw [hn_] at q; exact q
        refine OwnGo.st (fun _ kk => XS.aloadN X162.here hx rfl (hb hby d9_154) rfl rfl  kk) ?_
        show OwnGo p e below s _ _ _ T162 (mkF m 155 #[.val (.ref o), .val (.long p1), .second, .val (.int sl), .val (.int (Int32.ofNat ((r + g) % 16))), .val (.int (Int32.ofNat ((r + a) % 16))), s6, s7] [(.ref o)])
        refine OwnGo.st (fun _ kk => XS.dup X162.here hx rfl (hb hby d9_155) rfl rfl kk) ?_
        show OwnGo p e below s _ _ _ T162 (mkF m 156 #[.val (.ref o), .val (.long p1), .second, .val (.int sl), .val (.int (Int32.ofNat ((r + g) % 16))), .val (.int (Int32.ofNat ((r + a) % 16))), s6, s7] [(.ref o), (.ref o)])
        obtain ⟨T177, X177, e177, st177⟩ := getF X162 hx hZ hown (host := "") (Or.inl (hw _ (List.mem_of_getElem? (i := 31) rfl))) Via.refl e162 F_size (g := (mkF m 156 #[.val (.ref o), .val (.long p1), .second, .val (.int sl), .val (.int (Int32.ofNat ((r + g) % 16))), .val (.int (Int32.ofNat ((r + a) % 16))), s6, s7] [(.ref o), (.ref o)])) rfl rfl (hb hby d9_156)
        refine OwnGo.st st177 ?_
        show OwnGo p e below s _ _ _ T177 (mkF m 159 #[.val (.ref o), .val (.long p1), .second, .val (.int sl), .val (.int (Int32.ofNat ((r + g) % 16))), .val (.int (Int32.ofNat ((r + a) % 16))), s6, s7] [(.int (3 : Int32)), (.ref o)])
        refine OwnGo.st (fun _ kk => XS.iconst X177.here hx rfl (hb hby d9_159) kk) ?_
        show OwnGo p e below s _ _ _ T177 (mkF m 160 #[.val (.ref o), .val (.long p1), .second, .val (.int sl), .val (.int (Int32.ofNat ((r + g) % 16))), .val (.int (Int32.ofNat ((r + a) % 16))), s6, s7] [(.int (1 : Int32)), (.int (3 : Int32)), (.ref o)])
        refine OwnGo.st (fun _ kk => XS.isub X177.here hx rfl (hb hby d9_160) rfl kk) ?_
        show OwnGo p e below s _ _ _ T177 (mkF m 161 #[.val (.ref o), .val (.long p1), .second, .val (.int sl), .val (.int (Int32.ofNat ((r + g) % 16))), .val (.int (Int32.ofNat ((r + a) % 16))), s6, s7] [(.int (2 : Int32)), (.ref o)])
        show OwnGo p e below s _ _ _ T177 (mkF m 161 #[.val (.ref o), .val (.long p1), .second, .val (.int sl), .val (.int (Int32.ofNat ((r + g) % 16))), .val (.int (Int32.ofNat ((r + a) % 16))), s6, s7] [(.int (2 : Int32)), (.ref o)])
        obtain ⟨T178, h178, X178, e178, W178, st178⟩ := putF X177 hx hZ hown (host := "") (Or.inl (hw _ (List.mem_of_getElem? (i := 31) rfl))) Via.refl e177 F_size E_o (Or.inl (hw _ (List.mem_of_getElem? (i := 32) rfl))) (hw _ (List.mem_of_getElem? (i := 5) rfl)) (ty := .int) (by decide) rfl rfl (g := (mkF m 161 #[.val (.ref o), .val (.long p1), .second, .val (.int sl), .val (.int (Int32.ofNat ((r + g) % 16))), .val (.int (Int32.ofNat ((r + a) % 16))), s6, s7] [(.int (2 : Int32)), (.ref o)])) rfl rfl (hb hby d9_161)
        have E_o := E_o.wr W178
        have Fs := Fs.other W178 (Or.inr (slot_ne (Or.inl (hw _ (List.mem_of_getElem? (i := 15) rfl))) (Or.inl (hw _ (List.mem_of_getElem? (i := 32) rfl))) (by decide) (t := (.array .long)) (t' := .int) (by decide) (by decide)))
        have F_size := F_size.same W178
        have V := V.other W178 ne_t_o
        have Kp := Kp.wr W178 (Or.inl (List.mem_of_getElem? (i := 0) rfl))
        have N178 := Fr.snoc X178 N162 g_o
        have Z_ : n0 ≤ h178.size := by rw [W178.size]; exact Z_
        refine OwnGo.st st178 ?_
        show OwnGo p e below s _ _ _ T178 (mkF m 164 #[.val (.ref o), .val (.long p1), .second, .val (.int sl), .val (.int (Int32.ofNat ((r + g) % 16))), .val (.int (Int32.ofNat ((r + a) % 16))), s6, s7] [])
        refine OwnGo.st (fun _ kk => XS.aloadN X178.here hx rfl (hb hby d9_164) rfl rfl  kk) ?_
        show OwnGo p e below s _ _ _ T178 (mkF m 165 #[.val (.ref o), .val (.long p1), .second, .val (.int sl), .val (.int (Int32.ofNat ((r + g) % 16))), .val (.int (Int32.ofNat ((r + a) % 16))), s6, s7] [(.ref o)])
        obtain ⟨T179, X179, e179, st179⟩ := getF X178 hx hZ hown (host := "") (Or.inl (hw _ (List.mem_of_getElem? (i := 31) rfl))) Via.refl e178 F_size (g := (mkF m 165 #[.val (.ref o), .val (.long p1), .second, .val (.int sl), .val (.int (Int32.ofNat ((r + g) % 16))), .val (.int (Int32.ofNat ((r + a) % 16))), s6, s7] [(.ref o)])) rfl rfl (hb hby d9_165)
        refine OwnGo.st st179 ?_
        show OwnGo p e below s _ _ _ T179 (mkF m 168 #[.val (.ref o), .val (.long p1), .second, .val (.int sl), .val (.int (Int32.ofNat ((r + g) % 16))), .val (.int (Int32.ofNat ((r + a) % 16))), s6, s7] [(.int (2 : Int32))])
        refine OwnGo.st (fun _ kk => XS.i2dS X179.here hx rfl (v := (4611686018427387904 : UInt64)) (hb hby d9_168) rfl (by decide +kernel) kk) ?_
        show OwnGo p e below s _ _ _ T179 (mkF m 169 #[.val (.ref o), .val (.long p1), .second, .val (.int sl), .val (.int (Int32.ofNat ((r + g) % 16))), .val (.int (Int32.ofNat ((r + a) % 16))), s6, s7] [(.double (4611686018427387904 : UInt64))])
        refine OwnGo.st (fun _ kk => XS.aloadN X179.here hx rfl (hb hby d9_169) rfl rfl  kk) ?_
        show OwnGo p e below s _ _ _ T179 (mkF m 170 #[.val (.ref o), .val (.long p1), .second, .val (.int sl), .val (.int (Int32.ofNat ((r + g) % 16))), .val (.int (Int32.ofNat ((r + a) % 16))), s6, s7] [(.ref o), (.double (4611686018427387904 : UInt64))])
        obtain ⟨T180, X180, e180, st180⟩ := getF X179 hx hZ hown (host := "") (Or.inl (hw _ (List.mem_of_getElem? (i := 14) rfl))) Via.refl e179 Fs (g := (mkF m 170 #[.val (.ref o), .val (.long p1), .second, .val (.int sl), .val (.int (Int32.ofNat ((r + g) % 16))), .val (.int (Int32.ofNat ((r + a) % 16))), s6, s7] [(.ref o), (.double (4611686018427387904 : UInt64))])) rfl rfl (hb hby d9_170)
        refine OwnGo.st st180 ?_
        show OwnGo p e below s _ _ _ T180 (mkF m 173 #[.val (.ref o), .val (.long p1), .second, .val (.int sl), .val (.int (Int32.ofNat ((r + g) % 16))), .val (.int (Int32.ofNat ((r + a) % 16))), s6, s7] [(.ref t), (.double (4611686018427387904 : UInt64))])
        obtain ⟨cl181, Ar181, -, S181, N181, -, -⟩ := id V
        refine OwnGo.st (fun _ kk => own_len hZ (len_of S181 N181) Ar181 X180 e180 hx (g := (mkF m 173 #[.val (.ref o), .val (.long p1), .second, .val (.int sl), .val (.int (Int32.ofNat ((r + g) % 16))), .val (.int (Int32.ofNat ((r + a) % 16))), s6, s7] [(.ref t), (.double (4611686018427387904 : UInt64))])) rfl rfl (hb hby d9_173) _ kk) ?_
        show OwnGo p e below s _ _ _ T180 (mkF m 174 #[.val (.ref o), .val (.long p1), .second, .val (.int sl), .val (.int (Int32.ofNat ((r + g) % 16))), .val (.int (Int32.ofNat ((r + a) % 16))), s6, s7] [(.int (16 : Int32)), (.double (4611686018427387904 : UInt64))])
        refine OwnGo.st (fun _ kk => XS.i2dS X180.here hx rfl (v := (4625196817309499392 : UInt64)) (hb hby d9_174) rfl (by decide +kernel) kk) ?_
        show OwnGo p e below s _ _ _ T180 (mkF m 175 #[.val (.ref o), .val (.long p1), .second, .val (.int sl), .val (.int (Int32.ofNat ((r + g) % 16))), .val (.int (Int32.ofNat ((r + a) % 16))), s6, s7] [(.double (4625196817309499392 : UInt64)), (.double (4611686018427387904 : UInt64))])
        refine OwnGo.st (fun _ kk => X180.ldc2DoubleC hx hown (mvT hZ (hw _ (List.mem_of_getElem? (i := 43) rfl))) (g := (mkF m 175 #[.val (.ref o), .val (.long p1), .second, .val (.int sl), .val (.int (Int32.ofNat ((r + g) % 16))), .val (.int (Int32.ofNat ((r + a) % 16))), s6, s7] [(.double (4625196817309499392 : UInt64)), (.double (4611686018427387904 : UInt64))])) rfl (hb hby d9_175) _ kk) ?_
        show OwnGo p e below s _ _ _ T180 (mkF m 178 #[.val (.ref o), .val (.long p1), .second, .val (.int sl), .val (.int (Int32.ofNat ((r + g) % 16))), .val (.int (Int32.ofNat ((r + a) % 16))), s6, s7] [(.double (4596373779694328218 : UInt64)), (.double (4625196817309499392 : UInt64)), (.double (4611686018427387904 : UInt64))])
        refine OwnGo.st (fun _ kk => XS.dmulS X180.here hx rfl (v := (4614388178203810202 : UInt64)) (hb hby d9_178) rfl (show _ ≤ _ by decide +kernel) (by decide +kernel) kk) ?_
        show OwnGo p e below s _ _ _ T180 (mkF m 179 #[.val (.ref o), .val (.long p1), .second, .val (.int sl), .val (.int (Int32.ofNat ((r + g) % 16))), .val (.int (Int32.ofNat ((r + a) % 16))), s6, s7] [(.double (4614388178203810202 : UInt64)), (.double (4611686018427387904 : UInt64))])
        refine OwnGo.st (fun _ kk => XS.dcmpS X180.here hx rfl (v := (-1 : Int32)) (hb hby d9_179) rfl (by decide +kernel) kk) ?_
        show OwnGo p e below s _ _ _ T180 (mkF m 180 #[.val (.ref o), .val (.long p1), .second, .val (.int sl), .val (.int (Int32.ofNat ((r + g) % 16))), .val (.int (Int32.ofNat ((r + a) % 16))), s6, s7] [(.int (-1 : Int32))])
        refine OwnGo.st (fun _ kk => XS.ifNo X180.here hx rfl (hb hby d9_180) rfl ((if0 _ _).trans (tlt ((by decide) : (-1 : Int32) < (0 : Int32))).2.1) kk) ?_
        show OwnGo p e below s _ _ _ T180 (mkF m 183 #[.val (.ref o), .val (.long p1), .second, .val (.int sl), .val (.int (Int32.ofNat ((r + g) % 16))), .val (.int (Int32.ofNat ((r + a) % 16))), s6, s7] [])
        refine OwnGo.st (fun _ kk => XS.aloadN X180.here hx rfl (hb hby d9_183) rfl rfl  kk) ?_
        show OwnGo p e below s _ _ _ T180 (mkF m 184 #[.val (.ref o), .val (.long p1), .second, .val (.int sl), .val (.int (Int32.ofNat ((r + g) % 16))), .val (.int (Int32.ofNat ((r + a) % 16))), s6, s7] [(.ref o)])
        obtain ⟨T182, X182, e182, st182⟩ := getF X180 hx hZ hown (host := "") (Or.inl (hw _ (List.mem_of_getElem? (i := 14) rfl))) Via.refl e180 Fs (g := (mkF m 184 #[.val (.ref o), .val (.long p1), .second, .val (.int sl), .val (.int (Int32.ofNat ((r + g) % 16))), .val (.int (Int32.ofNat ((r + a) % 16))), s6, s7] [(.ref o)])) rfl rfl (hb hby d9_184)
        refine OwnGo.st st182 ?_
        show OwnGo p e below s _ _ _ T182 (mkF m 187 #[.val (.ref o), .val (.long p1), .second, .val (.int sl), .val (.int (Int32.ofNat ((r + g) % 16))), .val (.int (Int32.ofNat ((r + a) % 16))), s6, s7] [(.ref t)])
        obtain ⟨cl183, Ar183, -, S183, N183, -, -⟩ := id V
        refine OwnGo.st (fun _ kk => own_len hZ (len_of S183 N183) Ar183 X182 e182 hx (g := (mkF m 187 #[.val (.ref o), .val (.long p1), .second, .val (.int sl), .val (.int (Int32.ofNat ((r + g) % 16))), .val (.int (Int32.ofNat ((r + a) % 16))), s6, s7] [(.ref t)])) rfl rfl (hb hby d9_187) _ kk) ?_
        show OwnGo p e below s _ _ _ T182 (mkF m 188 #[.val (.ref o), .val (.long p1), .second, .val (.int sl), .val (.int (Int32.ofNat ((r + g) % 16))), .val (.int (Int32.ofNat ((r + a) % 16))), s6, s7] [(.int (16 : Int32))])
        refine OwnGo.st (fun _ kk => XS.bipush X182.here hx rfl (hb hby d9_188) kk) ?_
        show OwnGo p e below s _ _ _ T182 (mkF m 190 #[.val (.ref o), .val (.long p1), .second, .val (.int sl), .val (.int (Int32.ofNat ((r + g) % 16))), .val (.int (Int32.ofNat ((r + a) % 16))), s6, s7] [(.int (16 : Int32)), (.int (16 : Int32))])
        refine OwnGo.st (fun _ kk => XS.icmpYes X182.here hx rfl (pc0 := 190) (pc' := 208) rfl (hb hby d9_190) rfl (flt ((by decide) : ¬ ((16 : Int32) < (16 : Int32)))).2.2.2 (by decide) (by decide) kk) ?_
        show OwnGo p e below s _ _ _ T182 (mkF m 208 #[.val (.ref o), .val (.long p1), .second, .val (.int sl), .val (.int (Int32.ofNat ((r + g) % 16))), .val (.int (Int32.ofNat ((r + a) % 16))), s6, s7] [])
        refine OwnGo.st (fun _ kk => XS.iconst X182.here hx rfl (hb hby d9_208) kk) ?_
        show OwnGo p e below s _ _ _ T182 (mkF m 209 #[.val (.ref o), .val (.long p1), .second, .val (.int sl), .val (.int (Int32.ofNat ((r + g) % 16))), .val (.int (Int32.ofNat ((r + a) % 16))), s6, s7] [(.int (1 : Int32))])
        exact OwnGo.retN X182 hx (t := .boolean) hret hlk (by simp) (hb hby d9_209) (by show QremG Z o t kc vs n p1 h0 n0 _ T182.heap _; rw [e182]; exact ⟨_, 2, congrArg (fun z => some (Value.int z)) (own_bit1 hh).symm, N178, Kp, E_o, Fs, F_size, V, own_T_rem (n := 2) (by have q := TT; rw [hn_] at q; exact q) RR, by rw [own_bn1 hh, hn_], RR.2.2.2.1⟩) (by decide) (by decide)
    · refine OwnGo.st (fun _ kk => XS.ifNo X159.here hx rfl (hb hby d9_42) rfl ((if0 _ _).trans (feq ((fun z => hz0 ((lw_eq _ _).1 z)) : ¬ ((lcmpW (own_F ws r a) (0 : Int64)) = (0 : Int32)))).1) kk) ?_
      show OwnGo p e below s _ _ _ T159 (mkF m 45 #[.val (.ref o), .val (.long p1), .second, .val (.int sl), .val (.int (Int32.ofNat ((r + g) % 16))), .val (.int (Int32.ofNat ((r + a) % 16))), s6, s7] [])
      refine OwnGo.st (fun _ kk => XS.aloadN X159.here hx rfl (hb hby d9_45) rfl rfl  kk) ?_
      show OwnGo p e below s _ _ _ T159 (mkF m 46 #[.val (.ref o), .val (.long p1), .second, .val (.int sl), .val (.int (Int32.ofNat ((r + g) % 16))), .val (.int (Int32.ofNat ((r + a) % 16))), s6, s7] [(.ref o)])
      obtain ⟨T184, X184, e184, st184⟩ := getF X159 hx hZ hown (host := "") (Or.inl (hw _ (List.mem_of_getElem? (i := 14) rfl))) Via.refl e159 Fs (g := (mkF m 46 #[.val (.ref o), .val (.long p1), .second, .val (.int sl), .val (.int (Int32.ofNat ((r + g) % 16))), .val (.int (Int32.ofNat ((r + a) % 16))), s6, s7] [(.ref o)])) rfl rfl (hb hby d9_46)
      refine OwnGo.st st184 ?_
      show OwnGo p e below s _ _ _ T184 (mkF m 49 #[.val (.ref o), .val (.long p1), .second, .val (.int sl), .val (.int (Int32.ofNat ((r + g) % 16))), .val (.int (Int32.ofNat ((r + a) % 16))), s6, s7] [(.ref t)])
      refine OwnGo.st (fun _ kk => XS.iload X184.here hx rfl (hb hby d9_49) rfl  kk) ?_
      show OwnGo p e below s _ _ _ T184 (mkF m 51 #[.val (.ref o), .val (.long p1), .second, .val (.int sl), .val (.int (Int32.ofNat ((r + g) % 16))), .val (.int (Int32.ofNat ((r + a) % 16))), s6, s7] [(.int (Int32.ofNat ((r + a) % 16))), (.ref t)])
      obtain ⟨cl185, Ar185, -, S185, -, H185, -⟩ := id V
      have hin185 : ¬ ((Int32.ofNat ((r + a) % 16)) < 0 ∨ cl185.slots.size ≤ ((Int32.ofNat ((r + a) % 16))).toNatClampNeg) := inb_of S185 (own_inb (Nat.mod_lt _ (by decide)))
      refine OwnGo.st (fun _ kk => X184.laload hx (j := (Int32.ofNat ((r + a) % 16))) (v := (.long (own_F ws r a))) (by first | exact Ar185.1 | (rw [e184]; exact Ar185.1)) (State.isArrayOf_alike hZ.alike Ar185.2.1) Ar185.2.2 hin185 (H185.at hin185 (own_get LL.hl (Nat.mod_lt _ (by decide)))) (g := (mkF m 51 #[.val (.ref o), .val (.long p1), .second, .val (.int sl), .val (.int (Int32.ofNat ((r + g) % 16))), .val (.int (Int32.ofNat ((r + a) % 16))), s6, s7] [(.int (Int32.ofNat ((r + a) % 16))), (.ref t)])) rfl rfl (hb hby d9_51) _ kk) ?_
      show OwnGo p e below s _ _ _ T184 (mkF m 52 #[.val (.ref o), .val (.long p1), .second, .val (.int sl), .val (.int (Int32.ofNat ((r + g) % 16))), .val (.int (Int32.ofNat ((r + a) % 16))), s6, s7] [(.long (own_F ws r a))])
      refine OwnGo.st (fun _ kk => XS.aloadN X184.here hx rfl (hb hby d9_52) rfl rfl  kk) ?_
      show OwnGo p e below s _ _ _ T184 (mkF m 53 #[.val (.ref o), .val (.long p1), .second, .val (.int sl), .val (.int (Int32.ofNat ((r + g) % 16))), .val (.int (Int32.ofNat ((r + a) % 16))), s6, s7] [(.ref o), (.long (own_F ws r a))])
      obtain ⟨T186, X186, e186, st186⟩ := getF X184 hx hZ hown (host := "") (Or.inl (hw _ (List.mem_of_getElem? (i := 14) rfl))) Via.refl e184 Fs (g := (mkF m 53 #[.val (.ref o), .val (.long p1), .second, .val (.int sl), .val (.int (Int32.ofNat ((r + g) % 16))), .val (.int (Int32.ofNat ((r + a) % 16))), s6, s7] [(.ref o), (.long (own_F ws r a))])) rfl rfl (hb hby d9_53)
      refine OwnGo.st st186 ?_
      show OwnGo p e below s _ _ _ T186 (mkF m 56 #[.val (.ref o), .val (.long p1), .second, .val (.int sl), .val (.int (Int32.ofNat ((r + g) % 16))), .val (.int (Int32.ofNat ((r + a) % 16))), s6, s7] [(.ref t), (.long (own_F ws r a))])
      obtain ⟨cl187, Ar187, -, S187, N187, -, -⟩ := id V
      refine OwnGo.st (fun _ kk => own_len hZ (len_of S187 N187) Ar187 X186 e186 hx (g := (mkF m 56 #[.val (.ref o), .val (.long p1), .second, .val (.int sl), .val (.int (Int32.ofNat ((r + g) % 16))), .val (.int (Int32.ofNat ((r + a) % 16))), s6, s7] [(.ref t), (.long (own_F ws r a))])) rfl rfl (hb hby d9_56) _ kk) ?_
      show OwnGo p e below s _ _ _ T186 (mkF m 57 #[.val (.ref o), .val (.long p1), .second, .val (.int sl), .val (.int (Int32.ofNat ((r + g) % 16))), .val (.int (Int32.ofNat ((r + a) % 16))), s6, s7] [(.int (16 : Int32)), (.long (own_F ws r a))])
      obtain ⟨_, _, ⟨T188, L188, k188, n188⟩, -, X188, ⟨Lc188, hQ188, l188, y188, z188⟩, st188⟩ := Jvm.LawKit.callS X186 hx (y := (⟨"com/example/utsatt/utsatt/KeyHashes", "home", "(JI)I"⟩ : MethodName)) hown (mvT hZ (hw _ (List.mem_of_getElem? (i := 28) rfl))) (mvT hZ (hw _ (List.mem_of_getElem? (i := 29) rfl))) (mvT hZ (hw _ (List.mem_of_getElem? (i := 6) rfl))) (mvT hZ (hw _ (List.mem_of_getElem? (i := 30) rfl))) (by decide) (backOf (W := 0) (rmhome l Z a0 hw [] (own_F ws r a) h1 n0 Z_ ) hZ (hw _ (List.mem_of_getElem? (i := 30) rfl)) (hw _ (List.mem_of_getElem? (i := 6) rfl)) (by decide) (by decide)) (g := (mkF m 57 #[.val (.ref o), .val (.long p1), .second, .val (.int sl), .val (.int (Int32.ofNat ((r + g) % 16))), .val (.int (Int32.ofNat ((r + a) % 16))), s6, s7] [(.int (16 : Int32)), (.long (own_F ws r a))])) rfl (by rw [hml]; rfl) (argsL := [(.long (own_F ws r a)), (.int (16 : Int32))]) (rest := []) (lenOf pd_1 rfl) rfl (by show 2 * 0 + _ ≤ _; exact Nat.le_of_eq rfl) (hb hby d9_57) (fun _ _ => ⟨rfl, e186, (by decide : 0 + 0 ≤ _), (by decide : 0 + 0 ≤ _)⟩)
      dsimp only [Pt.U, Pt.locs, Pt.cells, Pt.slots] at X188 l188 y188 z188 st188 hQ188
      subst l188 y188 z188
      obtain ⟨rfl, N188q, e188⟩ := hQ188
      have N188 := Fr.app N0 N188q
      refine OwnGo.st st188 ?_
      show OwnGo p e below s _ _ _ T188 (mkF m 60 #[.val (.ref o), .val (.long p1), .second, .val (.int sl), .val (.int (Int32.ofNat ((r + g) % 16))), .val (.int (Int32.ofNat ((r + a) % 16))), s6, s7] [(.int (Int32.ofNat (own_home (own_F ws r a))))])
      have hm := own_home_lt (own_F ws r a)
      have hlt := own_L_lt LL hz0
      have en : own_nx ((r + a) % 16) = ((r + (a + 1)) % 16) := by rw [own_nx_mod (Nat.mod_lt _ (by decide))]; omega
      have cyc := own_cyc (h := own_home (own_F ws r a)) LL.hr LL.ga (Nat.lt_trans hlt LL.z16) hm
      rcases h67 with ⟨rfl, rfl⟩ | ⟨i6, i7, rfl, rfl⟩
      · refine OwnGo.st (fun _ kk => XS.istore X188.here hx rfl (hb hby d9_60) rfl (l' := #[.val (.ref o), .val (.long p1), .second, .val (.int sl), .val (.int (Int32.ofNat ((r + g) % 16))), .val (.int (Int32.ofNat ((r + a) % 16))), .val (.int (Int32.ofNat (own_home (own_F ws r a)))), .unset]) rfl kk) ?_
        show OwnGo p e below s _ _ _ T188 (mkF m 62 #[.val (.ref o), .val (.long p1), .second, .val (.int sl), .val (.int (Int32.ofNat ((r + g) % 16))), .val (.int (Int32.ofNat ((r + a) % 16))), .val (.int (Int32.ofNat (own_home (own_F ws r a)))), .unset] [])
        refine OwnGo.st (fun _ kk => XS.iload X188.here hx rfl (hb hby d9_62) rfl  kk) ?_
        show OwnGo p e below s _ _ _ T188 (mkF m 64 #[.val (.ref o), .val (.long p1), .second, .val (.int sl), .val (.int (Int32.ofNat ((r + g) % 16))), .val (.int (Int32.ofNat ((r + a) % 16))), .val (.int (Int32.ofNat (own_home (own_F ws r a)))), .unset] [(.int (Int32.ofNat ((r + g) % 16)))])
        refine OwnGo.st (fun _ kk => XS.iload X188.here hx rfl (hb hby d9_64) rfl  kk) ?_
        show OwnGo p e below s _ _ _ T188 (mkF m 66 #[.val (.ref o), .val (.long p1), .second, .val (.int sl), .val (.int (Int32.ofNat ((r + g) % 16))), .val (.int (Int32.ofNat ((r + a) % 16))), .val (.int (Int32.ofNat (own_home (own_F ws r a)))), .unset] [(.int (Int32.ofNat ((r + a) % 16))), (.int (Int32.ofNat ((r + g) % 16)))])
        by_cases q66 : (Int32.ofNat ((r + g) % 16)) < (Int32.ofNat ((r + a) % 16))
        · refine OwnGo.st (fun _ kk => XS.icmpNo X188.here hx rfl (hb hby d9_66) rfl (tlt (q66 : (Int32.ofNat ((r + g) % 16)) < (Int32.ofNat ((r + a) % 16)))).2.1 kk) ?_
          show OwnGo p e below s _ _ _ T188 (mkF m 69 #[.val (.ref o), .val (.long p1), .second, .val (.int sl), .val (.int (Int32.ofNat ((r + g) % 16))), .val (.int (Int32.ofNat ((r + a) % 16))), .val (.int (Int32.ofNat (own_home (own_F ws r a)))), .unset] [])
          rw [own_ilt (Nat.mod_lt _ (by decide)) (Nat.mod_lt _ (by decide))] at q66
          refine OwnGo.st (fun _ kk => XS.iload X188.here hx rfl (hb hby d9_69) rfl  kk) ?_
          show OwnGo p e below s _ _ _ T188 (mkF m 71 #[.val (.ref o), .val (.long p1), .second, .val (.int sl), .val (.int (Int32.ofNat ((r + g) % 16))), .val (.int (Int32.ofNat ((r + a) % 16))), .val (.int (Int32.ofNat (own_home (own_F ws r a)))), .unset] [(.int (Int32.ofNat (own_home (own_F ws r a))))])
          refine OwnGo.st (fun _ kk => XS.iload X188.here hx rfl (hb hby d9_71) rfl  kk) ?_
          show OwnGo p e below s _ _ _ T188 (mkF m 73 #[.val (.ref o), .val (.long p1), .second, .val (.int sl), .val (.int (Int32.ofNat ((r + g) % 16))), .val (.int (Int32.ofNat ((r + a) % 16))), .val (.int (Int32.ofNat (own_home (own_F ws r a)))), .unset] [(.int (Int32.ofNat ((r + g) % 16))), (.int (Int32.ofNat (own_home (own_F ws r a))))])
          by_cases q73 : (Int32.ofNat ((r + g) % 16)) < (Int32.ofNat (own_home (own_F ws r a)))
          · refine OwnGo.st (fun _ kk => XS.icmpNo X188.here hx rfl (hb hby d9_73) rfl (tlt (q73 : (Int32.ofNat ((r + g) % 16)) < (Int32.ofNat (own_home (own_F ws r a))))).2.2.2 kk) ?_
            show OwnGo p e below s _ _ _ T188 (mkF m 76 #[.val (.ref o), .val (.long p1), .second, .val (.int sl), .val (.int (Int32.ofNat ((r + g) % 16))), .val (.int (Int32.ofNat ((r + a) % 16))), .val (.int (Int32.ofNat (own_home (own_F ws r a)))), .unset] [])
            rw [own_ilt (Nat.mod_lt _ (by decide)) hm] at q73
            refine OwnGo.st (fun _ kk => XS.iload X188.here hx rfl (hb hby d9_76) rfl  kk) ?_
            show OwnGo p e below s _ _ _ T188 (mkF m 78 #[.val (.ref o), .val (.long p1), .second, .val (.int sl), .val (.int (Int32.ofNat ((r + g) % 16))), .val (.int (Int32.ofNat ((r + a) % 16))), .val (.int (Int32.ofNat (own_home (own_F ws r a)))), .unset] [(.int (Int32.ofNat (own_home (own_F ws r a))))])
            refine OwnGo.st (fun _ kk => XS.iload X188.here hx rfl (hb hby d9_78) rfl  kk) ?_
            show OwnGo p e below s _ _ _ T188 (mkF m 80 #[.val (.ref o), .val (.long p1), .second, .val (.int sl), .val (.int (Int32.ofNat ((r + g) % 16))), .val (.int (Int32.ofNat ((r + a) % 16))), .val (.int (Int32.ofNat (own_home (own_F ws r a)))), .unset] [(.int (Int32.ofNat ((r + a) % 16))), (.int (Int32.ofNat (own_home (own_F ws r a))))])
            by_cases q80 : (Int32.ofNat ((r + a) % 16)) < (Int32.ofNat (own_home (own_F ws r a)))
            · refine OwnGo.st (fun _ kk => XS.icmpYes X188.here hx rfl (pc0 := 80) (pc' := 87) rfl (hb hby d9_80) rfl (tlt (q80 : (Int32.ofNat ((r + a) % 16)) < (Int32.ofNat (own_home (own_F ws r a))))).2.2.1 (by decide) (by decide) kk) ?_
              show OwnGo p e below s _ _ _ T188 (mkF m 87 #[.val (.ref o), .val (.long p1), .second, .val (.int sl), .val (.int (Int32.ofNat ((r + g) % 16))), .val (.int (Int32.ofNat ((r + a) % 16))), .val (.int (Int32.ofNat (own_home (own_F ws r a)))), .unset] [])
              rw [own_ilt (Nat.mod_lt _ (by decide)) hm] at q80
              refine OwnGo.st (fun _ kk => XS.iconst X188.here hx rfl (hb hby d9_87) kk) ?_
              show OwnGo p e below s _ _ _ T188 (mkF m 88 #[.val (.ref o), .val (.long p1), .second, .val (.int sl), .val (.int (Int32.ofNat ((r + g) % 16))), .val (.int (Int32.ofNat ((r + a) % 16))), .val (.int (Int32.ofNat (own_home (own_F ws r a)))), .unset] [(.int (0 : Int32))])
              refine OwnGo.st (fun _ kk => XS.goto X188.here hx rfl (pc0 := 88) (pc' := 110) rfl (hb hby d9_88) (by decide) (by decide) kk) ?_
              show OwnGo p e below s _ _ _ T188 (mkF m 110 #[.val (.ref o), .val (.long p1), .second, .val (.int sl), .val (.int (Int32.ofNat ((r + g) % 16))), .val (.int (Int32.ofNat ((r + a) % 16))), .val (.int (Int32.ofNat (own_home (own_F ws r a)))), .unset] [(.int (0 : Int32))])
              refine OwnGo.st (fun _ kk => XS.istore X188.here hx rfl (hb hby d9_110) rfl (l' := #[.val (.ref o), .val (.long p1), .second, .val (.int sl), .val (.int (Int32.ofNat ((r + g) % 16))), .val (.int (Int32.ofNat ((r + a) % 16))), .val (.int (Int32.ofNat (own_home (own_F ws r a)))), .val (.int (0 : Int32))]) rfl kk) ?_
              show OwnGo p e below s _ _ _ T188 (mkF m 112 #[.val (.ref o), .val (.long p1), .second, .val (.int sl), .val (.int (Int32.ofNat ((r + g) % 16))), .val (.int (Int32.ofNat ((r + a) % 16))), .val (.int (Int32.ofNat (own_home (own_F ws r a)))), .val (.int (0 : Int32))] [])
              refine OwnGo.st (fun _ kk => XS.iload X188.here hx rfl (hb hby d9_112) rfl  kk) ?_
              show OwnGo p e below s _ _ _ T188 (mkF m 114 #[.val (.ref o), .val (.long p1), .second, .val (.int sl), .val (.int (Int32.ofNat ((r + g) % 16))), .val (.int (Int32.ofNat ((r + a) % 16))), .val (.int (Int32.ofNat (own_home (own_F ws r a)))), .val (.int (0 : Int32))] [(.int (0 : Int32))])
              have hin : ¬ (g < own_H r (own_F ws r a) ∧ own_H r (own_F ws r a) ≤ a) := fun z => absurd (cyc.2 z) (by omega)
              have LL' := own_L_out LL hz0 hin
              refine OwnGo.st (fun _ kk => XS.ifNo X188.here hx rfl (hb hby d9_114) rfl ((if0 _ _).trans (teq ((by decide) : (0 : Int32) = (0 : Int32))).2) kk) ?_
              show OwnGo p e below s _ _ _ T188 (mkF m 117 #[.val (.ref o), .val (.long p1), .second, .val (.int sl), .val (.int (Int32.ofNat ((r + g) % 16))), .val (.int (Int32.ofNat ((r + a) % 16))), .val (.int (Int32.ofNat (own_home (own_F ws r a)))), .val (.int (0 : Int32))] [])
              refine OwnGo.st (fun _ kk => XS.aloadN X188.here hx rfl (hb hby d9_117) rfl rfl  kk) ?_
              show OwnGo p e below s _ _ _ T188 (mkF m 118 #[.val (.ref o), .val (.long p1), .second, .val (.int sl), .val (.int (Int32.ofNat ((r + g) % 16))), .val (.int (Int32.ofNat ((r + a) % 16))), .val (.int (Int32.ofNat (own_home (own_F ws r a)))), .val (.int (0 : Int32))] [(.ref o)])
              obtain ⟨T189, X189, e189, st189⟩ := getF X188 hx hZ hown (host := "") (Or.inl (hw _ (List.mem_of_getElem? (i := 14) rfl))) Via.refl e188 Fs (g := (mkF m 118 #[.val (.ref o), .val (.long p1), .second, .val (.int sl), .val (.int (Int32.ofNat ((r + g) % 16))), .val (.int (Int32.ofNat ((r + a) % 16))), .val (.int (Int32.ofNat (own_home (own_F ws r a)))), .val (.int (0 : Int32))] [(.ref o)])) rfl rfl (hb hby d9_118)
              refine OwnGo.st st189 ?_
              show OwnGo p e below s _ _ _ T189 (mkF m 121 #[.val (.ref o), .val (.long p1), .second, .val (.int sl), .val (.int (Int32.ofNat ((r + g) % 16))), .val (.int (Int32.ofNat ((r + a) % 16))), .val (.int (Int32.ofNat (own_home (own_F ws r a)))), .val (.int (0 : Int32))] [(.ref t)])
              refine OwnGo.st (fun _ kk => XS.iload X189.here hx rfl (hb hby d9_121) rfl  kk) ?_
              show OwnGo p e below s _ _ _ T189 (mkF m 123 #[.val (.ref o), .val (.long p1), .second, .val (.int sl), .val (.int (Int32.ofNat ((r + g) % 16))), .val (.int (Int32.ofNat ((r + a) % 16))), .val (.int (Int32.ofNat (own_home (own_F ws r a)))), .val (.int (0 : Int32))] [(.int (Int32.ofNat ((r + g) % 16))), (.ref t)])
              refine OwnGo.st (fun _ kk => XS.aloadN X189.here hx rfl (hb hby d9_123) rfl rfl  kk) ?_
              show OwnGo p e below s _ _ _ T189 (mkF m 124 #[.val (.ref o), .val (.long p1), .second, .val (.int sl), .val (.int (Int32.ofNat ((r + g) % 16))), .val (.int (Int32.ofNat ((r + a) % 16))), .val (.int (Int32.ofNat (own_home (own_F ws r a)))), .val (.int (0 : Int32))] [(.ref o), (.int (Int32.ofNat ((r + g) % 16))), (.ref t)])
              obtain ⟨T190, X190, e190, st190⟩ := getF X189 hx hZ hown (host := "") (Or.inl (hw _ (List.mem_of_getElem? (i := 14) rfl))) Via.refl e189 Fs (g := (mkF m 124 #[.val (.ref o), .val (.long p1), .second, .val (.int sl), .val (.int (Int32.ofNat ((r + g) % 16))), .val (.int (Int32.ofNat ((r + a) % 16))), .val (.int (Int32.ofNat (own_home (own_F ws r a)))), .val (.int (0 : Int32))] [(.ref o), (.int (Int32.ofNat ((r + g) % 16))), (.ref t)])) rfl rfl (hb hby d9_124)
              refine OwnGo.st st190 ?_
              show OwnGo p e below s _ _ _ T190 (mkF m 127 #[.val (.ref o), .val (.long p1), .second, .val (.int sl), .val (.int (Int32.ofNat ((r + g) % 16))), .val (.int (Int32.ofNat ((r + a) % 16))), .val (.int (Int32.ofNat (own_home (own_F ws r a)))), .val (.int (0 : Int32))] [(.ref t), (.int (Int32.ofNat ((r + g) % 16))), (.ref t)])
              refine OwnGo.st (fun _ kk => XS.iload X190.here hx rfl (hb hby d9_127) rfl  kk) ?_
              show OwnGo p e below s _ _ _ T190 (mkF m 129 #[.val (.ref o), .val (.long p1), .second, .val (.int sl), .val (.int (Int32.ofNat ((r + g) % 16))), .val (.int (Int32.ofNat ((r + a) % 16))), .val (.int (Int32.ofNat (own_home (own_F ws r a)))), .val (.int (0 : Int32))] [(.int (Int32.ofNat ((r + a) % 16))), (.ref t), (.int (Int32.ofNat ((r + g) % 16))), (.ref t)])
              obtain ⟨cl191, Ar191, -, S191, -, H191, -⟩ := id V
              have hin191 : ¬ ((Int32.ofNat ((r + a) % 16)) < 0 ∨ cl191.slots.size ≤ ((Int32.ofNat ((r + a) % 16))).toNatClampNeg) := inb_of S191 (own_inb (Nat.mod_lt _ (by decide)))
              refine OwnGo.st (fun _ kk => X190.laload hx (j := (Int32.ofNat ((r + a) % 16))) (v := (.long (own_F ws r a))) (by first | exact Ar191.1 | (rw [e190]; exact Ar191.1)) (State.isArrayOf_alike hZ.alike Ar191.2.1) Ar191.2.2 hin191 (H191.at hin191 (own_get LL.hl (Nat.mod_lt _ (by decide)))) (g := (mkF m 129 #[.val (.ref o), .val (.long p1), .second, .val (.int sl), .val (.int (Int32.ofNat ((r + g) % 16))), .val (.int (Int32.ofNat ((r + a) % 16))), .val (.int (Int32.ofNat (own_home (own_F ws r a)))), .val (.int (0 : Int32))] [(.int (Int32.ofNat ((r + a) % 16))), (.ref t), (.int (Int32.ofNat ((r + g) % 16))), (.ref t)])) rfl rfl (hb hby d9_129) _ kk) ?_
              show OwnGo p e below s _ _ _ T190 (mkF m 130 #[.val (.ref o), .val (.long p1), .second, .val (.int sl), .val (.int (Int32.ofNat ((r + g) % 16))), .val (.int (Int32.ofNat ((r + a) % 16))), .val (.int (Int32.ofNat (own_home (own_F ws r a)))), .val (.int (0 : Int32))] [(.long (own_F ws r a)), (.int (Int32.ofNat ((r + g) % 16))), (.ref t)])
              obtain ⟨cl192, Ar192, q192, S192, N192, H192, G192⟩ := id V
              obtain ⟨T192, h192, X192, e192, W192, st192⟩ := stJ X190 hx hZ e190 Ar192 (j := (Int32.ofNat ((r + g) % 16))) (inb_of S192 (own_inb (Nat.mod_lt _ (by decide)))) (g := (mkF m 130 #[.val (.ref o), .val (.long p1), .second, .val (.int sl), .val (.int (Int32.ofNat ((r + g) % 16))), .val (.int (Int32.ofNat ((r + a) % 16))), .val (.int (Int32.ofNat (own_home (own_F ws r a)))), .val (.int (0 : Int32))] [(.long (own_F ws r a)), (.int (Int32.ofNat ((r + g) % 16))), (.ref t)])) rfl rfl (hb hby d9_130)
              have V' := Arv.set Ar192 q192 S192 N192 H192 G192 rfl W192 ((r + g) % 16) (own_nat (Nat.mod_lt _ (by decide))) (by rw [List.length_map, LL.hl]; exact (Nat.mod_lt _ (by decide)))
              rw [own_set] at V'
              have E_o := E_o.wr W192
              have Fs := Fs.other W192 (Or.inl (Ne.symm ne_t_o))
              have F_size := F_size.other W192 (Or.inl (Ne.symm ne_t_o))
              have Kp := Kp.wr W192 (Or.inl (List.mem_of_getElem? (i := 1) rfl))
              have N192 := Fr.snoc X192 N188 g_t
              have Z_ : n0 ≤ h192.size := by rw [W192.size]; exact Z_
              have V := V'
              refine OwnGo.st st192 ?_
              show OwnGo p e below s _ _ _ T192 (mkF m 131 #[.val (.ref o), .val (.long p1), .second, .val (.int sl), .val (.int (Int32.ofNat ((r + g) % 16))), .val (.int (Int32.ofNat ((r + a) % 16))), .val (.int (Int32.ofNat (own_home (own_F ws r a)))), .val (.int (0 : Int32))] [])
              refine OwnGo.st (fun _ kk => XS.iload X192.here hx rfl (hb hby d9_131) rfl  kk) ?_
              show OwnGo p e below s _ _ _ T192 (mkF m 133 #[.val (.ref o), .val (.long p1), .second, .val (.int sl), .val (.int (Int32.ofNat ((r + g) % 16))), .val (.int (Int32.ofNat ((r + a) % 16))), .val (.int (Int32.ofNat (own_home (own_F ws r a)))), .val (.int (0 : Int32))] [(.int (Int32.ofNat ((r + a) % 16)))])
              refine OwnGo.st (fun _ kk => XS.istore X192.here hx rfl (hb hby d9_133) rfl (l' := #[.val (.ref o), .val (.long p1), .second, .val (.int sl), .val (.int (Int32.ofNat ((r + a) % 16))), .val (.int (Int32.ofNat ((r + a) % 16))), .val (.int (Int32.ofNat (own_home (own_F ws r a)))), .val (.int (0 : Int32))]) rfl kk) ?_
              show OwnGo p e below s _ _ _ T192 (mkF m 135 #[.val (.ref o), .val (.long p1), .second, .val (.int sl), .val (.int (Int32.ofNat ((r + a) % 16))), .val (.int (Int32.ofNat ((r + a) % 16))), .val (.int (Int32.ofNat (own_home (own_F ws r a)))), .val (.int (0 : Int32))] [])
              refine OwnGo.st (fun _ kk => XS.aloadN X192.here hx rfl (hb hby d9_135) rfl rfl  kk) ?_
              show OwnGo p e below s _ _ _ T192 (mkF m 136 #[.val (.ref o), .val (.long p1), .second, .val (.int sl), .val (.int (Int32.ofNat ((r + a) % 16))), .val (.int (Int32.ofNat ((r + a) % 16))), .val (.int (Int32.ofNat (own_home (own_F ws r a)))), .val (.int (0 : Int32))] [(.ref o)])
              refine OwnGo.st (fun _ kk => XS.iload X192.here hx rfl (hb hby d9_136) rfl  kk) ?_
              show OwnGo p e below s _ _ _ T192 (mkF m 138 #[.val (.ref o), .val (.long p1), .second, .val (.int sl), .val (.int (Int32.ofNat ((r + a) % 16))), .val (.int (Int32.ofNat ((r + a) % 16))), .val (.int (Int32.ofNat (own_home (own_F ws r a)))), .val (.int (0 : Int32))] [(.int (Int32.ofNat ((r + a) % 16))), (.ref o)])
              obtain ⟨cq193, q193, q193'⟩ := E_o.cell
              obtain ⟨_, _, ⟨T193, L193, k193, n193⟩, -, X193, ⟨Lc193, hQ193, l193, y193, z193⟩, st193⟩ := X192.privateBack hx (y := (⟨"com/example/utsatt/utsatt/KeyHashes", "next", "(I)I"⟩ : MethodName)) hown (mvT hZ (hw _ (List.mem_of_getElem? (i := 34) rfl))) (mvT hZ (hw _ (List.mem_of_getElem? (i := 35) rfl))) (own_selp (z := (⟨"com/example/utsatt/utsatt/KeyHashes", "add", "(J)Z"⟩ : MethodName)) (mvT hZ (hw _ (List.mem_of_getElem? (i := 19) rfl))) rfl (Cond.privateMethod_at (mvP hZ (hw _ (List.mem_of_getElem? (i := 36) rfl)) (args := #[]))) (mvT hZ (hw _ (List.mem_of_getElem? (i := 35) rfl))) (by decide)) (Cond.privateMethod_at (mvP hZ (hw _ (List.mem_of_getElem? (i := 36) rfl)) (args := #[]))) (mvT hZ (hw _ (List.mem_of_getElem? (i := 37) rfl))) (by decide) (backOf (W := 0) (rmnext l Z a0 hw [] o t kc (ws.set ((r + g) % 16) (own_F ws r a)) ((r + a) % 16) h192 n0 Z_ E_o Fs V LL'.hl (Nat.mod_lt _ (by decide))) hZ (hw _ (List.mem_of_getElem? (i := 37) rfl)) (hw _ (List.mem_of_getElem? (i := 6) rfl)) (by decide) (by decide)) (g := (mkF m 138 #[.val (.ref o), .val (.long p1), .second, .val (.int sl), .val (.int (Int32.ofNat ((r + a) % 16))), .val (.int (Int32.ofNat ((r + a) % 16))), .val (.int (Int32.ofNat (own_home (own_F ws r a)))), .val (.int (0 : Int32))] [(.int (Int32.ofNat ((r + a) % 16))), (.ref o)])) rfl (by rw [hml]; rfl) (Steps.refl _) (a := o) (by rw [e192]; exact q193) q193' (argsL := [(.int (Int32.ofNat ((r + a) % 16)))]) (rest := []) (lenOf pd_0 rfl) rfl (by show 2 * 0 + _ ≤ _; exact Nat.le_of_eq rfl) (hb hby d9_138) (fun _ _ => ⟨rfl, e192, (by decide : 0 + 0 ≤ _), (by decide : 0 + 0 ≤ _)⟩)
              dsimp only [Pt.U, Pt.locs, Pt.cells, Pt.slots] at X193 l193 y193 z193 st193 hQ193
              subst l193 y193 z193
              obtain ⟨rfl, N193q, e193⟩ := hQ193
              have N193 := Fr.app N192 N193q
              refine OwnGo.st (fun _ kk => st193.trans kk) ?_
              show OwnGo p e below s _ _ _ T193 (mkF m 141 #[.val (.ref o), .val (.long p1), .second, .val (.int sl), .val (.int (Int32.ofNat ((r + a) % 16))), .val (.int (Int32.ofNat ((r + a) % 16))), .val (.int (Int32.ofNat (own_home (own_F ws r a)))), .val (.int (0 : Int32))] [(.int (Int32.ofNat (own_nx ((r + a) % 16))))])
              rw [en]
              show OwnGo p e below s _ _ _ T193 (mkF m 141 #[.val (.ref o), .val (.long p1), .second, .val (.int sl), .val (.int (Int32.ofNat ((r + a) % 16))), .val (.int (Int32.ofNat ((r + a) % 16))), .val (.int (Int32.ofNat (own_home (own_F ws r a)))), .val (.int (0 : Int32))] [(.int (Int32.ofNat ((r + (a + 1)) % 16)))])
              refine OwnGo.st (fun _ kk => XS.istore X193.here hx rfl (hb hby d9_141) rfl (l' := #[.val (.ref o), .val (.long p1), .second, .val (.int sl), .val (.int (Int32.ofNat ((r + a) % 16))), .val (.int (Int32.ofNat ((r + (a + 1)) % 16))), .val (.int (Int32.ofNat (own_home (own_F ws r a)))), .val (.int (0 : Int32))]) rfl kk) ?_
              show OwnGo p e below s _ _ _ T193 (mkF m 143 #[.val (.ref o), .val (.long p1), .second, .val (.int sl), .val (.int (Int32.ofNat ((r + a) % 16))), .val (.int (Int32.ofNat ((r + (a + 1)) % 16))), .val (.int (Int32.ofNat (own_home (own_F ws r a)))), .val (.int (0 : Int32))] [])
              refine OwnGo.st (fun _ kk => XS.goto X193.here hx rfl (pc0 := 143) (pc' := 33) rfl (hb hby d9_143) (by decide) (by decide) kk) ?_
              show OwnGo p e below s _ _ _ T193 (mkF m 33 #[.val (.ref o), .val (.long p1), .second, .val (.int sl), .val (.int (Int32.ofNat ((r + a) % 16))), .val (.int (Int32.ofNat ((r + (a + 1)) % 16))), .val (.int (Int32.ofNat (own_home (own_F ws r a)))), .val (.int (0 : Int32))] [])
              exact ih (ws.set ((r + g) % 16) (own_F ws r a)) a (a + 1) h192 _ _ X193 e193 N193 E_o Fs V F_size Z_ LL' (by omega) (Or.inr ⟨_, _, rfl, rfl⟩) Kp
            · refine OwnGo.st (fun _ kk => XS.icmpNo X188.here hx rfl (hb hby d9_80) rfl (flt (q80 : ¬ ((Int32.ofNat ((r + a) % 16)) < (Int32.ofNat (own_home (own_F ws r a)))))).2.2.1 kk) ?_
              show OwnGo p e below s _ _ _ T188 (mkF m 83 #[.val (.ref o), .val (.long p1), .second, .val (.int sl), .val (.int (Int32.ofNat ((r + g) % 16))), .val (.int (Int32.ofNat ((r + a) % 16))), .val (.int (Int32.ofNat (own_home (own_F ws r a)))), .unset] [])
              rw [own_ilt (Nat.mod_lt _ (by decide)) hm] at q80
              refine OwnGo.st (fun _ kk => XS.iconst X188.here hx rfl (hb hby d9_83) kk) ?_
              show OwnGo p e below s _ _ _ T188 (mkF m 84 #[.val (.ref o), .val (.long p1), .second, .val (.int sl), .val (.int (Int32.ofNat ((r + g) % 16))), .val (.int (Int32.ofNat ((r + a) % 16))), .val (.int (Int32.ofNat (own_home (own_F ws r a)))), .unset] [(.int (1 : Int32))])
              refine OwnGo.st (fun _ kk => XS.goto X188.here hx rfl (pc0 := 84) (pc' := 110) rfl (hb hby d9_84) (by decide) (by decide) kk) ?_
              show OwnGo p e below s _ _ _ T188 (mkF m 110 #[.val (.ref o), .val (.long p1), .second, .val (.int sl), .val (.int (Int32.ofNat ((r + g) % 16))), .val (.int (Int32.ofNat ((r + a) % 16))), .val (.int (Int32.ofNat (own_home (own_F ws r a)))), .unset] [(.int (1 : Int32))])
              refine OwnGo.st (fun _ kk => XS.istore X188.here hx rfl (hb hby d9_110) rfl (l' := #[.val (.ref o), .val (.long p1), .second, .val (.int sl), .val (.int (Int32.ofNat ((r + g) % 16))), .val (.int (Int32.ofNat ((r + a) % 16))), .val (.int (Int32.ofNat (own_home (own_F ws r a)))), .val (.int (1 : Int32))]) rfl kk) ?_
              show OwnGo p e below s _ _ _ T188 (mkF m 112 #[.val (.ref o), .val (.long p1), .second, .val (.int sl), .val (.int (Int32.ofNat ((r + g) % 16))), .val (.int (Int32.ofNat ((r + a) % 16))), .val (.int (Int32.ofNat (own_home (own_F ws r a)))), .val (.int (1 : Int32))] [])
              refine OwnGo.st (fun _ kk => XS.iload X188.here hx rfl (hb hby d9_112) rfl  kk) ?_
              show OwnGo p e below s _ _ _ T188 (mkF m 114 #[.val (.ref o), .val (.long p1), .second, .val (.int sl), .val (.int (Int32.ofNat ((r + g) % 16))), .val (.int (Int32.ofNat ((r + a) % 16))), .val (.int (Int32.ofNat (own_home (own_F ws r a)))), .val (.int (1 : Int32))] [(.int (1 : Int32))])
              have hin : g < own_H r (own_F ws r a) ∧ own_H r (own_F ws r a) ≤ a := cyc.1 (by omega)
              have LL' := own_L_in LL hz0 hin
              refine OwnGo.st (fun _ kk => XS.ifYes X188.here hx rfl (pc0 := 114) (pc' := 135) rfl (hb hby d9_114) rfl ((if0 _ _).trans (feq ((by decide) : ¬ ((1 : Int32) = (0 : Int32)))).2) (by decide) (by decide) kk) ?_
              show OwnGo p e below s _ _ _ T188 (mkF m 135 #[.val (.ref o), .val (.long p1), .second, .val (.int sl), .val (.int (Int32.ofNat ((r + g) % 16))), .val (.int (Int32.ofNat ((r + a) % 16))), .val (.int (Int32.ofNat (own_home (own_F ws r a)))), .val (.int (1 : Int32))] [])
              refine OwnGo.st (fun _ kk => XS.aloadN X188.here hx rfl (hb hby d9_135) rfl rfl  kk) ?_
              show OwnGo p e below s _ _ _ T188 (mkF m 136 #[.val (.ref o), .val (.long p1), .second, .val (.int sl), .val (.int (Int32.ofNat ((r + g) % 16))), .val (.int (Int32.ofNat ((r + a) % 16))), .val (.int (Int32.ofNat (own_home (own_F ws r a)))), .val (.int (1 : Int32))] [(.ref o)])
              refine OwnGo.st (fun _ kk => XS.iload X188.here hx rfl (hb hby d9_136) rfl  kk) ?_
              show OwnGo p e below s _ _ _ T188 (mkF m 138 #[.val (.ref o), .val (.long p1), .second, .val (.int sl), .val (.int (Int32.ofNat ((r + g) % 16))), .val (.int (Int32.ofNat ((r + a) % 16))), .val (.int (Int32.ofNat (own_home (own_F ws r a)))), .val (.int (1 : Int32))] [(.int (Int32.ofNat ((r + a) % 16))), (.ref o)])
              obtain ⟨cq194, q194, q194'⟩ := E_o.cell
              obtain ⟨_, _, ⟨T194, L194, k194, n194⟩, -, X194, ⟨Lc194, hQ194, l194, y194, z194⟩, st194⟩ := X188.privateBack hx (y := (⟨"com/example/utsatt/utsatt/KeyHashes", "next", "(I)I"⟩ : MethodName)) hown (mvT hZ (hw _ (List.mem_of_getElem? (i := 34) rfl))) (mvT hZ (hw _ (List.mem_of_getElem? (i := 35) rfl))) (own_selp (z := (⟨"com/example/utsatt/utsatt/KeyHashes", "add", "(J)Z"⟩ : MethodName)) (mvT hZ (hw _ (List.mem_of_getElem? (i := 19) rfl))) rfl (Cond.privateMethod_at (mvP hZ (hw _ (List.mem_of_getElem? (i := 36) rfl)) (args := #[]))) (mvT hZ (hw _ (List.mem_of_getElem? (i := 35) rfl))) (by decide)) (Cond.privateMethod_at (mvP hZ (hw _ (List.mem_of_getElem? (i := 36) rfl)) (args := #[]))) (mvT hZ (hw _ (List.mem_of_getElem? (i := 37) rfl))) (by decide) (backOf (W := 0) (rmnext l Z a0 hw [] o t kc ws ((r + a) % 16) h1 n0 Z_ E_o Fs V LL'.hl (Nat.mod_lt _ (by decide))) hZ (hw _ (List.mem_of_getElem? (i := 37) rfl)) (hw _ (List.mem_of_getElem? (i := 6) rfl)) (by decide) (by decide)) (g := (mkF m 138 #[.val (.ref o), .val (.long p1), .second, .val (.int sl), .val (.int (Int32.ofNat ((r + g) % 16))), .val (.int (Int32.ofNat ((r + a) % 16))), .val (.int (Int32.ofNat (own_home (own_F ws r a)))), .val (.int (1 : Int32))] [(.int (Int32.ofNat ((r + a) % 16))), (.ref o)])) rfl (by rw [hml]; rfl) (Steps.refl _) (a := o) (by rw [e188]; exact q194) q194' (argsL := [(.int (Int32.ofNat ((r + a) % 16)))]) (rest := []) (lenOf pd_0 rfl) rfl (by show 2 * 0 + _ ≤ _; exact Nat.le_of_eq rfl) (hb hby d9_138) (fun _ _ => ⟨rfl, e188, (by decide : 0 + 0 ≤ _), (by decide : 0 + 0 ≤ _)⟩)
              dsimp only [Pt.U, Pt.locs, Pt.cells, Pt.slots] at X194 l194 y194 z194 st194 hQ194
              subst l194 y194 z194
              obtain ⟨rfl, N194q, e194⟩ := hQ194
              have N194 := Fr.app N188 N194q
              refine OwnGo.st (fun _ kk => st194.trans kk) ?_
              show OwnGo p e below s _ _ _ T194 (mkF m 141 #[.val (.ref o), .val (.long p1), .second, .val (.int sl), .val (.int (Int32.ofNat ((r + g) % 16))), .val (.int (Int32.ofNat ((r + a) % 16))), .val (.int (Int32.ofNat (own_home (own_F ws r a)))), .val (.int (1 : Int32))] [(.int (Int32.ofNat (own_nx ((r + a) % 16))))])
              rw [en]
              show OwnGo p e below s _ _ _ T194 (mkF m 141 #[.val (.ref o), .val (.long p1), .second, .val (.int sl), .val (.int (Int32.ofNat ((r + g) % 16))), .val (.int (Int32.ofNat ((r + a) % 16))), .val (.int (Int32.ofNat (own_home (own_F ws r a)))), .val (.int (1 : Int32))] [(.int (Int32.ofNat ((r + (a + 1)) % 16)))])
              refine OwnGo.st (fun _ kk => XS.istore X194.here hx rfl (hb hby d9_141) rfl (l' := #[.val (.ref o), .val (.long p1), .second, .val (.int sl), .val (.int (Int32.ofNat ((r + g) % 16))), .val (.int (Int32.ofNat ((r + (a + 1)) % 16))), .val (.int (Int32.ofNat (own_home (own_F ws r a)))), .val (.int (1 : Int32))]) rfl kk) ?_
              show OwnGo p e below s _ _ _ T194 (mkF m 143 #[.val (.ref o), .val (.long p1), .second, .val (.int sl), .val (.int (Int32.ofNat ((r + g) % 16))), .val (.int (Int32.ofNat ((r + (a + 1)) % 16))), .val (.int (Int32.ofNat (own_home (own_F ws r a)))), .val (.int (1 : Int32))] [])
              refine OwnGo.st (fun _ kk => XS.goto X194.here hx rfl (pc0 := 143) (pc' := 33) rfl (hb hby d9_143) (by decide) (by decide) kk) ?_
              show OwnGo p e below s _ _ _ T194 (mkF m 33 #[.val (.ref o), .val (.long p1), .second, .val (.int sl), .val (.int (Int32.ofNat ((r + g) % 16))), .val (.int (Int32.ofNat ((r + (a + 1)) % 16))), .val (.int (Int32.ofNat (own_home (own_F ws r a)))), .val (.int (1 : Int32))] [])
              exact ih ws g (a + 1) h1 _ _ X194 e194 N194 E_o Fs V F_size Z_ LL' (by omega) (Or.inr ⟨_, _, rfl, rfl⟩) Kp
          · refine OwnGo.st (fun _ kk => XS.icmpYes X188.here hx rfl (pc0 := 73) (pc' := 87) rfl (hb hby d9_73) rfl (flt (q73 : ¬ ((Int32.ofNat ((r + g) % 16)) < (Int32.ofNat (own_home (own_F ws r a)))))).2.2.2 (by decide) (by decide) kk) ?_
            show OwnGo p e below s _ _ _ T188 (mkF m 87 #[.val (.ref o), .val (.long p1), .second, .val (.int sl), .val (.int (Int32.ofNat ((r + g) % 16))), .val (.int (Int32.ofNat ((r + a) % 16))), .val (.int (Int32.ofNat (own_home (own_F ws r a)))), .unset] [])
            rw [own_ilt (Nat.mod_lt _ (by decide)) hm] at q73
            refine OwnGo.st (fun _ kk => XS.iconst X188.here hx rfl (hb hby d9_87) kk) ?_
            show OwnGo p e below s _ _ _ T188 (mkF m 88 #[.val (.ref o), .val (.long p1), .second, .val (.int sl), .val (.int (Int32.ofNat ((r + g) % 16))), .val (.int (Int32.ofNat ((r + a) % 16))), .val (.int (Int32.ofNat (own_home (own_F ws r a)))), .unset] [(.int (0 : Int32))])
            refine OwnGo.st (fun _ kk => XS.goto X188.here hx rfl (pc0 := 88) (pc' := 110) rfl (hb hby d9_88) (by decide) (by decide) kk) ?_
            show OwnGo p e below s _ _ _ T188 (mkF m 110 #[.val (.ref o), .val (.long p1), .second, .val (.int sl), .val (.int (Int32.ofNat ((r + g) % 16))), .val (.int (Int32.ofNat ((r + a) % 16))), .val (.int (Int32.ofNat (own_home (own_F ws r a)))), .unset] [(.int (0 : Int32))])
            refine OwnGo.st (fun _ kk => XS.istore X188.here hx rfl (hb hby d9_110) rfl (l' := #[.val (.ref o), .val (.long p1), .second, .val (.int sl), .val (.int (Int32.ofNat ((r + g) % 16))), .val (.int (Int32.ofNat ((r + a) % 16))), .val (.int (Int32.ofNat (own_home (own_F ws r a)))), .val (.int (0 : Int32))]) rfl kk) ?_
            show OwnGo p e below s _ _ _ T188 (mkF m 112 #[.val (.ref o), .val (.long p1), .second, .val (.int sl), .val (.int (Int32.ofNat ((r + g) % 16))), .val (.int (Int32.ofNat ((r + a) % 16))), .val (.int (Int32.ofNat (own_home (own_F ws r a)))), .val (.int (0 : Int32))] [])
            refine OwnGo.st (fun _ kk => XS.iload X188.here hx rfl (hb hby d9_112) rfl  kk) ?_
            show OwnGo p e below s _ _ _ T188 (mkF m 114 #[.val (.ref o), .val (.long p1), .second, .val (.int sl), .val (.int (Int32.ofNat ((r + g) % 16))), .val (.int (Int32.ofNat ((r + a) % 16))), .val (.int (Int32.ofNat (own_home (own_F ws r a)))), .val (.int (0 : Int32))] [(.int (0 : Int32))])
            have hin : ¬ (g < own_H r (own_F ws r a) ∧ own_H r (own_F ws r a) ≤ a) := fun z => absurd (cyc.2 z) (by omega)
            have LL' := own_L_out LL hz0 hin
            refine OwnGo.st (fun _ kk => XS.ifNo X188.here hx rfl (hb hby d9_114) rfl ((if0 _ _).trans (teq ((by decide) : (0 : Int32) = (0 : Int32))).2) kk) ?_
            show OwnGo p e below s _ _ _ T188 (mkF m 117 #[.val (.ref o), .val (.long p1), .second, .val (.int sl), .val (.int (Int32.ofNat ((r + g) % 16))), .val (.int (Int32.ofNat ((r + a) % 16))), .val (.int (Int32.ofNat (own_home (own_F ws r a)))), .val (.int (0 : Int32))] [])
            refine OwnGo.st (fun _ kk => XS.aloadN X188.here hx rfl (hb hby d9_117) rfl rfl  kk) ?_
            show OwnGo p e below s _ _ _ T188 (mkF m 118 #[.val (.ref o), .val (.long p1), .second, .val (.int sl), .val (.int (Int32.ofNat ((r + g) % 16))), .val (.int (Int32.ofNat ((r + a) % 16))), .val (.int (Int32.ofNat (own_home (own_F ws r a)))), .val (.int (0 : Int32))] [(.ref o)])
            obtain ⟨T195, X195, e195, st195⟩ := getF X188 hx hZ hown (host := "") (Or.inl (hw _ (List.mem_of_getElem? (i := 14) rfl))) Via.refl e188 Fs (g := (mkF m 118 #[.val (.ref o), .val (.long p1), .second, .val (.int sl), .val (.int (Int32.ofNat ((r + g) % 16))), .val (.int (Int32.ofNat ((r + a) % 16))), .val (.int (Int32.ofNat (own_home (own_F ws r a)))), .val (.int (0 : Int32))] [(.ref o)])) rfl rfl (hb hby d9_118)
            refine OwnGo.st st195 ?_
            show OwnGo p e below s _ _ _ T195 (mkF m 121 #[.val (.ref o), .val (.long p1), .second, .val (.int sl), .val (.int (Int32.ofNat ((r + g) % 16))), .val (.int (Int32.ofNat ((r + a) % 16))), .val (.int (Int32.ofNat (own_home (own_F ws r a)))), .val (.int (0 : Int32))] [(.ref t)])
            refine OwnGo.st (fun _ kk => XS.iload X195.here hx rfl (hb hby d9_121) rfl  kk) ?_
            show OwnGo p e below s _ _ _ T195 (mkF m 123 #[.val (.ref o), .val (.long p1), .second, .val (.int sl), .val (.int (Int32.ofNat ((r + g) % 16))), .val (.int (Int32.ofNat ((r + a) % 16))), .val (.int (Int32.ofNat (own_home (own_F ws r a)))), .val (.int (0 : Int32))] [(.int (Int32.ofNat ((r + g) % 16))), (.ref t)])
            refine OwnGo.st (fun _ kk => XS.aloadN X195.here hx rfl (hb hby d9_123) rfl rfl  kk) ?_
            show OwnGo p e below s _ _ _ T195 (mkF m 124 #[.val (.ref o), .val (.long p1), .second, .val (.int sl), .val (.int (Int32.ofNat ((r + g) % 16))), .val (.int (Int32.ofNat ((r + a) % 16))), .val (.int (Int32.ofNat (own_home (own_F ws r a)))), .val (.int (0 : Int32))] [(.ref o), (.int (Int32.ofNat ((r + g) % 16))), (.ref t)])
            obtain ⟨T196, X196, e196, st196⟩ := getF X195 hx hZ hown (host := "") (Or.inl (hw _ (List.mem_of_getElem? (i := 14) rfl))) Via.refl e195 Fs (g := (mkF m 124 #[.val (.ref o), .val (.long p1), .second, .val (.int sl), .val (.int (Int32.ofNat ((r + g) % 16))), .val (.int (Int32.ofNat ((r + a) % 16))), .val (.int (Int32.ofNat (own_home (own_F ws r a)))), .val (.int (0 : Int32))] [(.ref o), (.int (Int32.ofNat ((r + g) % 16))), (.ref t)])) rfl rfl (hb hby d9_124)
            refine OwnGo.st st196 ?_
            show OwnGo p e below s _ _ _ T196 (mkF m 127 #[.val (.ref o), .val (.long p1), .second, .val (.int sl), .val (.int (Int32.ofNat ((r + g) % 16))), .val (.int (Int32.ofNat ((r + a) % 16))), .val (.int (Int32.ofNat (own_home (own_F ws r a)))), .val (.int (0 : Int32))] [(.ref t), (.int (Int32.ofNat ((r + g) % 16))), (.ref t)])
            refine OwnGo.st (fun _ kk => XS.iload X196.here hx rfl (hb hby d9_127) rfl  kk) ?_
            show OwnGo p e below s _ _ _ T196 (mkF m 129 #[.val (.ref o), .val (.long p1), .second, .val (.int sl), .val (.int (Int32.ofNat ((r + g) % 16))), .val (.int (Int32.ofNat ((r + a) % 16))), .val (.int (Int32.ofNat (own_home (own_F ws r a)))), .val (.int (0 : Int32))] [(.int (Int32.ofNat ((r + a) % 16))), (.ref t), (.int (Int32.ofNat ((r + g) % 16))), (.ref t)])
            obtain ⟨cl197, Ar197, -, S197, -, H197, -⟩ := id V
            have hin197 : ¬ ((Int32.ofNat ((r + a) % 16)) < 0 ∨ cl197.slots.size ≤ ((Int32.ofNat ((r + a) % 16))).toNatClampNeg) := inb_of S197 (own_inb (Nat.mod_lt _ (by decide)))
            refine OwnGo.st (fun _ kk => X196.laload hx (j := (Int32.ofNat ((r + a) % 16))) (v := (.long (own_F ws r a))) (by first | exact Ar197.1 | (rw [e196]; exact Ar197.1)) (State.isArrayOf_alike hZ.alike Ar197.2.1) Ar197.2.2 hin197 (H197.at hin197 (own_get LL.hl (Nat.mod_lt _ (by decide)))) (g := (mkF m 129 #[.val (.ref o), .val (.long p1), .second, .val (.int sl), .val (.int (Int32.ofNat ((r + g) % 16))), .val (.int (Int32.ofNat ((r + a) % 16))), .val (.int (Int32.ofNat (own_home (own_F ws r a)))), .val (.int (0 : Int32))] [(.int (Int32.ofNat ((r + a) % 16))), (.ref t), (.int (Int32.ofNat ((r + g) % 16))), (.ref t)])) rfl rfl (hb hby d9_129) _ kk) ?_
            show OwnGo p e below s _ _ _ T196 (mkF m 130 #[.val (.ref o), .val (.long p1), .second, .val (.int sl), .val (.int (Int32.ofNat ((r + g) % 16))), .val (.int (Int32.ofNat ((r + a) % 16))), .val (.int (Int32.ofNat (own_home (own_F ws r a)))), .val (.int (0 : Int32))] [(.long (own_F ws r a)), (.int (Int32.ofNat ((r + g) % 16))), (.ref t)])
            obtain ⟨cl198, Ar198, q198, S198, N198, H198, G198⟩ := id V
            obtain ⟨T198, h198, X198, e198, W198, st198⟩ := stJ X196 hx hZ e196 Ar198 (j := (Int32.ofNat ((r + g) % 16))) (inb_of S198 (own_inb (Nat.mod_lt _ (by decide)))) (g := (mkF m 130 #[.val (.ref o), .val (.long p1), .second, .val (.int sl), .val (.int (Int32.ofNat ((r + g) % 16))), .val (.int (Int32.ofNat ((r + a) % 16))), .val (.int (Int32.ofNat (own_home (own_F ws r a)))), .val (.int (0 : Int32))] [(.long (own_F ws r a)), (.int (Int32.ofNat ((r + g) % 16))), (.ref t)])) rfl rfl (hb hby d9_130)
            have V' := Arv.set Ar198 q198 S198 N198 H198 G198 rfl W198 ((r + g) % 16) (own_nat (Nat.mod_lt _ (by decide))) (by rw [List.length_map, LL.hl]; exact (Nat.mod_lt _ (by decide)))
            rw [own_set] at V'
            have E_o := E_o.wr W198
            have Fs := Fs.other W198 (Or.inl (Ne.symm ne_t_o))
            have F_size := F_size.other W198 (Or.inl (Ne.symm ne_t_o))
            have Kp := Kp.wr W198 (Or.inl (List.mem_of_getElem? (i := 1) rfl))
            have N198 := Fr.snoc X198 N188 g_t
            have Z_ : n0 ≤ h198.size := by rw [W198.size]; exact Z_
            have V := V'
            refine OwnGo.st st198 ?_
            show OwnGo p e below s _ _ _ T198 (mkF m 131 #[.val (.ref o), .val (.long p1), .second, .val (.int sl), .val (.int (Int32.ofNat ((r + g) % 16))), .val (.int (Int32.ofNat ((r + a) % 16))), .val (.int (Int32.ofNat (own_home (own_F ws r a)))), .val (.int (0 : Int32))] [])
            refine OwnGo.st (fun _ kk => XS.iload X198.here hx rfl (hb hby d9_131) rfl  kk) ?_
            show OwnGo p e below s _ _ _ T198 (mkF m 133 #[.val (.ref o), .val (.long p1), .second, .val (.int sl), .val (.int (Int32.ofNat ((r + g) % 16))), .val (.int (Int32.ofNat ((r + a) % 16))), .val (.int (Int32.ofNat (own_home (own_F ws r a)))), .val (.int (0 : Int32))] [(.int (Int32.ofNat ((r + a) % 16)))])
            refine OwnGo.st (fun _ kk => XS.istore X198.here hx rfl (hb hby d9_133) rfl (l' := #[.val (.ref o), .val (.long p1), .second, .val (.int sl), .val (.int (Int32.ofNat ((r + a) % 16))), .val (.int (Int32.ofNat ((r + a) % 16))), .val (.int (Int32.ofNat (own_home (own_F ws r a)))), .val (.int (0 : Int32))]) rfl kk) ?_
            show OwnGo p e below s _ _ _ T198 (mkF m 135 #[.val (.ref o), .val (.long p1), .second, .val (.int sl), .val (.int (Int32.ofNat ((r + a) % 16))), .val (.int (Int32.ofNat ((r + a) % 16))), .val (.int (Int32.ofNat (own_home (own_F ws r a)))), .val (.int (0 : Int32))] [])
            refine OwnGo.st (fun _ kk => XS.aloadN X198.here hx rfl (hb hby d9_135) rfl rfl  kk) ?_
            show OwnGo p e below s _ _ _ T198 (mkF m 136 #[.val (.ref o), .val (.long p1), .second, .val (.int sl), .val (.int (Int32.ofNat ((r + a) % 16))), .val (.int (Int32.ofNat ((r + a) % 16))), .val (.int (Int32.ofNat (own_home (own_F ws r a)))), .val (.int (0 : Int32))] [(.ref o)])
            refine OwnGo.st (fun _ kk => XS.iload X198.here hx rfl (hb hby d9_136) rfl  kk) ?_
            show OwnGo p e below s _ _ _ T198 (mkF m 138 #[.val (.ref o), .val (.long p1), .second, .val (.int sl), .val (.int (Int32.ofNat ((r + a) % 16))), .val (.int (Int32.ofNat ((r + a) % 16))), .val (.int (Int32.ofNat (own_home (own_F ws r a)))), .val (.int (0 : Int32))] [(.int (Int32.ofNat ((r + a) % 16))), (.ref o)])
            obtain ⟨cq199, q199, q199'⟩ := E_o.cell
            obtain ⟨_, _, ⟨T199, L199, k199, n199⟩, -, X199, ⟨Lc199, hQ199, l199, y199, z199⟩, st199⟩ := X198.privateBack hx (y := (⟨"com/example/utsatt/utsatt/KeyHashes", "next", "(I)I"⟩ : MethodName)) hown (mvT hZ (hw _ (List.mem_of_getElem? (i := 34) rfl))) (mvT hZ (hw _ (List.mem_of_getElem? (i := 35) rfl))) (own_selp (z := (⟨"com/example/utsatt/utsatt/KeyHashes", "add", "(J)Z"⟩ : MethodName)) (mvT hZ (hw _ (List.mem_of_getElem? (i := 19) rfl))) rfl (Cond.privateMethod_at (mvP hZ (hw _ (List.mem_of_getElem? (i := 36) rfl)) (args := #[]))) (mvT hZ (hw _ (List.mem_of_getElem? (i := 35) rfl))) (by decide)) (Cond.privateMethod_at (mvP hZ (hw _ (List.mem_of_getElem? (i := 36) rfl)) (args := #[]))) (mvT hZ (hw _ (List.mem_of_getElem? (i := 37) rfl))) (by decide) (backOf (W := 0) (rmnext l Z a0 hw [] o t kc (ws.set ((r + g) % 16) (own_F ws r a)) ((r + a) % 16) h198 n0 Z_ E_o Fs V LL'.hl (Nat.mod_lt _ (by decide))) hZ (hw _ (List.mem_of_getElem? (i := 37) rfl)) (hw _ (List.mem_of_getElem? (i := 6) rfl)) (by decide) (by decide)) (g := (mkF m 138 #[.val (.ref o), .val (.long p1), .second, .val (.int sl), .val (.int (Int32.ofNat ((r + a) % 16))), .val (.int (Int32.ofNat ((r + a) % 16))), .val (.int (Int32.ofNat (own_home (own_F ws r a)))), .val (.int (0 : Int32))] [(.int (Int32.ofNat ((r + a) % 16))), (.ref o)])) rfl (by rw [hml]; rfl) (Steps.refl _) (a := o) (by rw [e198]; exact q199) q199' (argsL := [(.int (Int32.ofNat ((r + a) % 16)))]) (rest := []) (lenOf pd_0 rfl) rfl (by show 2 * 0 + _ ≤ _; exact Nat.le_of_eq rfl) (hb hby d9_138) (fun _ _ => ⟨rfl, e198, (by decide : 0 + 0 ≤ _), (by decide : 0 + 0 ≤ _)⟩)
            dsimp only [Pt.U, Pt.locs, Pt.cells, Pt.slots] at X199 l199 y199 z199 st199 hQ199
            subst l199 y199 z199
            obtain ⟨rfl, N199q, e199⟩ := hQ199
            have N199 := Fr.app N198 N199q
            refine OwnGo.st (fun _ kk => st199.trans kk) ?_
            show OwnGo p e below s _ _ _ T199 (mkF m 141 #[.val (.ref o), .val (.long p1), .second, .val (.int sl), .val (.int (Int32.ofNat ((r + a) % 16))), .val (.int (Int32.ofNat ((r + a) % 16))), .val (.int (Int32.ofNat (own_home (own_F ws r a)))), .val (.int (0 : Int32))] [(.int (Int32.ofNat (own_nx ((r + a) % 16))))])
            rw [en]
            show OwnGo p e below s _ _ _ T199 (mkF m 141 #[.val (.ref o), .val (.long p1), .second, .val (.int sl), .val (.int (Int32.ofNat ((r + a) % 16))), .val (.int (Int32.ofNat ((r + a) % 16))), .val (.int (Int32.ofNat (own_home (own_F ws r a)))), .val (.int (0 : Int32))] [(.int (Int32.ofNat ((r + (a + 1)) % 16)))])
            refine OwnGo.st (fun _ kk => XS.istore X199.here hx rfl (hb hby d9_141) rfl (l' := #[.val (.ref o), .val (.long p1), .second, .val (.int sl), .val (.int (Int32.ofNat ((r + a) % 16))), .val (.int (Int32.ofNat ((r + (a + 1)) % 16))), .val (.int (Int32.ofNat (own_home (own_F ws r a)))), .val (.int (0 : Int32))]) rfl kk) ?_
            show OwnGo p e below s _ _ _ T199 (mkF m 143 #[.val (.ref o), .val (.long p1), .second, .val (.int sl), .val (.int (Int32.ofNat ((r + a) % 16))), .val (.int (Int32.ofNat ((r + (a + 1)) % 16))), .val (.int (Int32.ofNat (own_home (own_F ws r a)))), .val (.int (0 : Int32))] [])
            refine OwnGo.st (fun _ kk => XS.goto X199.here hx rfl (pc0 := 143) (pc' := 33) rfl (hb hby d9_143) (by decide) (by decide) kk) ?_
            show OwnGo p e below s _ _ _ T199 (mkF m 33 #[.val (.ref o), .val (.long p1), .second, .val (.int sl), .val (.int (Int32.ofNat ((r + a) % 16))), .val (.int (Int32.ofNat ((r + (a + 1)) % 16))), .val (.int (Int32.ofNat (own_home (own_F ws r a)))), .val (.int (0 : Int32))] [])
            exact ih (ws.set ((r + g) % 16) (own_F ws r a)) a (a + 1) h198 _ _ X199 e199 N199 E_o Fs V F_size Z_ LL' (by omega) (Or.inr ⟨_, _, rfl, rfl⟩) Kp
        · refine OwnGo.st (fun _ kk => XS.icmpYes X188.here hx rfl (pc0 := 66) (pc' := 91) rfl (hb hby d9_66) rfl (flt (q66 : ¬ ((Int32.ofNat ((r + g) % 16)) < (Int32.ofNat ((r + a) % 16))))).2.1 (by decide) (by decide) kk) ?_
          show OwnGo p e below s _ _ _ T188 (mkF m 91 #[.val (.ref o), .val (.long p1), .second, .val (.int sl), .val (.int (Int32.ofNat ((r + g) % 16))), .val (.int (Int32.ofNat ((r + a) % 16))), .val (.int (Int32.ofNat (own_home (own_F ws r a)))), .unset] [])
          rw [own_ilt (Nat.mod_lt _ (by decide)) (Nat.mod_lt _ (by decide))] at q66
          refine OwnGo.st (fun _ kk => XS.iload X188.here hx rfl (hb hby d9_91) rfl  kk) ?_
          show OwnGo p e below s _ _ _ T188 (mkF m 93 #[.val (.ref o), .val (.long p1), .second, .val (.int sl), .val (.int (Int32.ofNat ((r + g) % 16))), .val (.int (Int32.ofNat ((r + a) % 16))), .val (.int (Int32.ofNat (own_home (own_F ws r a)))), .unset] [(.int (Int32.ofNat (own_home (own_F ws r a))))])
          refine OwnGo.st (fun _ kk => XS.iload X188.here hx rfl (hb hby d9_93) rfl  kk) ?_
          show OwnGo p e below s _ _ _ T188 (mkF m 95 #[.val (.ref o), .val (.long p1), .second, .val (.int sl), .val (.int (Int32.ofNat ((r + g) % 16))), .val (.int (Int32.ofNat ((r + a) % 16))), .val (.int (Int32.ofNat (own_home (own_F ws r a)))), .unset] [(.int (Int32.ofNat ((r + g) % 16))), (.int (Int32.ofNat (own_home (own_F ws r a))))])
          by_cases q95 : (Int32.ofNat ((r + g) % 16)) < (Int32.ofNat (own_home (own_F ws r a)))
          · refine OwnGo.st (fun _ kk => XS.icmpYes X188.here hx rfl (pc0 := 95) (pc' := 105) rfl (hb hby d9_95) rfl (tlt (q95 : (Int32.ofNat ((r + g) % 16)) < (Int32.ofNat (own_home (own_F ws r a))))).2.2.1 (by decide) (by decide) kk) ?_
            show OwnGo p e below s _ _ _ T188 (mkF m 105 #[.val (.ref o), .val (.long p1), .second, .val (.int sl), .val (.int (Int32.ofNat ((r + g) % 16))), .val (.int (Int32.ofNat ((r + a) % 16))), .val (.int (Int32.ofNat (own_home (own_F ws r a)))), .unset] [])
            rw [own_ilt (Nat.mod_lt _ (by decide)) hm] at q95
            refine OwnGo.st (fun _ kk => XS.iconst X188.here hx rfl (hb hby d9_105) kk) ?_
            show OwnGo p e below s _ _ _ T188 (mkF m 106 #[.val (.ref o), .val (.long p1), .second, .val (.int sl), .val (.int (Int32.ofNat ((r + g) % 16))), .val (.int (Int32.ofNat ((r + a) % 16))), .val (.int (Int32.ofNat (own_home (own_F ws r a)))), .unset] [(.int (1 : Int32))])
            refine OwnGo.st (fun _ kk => XS.goto X188.here hx rfl (pc0 := 106) (pc' := 110) rfl (hb hby d9_106) (by decide) (by decide) kk) ?_
            show OwnGo p e below s _ _ _ T188 (mkF m 110 #[.val (.ref o), .val (.long p1), .second, .val (.int sl), .val (.int (Int32.ofNat ((r + g) % 16))), .val (.int (Int32.ofNat ((r + a) % 16))), .val (.int (Int32.ofNat (own_home (own_F ws r a)))), .unset] [(.int (1 : Int32))])
            refine OwnGo.st (fun _ kk => XS.istore X188.here hx rfl (hb hby d9_110) rfl (l' := #[.val (.ref o), .val (.long p1), .second, .val (.int sl), .val (.int (Int32.ofNat ((r + g) % 16))), .val (.int (Int32.ofNat ((r + a) % 16))), .val (.int (Int32.ofNat (own_home (own_F ws r a)))), .val (.int (1 : Int32))]) rfl kk) ?_
            show OwnGo p e below s _ _ _ T188 (mkF m 112 #[.val (.ref o), .val (.long p1), .second, .val (.int sl), .val (.int (Int32.ofNat ((r + g) % 16))), .val (.int (Int32.ofNat ((r + a) % 16))), .val (.int (Int32.ofNat (own_home (own_F ws r a)))), .val (.int (1 : Int32))] [])
            refine OwnGo.st (fun _ kk => XS.iload X188.here hx rfl (hb hby d9_112) rfl  kk) ?_
            show OwnGo p e below s _ _ _ T188 (mkF m 114 #[.val (.ref o), .val (.long p1), .second, .val (.int sl), .val (.int (Int32.ofNat ((r + g) % 16))), .val (.int (Int32.ofNat ((r + a) % 16))), .val (.int (Int32.ofNat (own_home (own_F ws r a)))), .val (.int (1 : Int32))] [(.int (1 : Int32))])
            have hin : g < own_H r (own_F ws r a) ∧ own_H r (own_F ws r a) ≤ a := cyc.1 (by omega)
            have LL' := own_L_in LL hz0 hin
            refine OwnGo.st (fun _ kk => XS.ifYes X188.here hx rfl (pc0 := 114) (pc' := 135) rfl (hb hby d9_114) rfl ((if0 _ _).trans (feq ((by decide) : ¬ ((1 : Int32) = (0 : Int32)))).2) (by decide) (by decide) kk) ?_
            show OwnGo p e below s _ _ _ T188 (mkF m 135 #[.val (.ref o), .val (.long p1), .second, .val (.int sl), .val (.int (Int32.ofNat ((r + g) % 16))), .val (.int (Int32.ofNat ((r + a) % 16))), .val (.int (Int32.ofNat (own_home (own_F ws r a)))), .val (.int (1 : Int32))] [])
            refine OwnGo.st (fun _ kk => XS.aloadN X188.here hx rfl (hb hby d9_135) rfl rfl  kk) ?_
            show OwnGo p e below s _ _ _ T188 (mkF m 136 #[.val (.ref o), .val (.long p1), .second, .val (.int sl), .val (.int (Int32.ofNat ((r + g) % 16))), .val (.int (Int32.ofNat ((r + a) % 16))), .val (.int (Int32.ofNat (own_home (own_F ws r a)))), .val (.int (1 : Int32))] [(.ref o)])
            refine OwnGo.st (fun _ kk => XS.iload X188.here hx rfl (hb hby d9_136) rfl  kk) ?_
            show OwnGo p e below s _ _ _ T188 (mkF m 138 #[.val (.ref o), .val (.long p1), .second, .val (.int sl), .val (.int (Int32.ofNat ((r + g) % 16))), .val (.int (Int32.ofNat ((r + a) % 16))), .val (.int (Int32.ofNat (own_home (own_F ws r a)))), .val (.int (1 : Int32))] [(.int (Int32.ofNat ((r + a) % 16))), (.ref o)])
            obtain ⟨cq200, q200, q200'⟩ := E_o.cell
            obtain ⟨_, _, ⟨T200, L200, k200, n200⟩, -, X200, ⟨Lc200, hQ200, l200, y200, z200⟩, st200⟩ := X188.privateBack hx (y := (⟨"com/example/utsatt/utsatt/KeyHashes", "next", "(I)I"⟩ : MethodName)) hown (mvT hZ (hw _ (List.mem_of_getElem? (i := 34) rfl))) (mvT hZ (hw _ (List.mem_of_getElem? (i := 35) rfl))) (own_selp (z := (⟨"com/example/utsatt/utsatt/KeyHashes", "add", "(J)Z"⟩ : MethodName)) (mvT hZ (hw _ (List.mem_of_getElem? (i := 19) rfl))) rfl (Cond.privateMethod_at (mvP hZ (hw _ (List.mem_of_getElem? (i := 36) rfl)) (args := #[]))) (mvT hZ (hw _ (List.mem_of_getElem? (i := 35) rfl))) (by decide)) (Cond.privateMethod_at (mvP hZ (hw _ (List.mem_of_getElem? (i := 36) rfl)) (args := #[]))) (mvT hZ (hw _ (List.mem_of_getElem? (i := 37) rfl))) (by decide) (backOf (W := 0) (rmnext l Z a0 hw [] o t kc ws ((r + a) % 16) h1 n0 Z_ E_o Fs V LL'.hl (Nat.mod_lt _ (by decide))) hZ (hw _ (List.mem_of_getElem? (i := 37) rfl)) (hw _ (List.mem_of_getElem? (i := 6) rfl)) (by decide) (by decide)) (g := (mkF m 138 #[.val (.ref o), .val (.long p1), .second, .val (.int sl), .val (.int (Int32.ofNat ((r + g) % 16))), .val (.int (Int32.ofNat ((r + a) % 16))), .val (.int (Int32.ofNat (own_home (own_F ws r a)))), .val (.int (1 : Int32))] [(.int (Int32.ofNat ((r + a) % 16))), (.ref o)])) rfl (by rw [hml]; rfl) (Steps.refl _) (a := o) (by rw [e188]; exact q200) q200' (argsL := [(.int (Int32.ofNat ((r + a) % 16)))]) (rest := []) (lenOf pd_0 rfl) rfl (by show 2 * 0 + _ ≤ _; exact Nat.le_of_eq rfl) (hb hby d9_138) (fun _ _ => ⟨rfl, e188, (by decide : 0 + 0 ≤ _), (by decide : 0 + 0 ≤ _)⟩)
            dsimp only [Pt.U, Pt.locs, Pt.cells, Pt.slots] at X200 l200 y200 z200 st200 hQ200
            subst l200 y200 z200
            obtain ⟨rfl, N200q, e200⟩ := hQ200
            have N200 := Fr.app N188 N200q
            refine OwnGo.st (fun _ kk => st200.trans kk) ?_
            show OwnGo p e below s _ _ _ T200 (mkF m 141 #[.val (.ref o), .val (.long p1), .second, .val (.int sl), .val (.int (Int32.ofNat ((r + g) % 16))), .val (.int (Int32.ofNat ((r + a) % 16))), .val (.int (Int32.ofNat (own_home (own_F ws r a)))), .val (.int (1 : Int32))] [(.int (Int32.ofNat (own_nx ((r + a) % 16))))])
            rw [en]
            show OwnGo p e below s _ _ _ T200 (mkF m 141 #[.val (.ref o), .val (.long p1), .second, .val (.int sl), .val (.int (Int32.ofNat ((r + g) % 16))), .val (.int (Int32.ofNat ((r + a) % 16))), .val (.int (Int32.ofNat (own_home (own_F ws r a)))), .val (.int (1 : Int32))] [(.int (Int32.ofNat ((r + (a + 1)) % 16)))])
            refine OwnGo.st (fun _ kk => XS.istore X200.here hx rfl (hb hby d9_141) rfl (l' := #[.val (.ref o), .val (.long p1), .second, .val (.int sl), .val (.int (Int32.ofNat ((r + g) % 16))), .val (.int (Int32.ofNat ((r + (a + 1)) % 16))), .val (.int (Int32.ofNat (own_home (own_F ws r a)))), .val (.int (1 : Int32))]) rfl kk) ?_
            show OwnGo p e below s _ _ _ T200 (mkF m 143 #[.val (.ref o), .val (.long p1), .second, .val (.int sl), .val (.int (Int32.ofNat ((r + g) % 16))), .val (.int (Int32.ofNat ((r + (a + 1)) % 16))), .val (.int (Int32.ofNat (own_home (own_F ws r a)))), .val (.int (1 : Int32))] [])
            refine OwnGo.st (fun _ kk => XS.goto X200.here hx rfl (pc0 := 143) (pc' := 33) rfl (hb hby d9_143) (by decide) (by decide) kk) ?_
            show OwnGo p e below s _ _ _ T200 (mkF m 33 #[.val (.ref o), .val (.long p1), .second, .val (.int sl), .val (.int (Int32.ofNat ((r + g) % 16))), .val (.int (Int32.ofNat ((r + (a + 1)) % 16))), .val (.int (Int32.ofNat (own_home (own_F ws r a)))), .val (.int (1 : Int32))] [])
            exact ih ws g (a + 1) h1 _ _ X200 e200 N200 E_o Fs V F_size Z_ LL' (by omega) (Or.inr ⟨_, _, rfl, rfl⟩) Kp
          · refine OwnGo.st (fun _ kk => XS.icmpNo X188.here hx rfl (hb hby d9_95) rfl (flt (q95 : ¬ ((Int32.ofNat ((r + g) % 16)) < (Int32.ofNat (own_home (own_F ws r a)))))).2.2.1 kk) ?_
            show OwnGo p e below s _ _ _ T188 (mkF m 98 #[.val (.ref o), .val (.long p1), .second, .val (.int sl), .val (.int (Int32.ofNat ((r + g) % 16))), .val (.int (Int32.ofNat ((r + a) % 16))), .val (.int (Int32.ofNat (own_home (own_F ws r a)))), .unset] [])
            rw [own_ilt (Nat.mod_lt _ (by decide)) hm] at q95
            refine OwnGo.st (fun _ kk => XS.iload X188.here hx rfl (hb hby d9_98) rfl  kk) ?_
            show OwnGo p e below s _ _ _ T188 (mkF m 100 #[.val (.ref o), .val (.long p1), .second, .val (.int sl), .val (.int (Int32.ofNat ((r + g) % 16))), .val (.int (Int32.ofNat ((r + a) % 16))), .val (.int (Int32.ofNat (own_home (own_F ws r a)))), .unset] [(.int (Int32.ofNat (own_home (own_F ws r a))))])
            refine OwnGo.st (fun _ kk => XS.iload X188.here hx rfl (hb hby d9_100) rfl  kk) ?_
            show OwnGo p e below s _ _ _ T188 (mkF m 102 #[.val (.ref o), .val (.long p1), .second, .val (.int sl), .val (.int (Int32.ofNat ((r + g) % 16))), .val (.int (Int32.ofNat ((r + a) % 16))), .val (.int (Int32.ofNat (own_home (own_F ws r a)))), .unset] [(.int (Int32.ofNat ((r + a) % 16))), (.int (Int32.ofNat (own_home (own_F ws r a))))])
            by_cases q102 : (Int32.ofNat ((r + a) % 16)) < (Int32.ofNat (own_home (own_F ws r a)))
            · refine OwnGo.st (fun _ kk => XS.icmpYes X188.here hx rfl (pc0 := 102) (pc' := 109) rfl (hb hby d9_102) rfl (tlt (q102 : (Int32.ofNat ((r + a) % 16)) < (Int32.ofNat (own_home (own_F ws r a))))).2.2.1 (by decide) (by decide) kk) ?_
              show OwnGo p e below s _ _ _ T188 (mkF m 109 #[.val (.ref o), .val (.long p1), .second, .val (.int sl), .val (.int (Int32.ofNat ((r + g) % 16))), .val (.int (Int32.ofNat ((r + a) % 16))), .val (.int (Int32.ofNat (own_home (own_F ws r a)))), .unset] [])
              rw [own_ilt (Nat.mod_lt _ (by decide)) hm] at q102
              refine OwnGo.st (fun _ kk => XS.iconst X188.here hx rfl (hb hby d9_109) kk) ?_
              show OwnGo p e below s _ _ _ T188 (mkF m 110 #[.val (.ref o), .val (.long p1), .second, .val (.int sl), .val (.int (Int32.ofNat ((r + g) % 16))), .val (.int (Int32.ofNat ((r + a) % 16))), .val (.int (Int32.ofNat (own_home (own_F ws r a)))), .unset] [(.int (0 : Int32))])
              refine OwnGo.st (fun _ kk => XS.istore X188.here hx rfl (hb hby d9_110) rfl (l' := #[.val (.ref o), .val (.long p1), .second, .val (.int sl), .val (.int (Int32.ofNat ((r + g) % 16))), .val (.int (Int32.ofNat ((r + a) % 16))), .val (.int (Int32.ofNat (own_home (own_F ws r a)))), .val (.int (0 : Int32))]) rfl kk) ?_
              show OwnGo p e below s _ _ _ T188 (mkF m 112 #[.val (.ref o), .val (.long p1), .second, .val (.int sl), .val (.int (Int32.ofNat ((r + g) % 16))), .val (.int (Int32.ofNat ((r + a) % 16))), .val (.int (Int32.ofNat (own_home (own_F ws r a)))), .val (.int (0 : Int32))] [])
              refine OwnGo.st (fun _ kk => XS.iload X188.here hx rfl (hb hby d9_112) rfl  kk) ?_
              show OwnGo p e below s _ _ _ T188 (mkF m 114 #[.val (.ref o), .val (.long p1), .second, .val (.int sl), .val (.int (Int32.ofNat ((r + g) % 16))), .val (.int (Int32.ofNat ((r + a) % 16))), .val (.int (Int32.ofNat (own_home (own_F ws r a)))), .val (.int (0 : Int32))] [(.int (0 : Int32))])
              have hin : ¬ (g < own_H r (own_F ws r a) ∧ own_H r (own_F ws r a) ≤ a) := fun z => absurd (cyc.2 z) (by omega)
              have LL' := own_L_out LL hz0 hin
              refine OwnGo.st (fun _ kk => XS.ifNo X188.here hx rfl (hb hby d9_114) rfl ((if0 _ _).trans (teq ((by decide) : (0 : Int32) = (0 : Int32))).2) kk) ?_
              show OwnGo p e below s _ _ _ T188 (mkF m 117 #[.val (.ref o), .val (.long p1), .second, .val (.int sl), .val (.int (Int32.ofNat ((r + g) % 16))), .val (.int (Int32.ofNat ((r + a) % 16))), .val (.int (Int32.ofNat (own_home (own_F ws r a)))), .val (.int (0 : Int32))] [])
              refine OwnGo.st (fun _ kk => XS.aloadN X188.here hx rfl (hb hby d9_117) rfl rfl  kk) ?_
              show OwnGo p e below s _ _ _ T188 (mkF m 118 #[.val (.ref o), .val (.long p1), .second, .val (.int sl), .val (.int (Int32.ofNat ((r + g) % 16))), .val (.int (Int32.ofNat ((r + a) % 16))), .val (.int (Int32.ofNat (own_home (own_F ws r a)))), .val (.int (0 : Int32))] [(.ref o)])
              obtain ⟨T201, X201, e201, st201⟩ := getF X188 hx hZ hown (host := "") (Or.inl (hw _ (List.mem_of_getElem? (i := 14) rfl))) Via.refl e188 Fs (g := (mkF m 118 #[.val (.ref o), .val (.long p1), .second, .val (.int sl), .val (.int (Int32.ofNat ((r + g) % 16))), .val (.int (Int32.ofNat ((r + a) % 16))), .val (.int (Int32.ofNat (own_home (own_F ws r a)))), .val (.int (0 : Int32))] [(.ref o)])) rfl rfl (hb hby d9_118)
              refine OwnGo.st st201 ?_
              show OwnGo p e below s _ _ _ T201 (mkF m 121 #[.val (.ref o), .val (.long p1), .second, .val (.int sl), .val (.int (Int32.ofNat ((r + g) % 16))), .val (.int (Int32.ofNat ((r + a) % 16))), .val (.int (Int32.ofNat (own_home (own_F ws r a)))), .val (.int (0 : Int32))] [(.ref t)])
              refine OwnGo.st (fun _ kk => XS.iload X201.here hx rfl (hb hby d9_121) rfl  kk) ?_
              show OwnGo p e below s _ _ _ T201 (mkF m 123 #[.val (.ref o), .val (.long p1), .second, .val (.int sl), .val (.int (Int32.ofNat ((r + g) % 16))), .val (.int (Int32.ofNat ((r + a) % 16))), .val (.int (Int32.ofNat (own_home (own_F ws r a)))), .val (.int (0 : Int32))] [(.int (Int32.ofNat ((r + g) % 16))), (.ref t)])
              refine OwnGo.st (fun _ kk => XS.aloadN X201.here hx rfl (hb hby d9_123) rfl rfl  kk) ?_
              show OwnGo p e below s _ _ _ T201 (mkF m 124 #[.val (.ref o), .val (.long p1), .second, .val (.int sl), .val (.int (Int32.ofNat ((r + g) % 16))), .val (.int (Int32.ofNat ((r + a) % 16))), .val (.int (Int32.ofNat (own_home (own_F ws r a)))), .val (.int (0 : Int32))] [(.ref o), (.int (Int32.ofNat ((r + g) % 16))), (.ref t)])
              obtain ⟨T202, X202, e202, st202⟩ := getF X201 hx hZ hown (host := "") (Or.inl (hw _ (List.mem_of_getElem? (i := 14) rfl))) Via.refl e201 Fs (g := (mkF m 124 #[.val (.ref o), .val (.long p1), .second, .val (.int sl), .val (.int (Int32.ofNat ((r + g) % 16))), .val (.int (Int32.ofNat ((r + a) % 16))), .val (.int (Int32.ofNat (own_home (own_F ws r a)))), .val (.int (0 : Int32))] [(.ref o), (.int (Int32.ofNat ((r + g) % 16))), (.ref t)])) rfl rfl (hb hby d9_124)
              refine OwnGo.st st202 ?_
              show OwnGo p e below s _ _ _ T202 (mkF m 127 #[.val (.ref o), .val (.long p1), .second, .val (.int sl), .val (.int (Int32.ofNat ((r + g) % 16))), .val (.int (Int32.ofNat ((r + a) % 16))), .val (.int (Int32.ofNat (own_home (own_F ws r a)))), .val (.int (0 : Int32))] [(.ref t), (.int (Int32.ofNat ((r + g) % 16))), (.ref t)])
              refine OwnGo.st (fun _ kk => XS.iload X202.here hx rfl (hb hby d9_127) rfl  kk) ?_
              show OwnGo p e below s _ _ _ T202 (mkF m 129 #[.val (.ref o), .val (.long p1), .second, .val (.int sl), .val (.int (Int32.ofNat ((r + g) % 16))), .val (.int (Int32.ofNat ((r + a) % 16))), .val (.int (Int32.ofNat (own_home (own_F ws r a)))), .val (.int (0 : Int32))] [(.int (Int32.ofNat ((r + a) % 16))), (.ref t), (.int (Int32.ofNat ((r + g) % 16))), (.ref t)])
              obtain ⟨cl203, Ar203, -, S203, -, H203, -⟩ := id V
              have hin203 : ¬ ((Int32.ofNat ((r + a) % 16)) < 0 ∨ cl203.slots.size ≤ ((Int32.ofNat ((r + a) % 16))).toNatClampNeg) := inb_of S203 (own_inb (Nat.mod_lt _ (by decide)))
              refine OwnGo.st (fun _ kk => X202.laload hx (j := (Int32.ofNat ((r + a) % 16))) (v := (.long (own_F ws r a))) (by first | exact Ar203.1 | (rw [e202]; exact Ar203.1)) (State.isArrayOf_alike hZ.alike Ar203.2.1) Ar203.2.2 hin203 (H203.at hin203 (own_get LL.hl (Nat.mod_lt _ (by decide)))) (g := (mkF m 129 #[.val (.ref o), .val (.long p1), .second, .val (.int sl), .val (.int (Int32.ofNat ((r + g) % 16))), .val (.int (Int32.ofNat ((r + a) % 16))), .val (.int (Int32.ofNat (own_home (own_F ws r a)))), .val (.int (0 : Int32))] [(.int (Int32.ofNat ((r + a) % 16))), (.ref t), (.int (Int32.ofNat ((r + g) % 16))), (.ref t)])) rfl rfl (hb hby d9_129) _ kk) ?_
              show OwnGo p e below s _ _ _ T202 (mkF m 130 #[.val (.ref o), .val (.long p1), .second, .val (.int sl), .val (.int (Int32.ofNat ((r + g) % 16))), .val (.int (Int32.ofNat ((r + a) % 16))), .val (.int (Int32.ofNat (own_home (own_F ws r a)))), .val (.int (0 : Int32))] [(.long (own_F ws r a)), (.int (Int32.ofNat ((r + g) % 16))), (.ref t)])
              obtain ⟨cl204, Ar204, q204, S204, N204, H204, G204⟩ := id V
              obtain ⟨T204, h204, X204, e204, W204, st204⟩ := stJ X202 hx hZ e202 Ar204 (j := (Int32.ofNat ((r + g) % 16))) (inb_of S204 (own_inb (Nat.mod_lt _ (by decide)))) (g := (mkF m 130 #[.val (.ref o), .val (.long p1), .second, .val (.int sl), .val (.int (Int32.ofNat ((r + g) % 16))), .val (.int (Int32.ofNat ((r + a) % 16))), .val (.int (Int32.ofNat (own_home (own_F ws r a)))), .val (.int (0 : Int32))] [(.long (own_F ws r a)), (.int (Int32.ofNat ((r + g) % 16))), (.ref t)])) rfl rfl (hb hby d9_130)
              have V' := Arv.set Ar204 q204 S204 N204 H204 G204 rfl W204 ((r + g) % 16) (own_nat (Nat.mod_lt _ (by decide))) (by rw [List.length_map, LL.hl]; exact (Nat.mod_lt _ (by decide)))
              rw [own_set] at V'
              have E_o := E_o.wr W204
              have Fs := Fs.other W204 (Or.inl (Ne.symm ne_t_o))
              have F_size := F_size.other W204 (Or.inl (Ne.symm ne_t_o))
              have Kp := Kp.wr W204 (Or.inl (List.mem_of_getElem? (i := 1) rfl))
              have N204 := Fr.snoc X204 N188 g_t
              have Z_ : n0 ≤ h204.size := by rw [W204.size]; exact Z_
              have V := V'
              refine OwnGo.st st204 ?_
              show OwnGo p e below s _ _ _ T204 (mkF m 131 #[.val (.ref o), .val (.long p1), .second, .val (.int sl), .val (.int (Int32.ofNat ((r + g) % 16))), .val (.int (Int32.ofNat ((r + a) % 16))), .val (.int (Int32.ofNat (own_home (own_F ws r a)))), .val (.int (0 : Int32))] [])
              refine OwnGo.st (fun _ kk => XS.iload X204.here hx rfl (hb hby d9_131) rfl  kk) ?_
              show OwnGo p e below s _ _ _ T204 (mkF m 133 #[.val (.ref o), .val (.long p1), .second, .val (.int sl), .val (.int (Int32.ofNat ((r + g) % 16))), .val (.int (Int32.ofNat ((r + a) % 16))), .val (.int (Int32.ofNat (own_home (own_F ws r a)))), .val (.int (0 : Int32))] [(.int (Int32.ofNat ((r + a) % 16)))])
              refine OwnGo.st (fun _ kk => XS.istore X204.here hx rfl (hb hby d9_133) rfl (l' := #[.val (.ref o), .val (.long p1), .second, .val (.int sl), .val (.int (Int32.ofNat ((r + a) % 16))), .val (.int (Int32.ofNat ((r + a) % 16))), .val (.int (Int32.ofNat (own_home (own_F ws r a)))), .val (.int (0 : Int32))]) rfl kk) ?_
              show OwnGo p e below s _ _ _ T204 (mkF m 135 #[.val (.ref o), .val (.long p1), .second, .val (.int sl), .val (.int (Int32.ofNat ((r + a) % 16))), .val (.int (Int32.ofNat ((r + a) % 16))), .val (.int (Int32.ofNat (own_home (own_F ws r a)))), .val (.int (0 : Int32))] [])
              refine OwnGo.st (fun _ kk => XS.aloadN X204.here hx rfl (hb hby d9_135) rfl rfl  kk) ?_
              show OwnGo p e below s _ _ _ T204 (mkF m 136 #[.val (.ref o), .val (.long p1), .second, .val (.int sl), .val (.int (Int32.ofNat ((r + a) % 16))), .val (.int (Int32.ofNat ((r + a) % 16))), .val (.int (Int32.ofNat (own_home (own_F ws r a)))), .val (.int (0 : Int32))] [(.ref o)])
              refine OwnGo.st (fun _ kk => XS.iload X204.here hx rfl (hb hby d9_136) rfl  kk) ?_
              show OwnGo p e below s _ _ _ T204 (mkF m 138 #[.val (.ref o), .val (.long p1), .second, .val (.int sl), .val (.int (Int32.ofNat ((r + a) % 16))), .val (.int (Int32.ofNat ((r + a) % 16))), .val (.int (Int32.ofNat (own_home (own_F ws r a)))), .val (.int (0 : Int32))] [(.int (Int32.ofNat ((r + a) % 16))), (.ref o)])
              obtain ⟨cq205, q205, q205'⟩ := E_o.cell
              obtain ⟨_, _, ⟨T205, L205, k205, n205⟩, -, X205, ⟨Lc205, hQ205, l205, y205, z205⟩, st205⟩ := X204.privateBack hx (y := (⟨"com/example/utsatt/utsatt/KeyHashes", "next", "(I)I"⟩ : MethodName)) hown (mvT hZ (hw _ (List.mem_of_getElem? (i := 34) rfl))) (mvT hZ (hw _ (List.mem_of_getElem? (i := 35) rfl))) (own_selp (z := (⟨"com/example/utsatt/utsatt/KeyHashes", "add", "(J)Z"⟩ : MethodName)) (mvT hZ (hw _ (List.mem_of_getElem? (i := 19) rfl))) rfl (Cond.privateMethod_at (mvP hZ (hw _ (List.mem_of_getElem? (i := 36) rfl)) (args := #[]))) (mvT hZ (hw _ (List.mem_of_getElem? (i := 35) rfl))) (by decide)) (Cond.privateMethod_at (mvP hZ (hw _ (List.mem_of_getElem? (i := 36) rfl)) (args := #[]))) (mvT hZ (hw _ (List.mem_of_getElem? (i := 37) rfl))) (by decide) (backOf (W := 0) (rmnext l Z a0 hw [] o t kc (ws.set ((r + g) % 16) (own_F ws r a)) ((r + a) % 16) h204 n0 Z_ E_o Fs V LL'.hl (Nat.mod_lt _ (by decide))) hZ (hw _ (List.mem_of_getElem? (i := 37) rfl)) (hw _ (List.mem_of_getElem? (i := 6) rfl)) (by decide) (by decide)) (g := (mkF m 138 #[.val (.ref o), .val (.long p1), .second, .val (.int sl), .val (.int (Int32.ofNat ((r + a) % 16))), .val (.int (Int32.ofNat ((r + a) % 16))), .val (.int (Int32.ofNat (own_home (own_F ws r a)))), .val (.int (0 : Int32))] [(.int (Int32.ofNat ((r + a) % 16))), (.ref o)])) rfl (by rw [hml]; rfl) (Steps.refl _) (a := o) (by rw [e204]; exact q205) q205' (argsL := [(.int (Int32.ofNat ((r + a) % 16)))]) (rest := []) (lenOf pd_0 rfl) rfl (by show 2 * 0 + _ ≤ _; exact Nat.le_of_eq rfl) (hb hby d9_138) (fun _ _ => ⟨rfl, e204, (by decide : 0 + 0 ≤ _), (by decide : 0 + 0 ≤ _)⟩)
              dsimp only [Pt.U, Pt.locs, Pt.cells, Pt.slots] at X205 l205 y205 z205 st205 hQ205
              subst l205 y205 z205
              obtain ⟨rfl, N205q, e205⟩ := hQ205
              have N205 := Fr.app N204 N205q
              refine OwnGo.st (fun _ kk => st205.trans kk) ?_
              show OwnGo p e below s _ _ _ T205 (mkF m 141 #[.val (.ref o), .val (.long p1), .second, .val (.int sl), .val (.int (Int32.ofNat ((r + a) % 16))), .val (.int (Int32.ofNat ((r + a) % 16))), .val (.int (Int32.ofNat (own_home (own_F ws r a)))), .val (.int (0 : Int32))] [(.int (Int32.ofNat (own_nx ((r + a) % 16))))])
              rw [en]
              show OwnGo p e below s _ _ _ T205 (mkF m 141 #[.val (.ref o), .val (.long p1), .second, .val (.int sl), .val (.int (Int32.ofNat ((r + a) % 16))), .val (.int (Int32.ofNat ((r + a) % 16))), .val (.int (Int32.ofNat (own_home (own_F ws r a)))), .val (.int (0 : Int32))] [(.int (Int32.ofNat ((r + (a + 1)) % 16)))])
              refine OwnGo.st (fun _ kk => XS.istore X205.here hx rfl (hb hby d9_141) rfl (l' := #[.val (.ref o), .val (.long p1), .second, .val (.int sl), .val (.int (Int32.ofNat ((r + a) % 16))), .val (.int (Int32.ofNat ((r + (a + 1)) % 16))), .val (.int (Int32.ofNat (own_home (own_F ws r a)))), .val (.int (0 : Int32))]) rfl kk) ?_
              show OwnGo p e below s _ _ _ T205 (mkF m 143 #[.val (.ref o), .val (.long p1), .second, .val (.int sl), .val (.int (Int32.ofNat ((r + a) % 16))), .val (.int (Int32.ofNat ((r + (a + 1)) % 16))), .val (.int (Int32.ofNat (own_home (own_F ws r a)))), .val (.int (0 : Int32))] [])
              refine OwnGo.st (fun _ kk => XS.goto X205.here hx rfl (pc0 := 143) (pc' := 33) rfl (hb hby d9_143) (by decide) (by decide) kk) ?_
              show OwnGo p e below s _ _ _ T205 (mkF m 33 #[.val (.ref o), .val (.long p1), .second, .val (.int sl), .val (.int (Int32.ofNat ((r + a) % 16))), .val (.int (Int32.ofNat ((r + (a + 1)) % 16))), .val (.int (Int32.ofNat (own_home (own_F ws r a)))), .val (.int (0 : Int32))] [])
              exact ih (ws.set ((r + g) % 16) (own_F ws r a)) a (a + 1) h204 _ _ X205 e205 N205 E_o Fs V F_size Z_ LL' (by omega) (Or.inr ⟨_, _, rfl, rfl⟩) Kp
            · refine OwnGo.st (fun _ kk => XS.icmpNo X188.here hx rfl (hb hby d9_102) rfl (flt (q102 : ¬ ((Int32.ofNat ((r + a) % 16)) < (Int32.ofNat (own_home (own_F ws r a)))))).2.2.1 kk) ?_
              show OwnGo p e below s _ _ _ T188 (mkF m 105 #[.val (.ref o), .val (.long p1), .second, .val (.int sl), .val (.int (Int32.ofNat ((r + g) % 16))), .val (.int (Int32.ofNat ((r + a) % 16))), .val (.int (Int32.ofNat (own_home (own_F ws r a)))), .unset] [])
              rw [own_ilt (Nat.mod_lt _ (by decide)) hm] at q102
              refine OwnGo.st (fun _ kk => XS.iconst X188.here hx rfl (hb hby d9_105) kk) ?_
              show OwnGo p e below s _ _ _ T188 (mkF m 106 #[.val (.ref o), .val (.long p1), .second, .val (.int sl), .val (.int (Int32.ofNat ((r + g) % 16))), .val (.int (Int32.ofNat ((r + a) % 16))), .val (.int (Int32.ofNat (own_home (own_F ws r a)))), .unset] [(.int (1 : Int32))])
              refine OwnGo.st (fun _ kk => XS.goto X188.here hx rfl (pc0 := 106) (pc' := 110) rfl (hb hby d9_106) (by decide) (by decide) kk) ?_
              show OwnGo p e below s _ _ _ T188 (mkF m 110 #[.val (.ref o), .val (.long p1), .second, .val (.int sl), .val (.int (Int32.ofNat ((r + g) % 16))), .val (.int (Int32.ofNat ((r + a) % 16))), .val (.int (Int32.ofNat (own_home (own_F ws r a)))), .unset] [(.int (1 : Int32))])
              refine OwnGo.st (fun _ kk => XS.istore X188.here hx rfl (hb hby d9_110) rfl (l' := #[.val (.ref o), .val (.long p1), .second, .val (.int sl), .val (.int (Int32.ofNat ((r + g) % 16))), .val (.int (Int32.ofNat ((r + a) % 16))), .val (.int (Int32.ofNat (own_home (own_F ws r a)))), .val (.int (1 : Int32))]) rfl kk) ?_
              show OwnGo p e below s _ _ _ T188 (mkF m 112 #[.val (.ref o), .val (.long p1), .second, .val (.int sl), .val (.int (Int32.ofNat ((r + g) % 16))), .val (.int (Int32.ofNat ((r + a) % 16))), .val (.int (Int32.ofNat (own_home (own_F ws r a)))), .val (.int (1 : Int32))] [])
              refine OwnGo.st (fun _ kk => XS.iload X188.here hx rfl (hb hby d9_112) rfl  kk) ?_
              show OwnGo p e below s _ _ _ T188 (mkF m 114 #[.val (.ref o), .val (.long p1), .second, .val (.int sl), .val (.int (Int32.ofNat ((r + g) % 16))), .val (.int (Int32.ofNat ((r + a) % 16))), .val (.int (Int32.ofNat (own_home (own_F ws r a)))), .val (.int (1 : Int32))] [(.int (1 : Int32))])
              have hin : g < own_H r (own_F ws r a) ∧ own_H r (own_F ws r a) ≤ a := cyc.1 (by omega)
              have LL' := own_L_in LL hz0 hin
              refine OwnGo.st (fun _ kk => XS.ifYes X188.here hx rfl (pc0 := 114) (pc' := 135) rfl (hb hby d9_114) rfl ((if0 _ _).trans (feq ((by decide) : ¬ ((1 : Int32) = (0 : Int32)))).2) (by decide) (by decide) kk) ?_
              show OwnGo p e below s _ _ _ T188 (mkF m 135 #[.val (.ref o), .val (.long p1), .second, .val (.int sl), .val (.int (Int32.ofNat ((r + g) % 16))), .val (.int (Int32.ofNat ((r + a) % 16))), .val (.int (Int32.ofNat (own_home (own_F ws r a)))), .val (.int (1 : Int32))] [])
              refine OwnGo.st (fun _ kk => XS.aloadN X188.here hx rfl (hb hby d9_135) rfl rfl  kk) ?_
              show OwnGo p e below s _ _ _ T188 (mkF m 136 #[.val (.ref o), .val (.long p1), .second, .val (.int sl), .val (.int (Int32.ofNat ((r + g) % 16))), .val (.int (Int32.ofNat ((r + a) % 16))), .val (.int (Int32.ofNat (own_home (own_F ws r a)))), .val (.int (1 : Int32))] [(.ref o)])
              refine OwnGo.st (fun _ kk => XS.iload X188.here hx rfl (hb hby d9_136) rfl  kk) ?_
              show OwnGo p e below s _ _ _ T188 (mkF m 138 #[.val (.ref o), .val (.long p1), .second, .val (.int sl), .val (.int (Int32.ofNat ((r + g) % 16))), .val (.int (Int32.ofNat ((r + a) % 16))), .val (.int (Int32.ofNat (own_home (own_F ws r a)))), .val (.int (1 : Int32))] [(.int (Int32.ofNat ((r + a) % 16))), (.ref o)])
              obtain ⟨cq206, q206, q206'⟩ := E_o.cell
              obtain ⟨_, _, ⟨T206, L206, k206, n206⟩, -, X206, ⟨Lc206, hQ206, l206, y206, z206⟩, st206⟩ := X188.privateBack hx (y := (⟨"com/example/utsatt/utsatt/KeyHashes", "next", "(I)I"⟩ : MethodName)) hown (mvT hZ (hw _ (List.mem_of_getElem? (i := 34) rfl))) (mvT hZ (hw _ (List.mem_of_getElem? (i := 35) rfl))) (own_selp (z := (⟨"com/example/utsatt/utsatt/KeyHashes", "add", "(J)Z"⟩ : MethodName)) (mvT hZ (hw _ (List.mem_of_getElem? (i := 19) rfl))) rfl (Cond.privateMethod_at (mvP hZ (hw _ (List.mem_of_getElem? (i := 36) rfl)) (args := #[]))) (mvT hZ (hw _ (List.mem_of_getElem? (i := 35) rfl))) (by decide)) (Cond.privateMethod_at (mvP hZ (hw _ (List.mem_of_getElem? (i := 36) rfl)) (args := #[]))) (mvT hZ (hw _ (List.mem_of_getElem? (i := 37) rfl))) (by decide) (backOf (W := 0) (rmnext l Z a0 hw [] o t kc ws ((r + a) % 16) h1 n0 Z_ E_o Fs V LL'.hl (Nat.mod_lt _ (by decide))) hZ (hw _ (List.mem_of_getElem? (i := 37) rfl)) (hw _ (List.mem_of_getElem? (i := 6) rfl)) (by decide) (by decide)) (g := (mkF m 138 #[.val (.ref o), .val (.long p1), .second, .val (.int sl), .val (.int (Int32.ofNat ((r + g) % 16))), .val (.int (Int32.ofNat ((r + a) % 16))), .val (.int (Int32.ofNat (own_home (own_F ws r a)))), .val (.int (1 : Int32))] [(.int (Int32.ofNat ((r + a) % 16))), (.ref o)])) rfl (by rw [hml]; rfl) (Steps.refl _) (a := o) (by rw [e188]; exact q206) q206' (argsL := [(.int (Int32.ofNat ((r + a) % 16)))]) (rest := []) (lenOf pd_0 rfl) rfl (by show 2 * 0 + _ ≤ _; exact Nat.le_of_eq rfl) (hb hby d9_138) (fun _ _ => ⟨rfl, e188, (by decide : 0 + 0 ≤ _), (by decide : 0 + 0 ≤ _)⟩)
              dsimp only [Pt.U, Pt.locs, Pt.cells, Pt.slots] at X206 l206 y206 z206 st206 hQ206
              subst l206 y206 z206
              obtain ⟨rfl, N206q, e206⟩ := hQ206
              have N206 := Fr.app N188 N206q
              refine OwnGo.st (fun _ kk => st206.trans kk) ?_
              show OwnGo p e below s _ _ _ T206 (mkF m 141 #[.val (.ref o), .val (.long p1), .second, .val (.int sl), .val (.int (Int32.ofNat ((r + g) % 16))), .val (.int (Int32.ofNat ((r + a) % 16))), .val (.int (Int32.ofNat (own_home (own_F ws r a)))), .val (.int (1 : Int32))] [(.int (Int32.ofNat (own_nx ((r + a) % 16))))])
              rw [en]
              show OwnGo p e below s _ _ _ T206 (mkF m 141 #[.val (.ref o), .val (.long p1), .second, .val (.int sl), .val (.int (Int32.ofNat ((r + g) % 16))), .val (.int (Int32.ofNat ((r + a) % 16))), .val (.int (Int32.ofNat (own_home (own_F ws r a)))), .val (.int (1 : Int32))] [(.int (Int32.ofNat ((r + (a + 1)) % 16)))])
              refine OwnGo.st (fun _ kk => XS.istore X206.here hx rfl (hb hby d9_141) rfl (l' := #[.val (.ref o), .val (.long p1), .second, .val (.int sl), .val (.int (Int32.ofNat ((r + g) % 16))), .val (.int (Int32.ofNat ((r + (a + 1)) % 16))), .val (.int (Int32.ofNat (own_home (own_F ws r a)))), .val (.int (1 : Int32))]) rfl kk) ?_
              show OwnGo p e below s _ _ _ T206 (mkF m 143 #[.val (.ref o), .val (.long p1), .second, .val (.int sl), .val (.int (Int32.ofNat ((r + g) % 16))), .val (.int (Int32.ofNat ((r + (a + 1)) % 16))), .val (.int (Int32.ofNat (own_home (own_F ws r a)))), .val (.int (1 : Int32))] [])
              refine OwnGo.st (fun _ kk => XS.goto X206.here hx rfl (pc0 := 143) (pc' := 33) rfl (hb hby d9_143) (by decide) (by decide) kk) ?_
              show OwnGo p e below s _ _ _ T206 (mkF m 33 #[.val (.ref o), .val (.long p1), .second, .val (.int sl), .val (.int (Int32.ofNat ((r + g) % 16))), .val (.int (Int32.ofNat ((r + (a + 1)) % 16))), .val (.int (Int32.ofNat (own_home (own_F ws r a)))), .val (.int (1 : Int32))] [])
              exact ih ws g (a + 1) h1 _ _ X206 e206 N206 E_o Fs V F_size Z_ LL' (by omega) (Or.inr ⟨_, _, rfl, rfl⟩) Kp
      · refine OwnGo.st (fun _ kk => XS.istore X188.here hx rfl (hb hby d9_60) rfl (l' := #[.val (.ref o), .val (.long p1), .second, .val (.int sl), .val (.int (Int32.ofNat ((r + g) % 16))), .val (.int (Int32.ofNat ((r + a) % 16))), .val (.int (Int32.ofNat (own_home (own_F ws r a)))), .val (.int i7)]) rfl kk) ?_
        show OwnGo p e below s _ _ _ T188 (mkF m 62 #[.val (.ref o), .val (.long p1), .second, .val (.int sl), .val (.int (Int32.ofNat ((r + g) % 16))), .val (.int (Int32.ofNat ((r + a) % 16))), .val (.int (Int32.ofNat (own_home (own_F ws r a)))), .val (.int i7)] [])
        refine OwnGo.st (fun _ kk => XS.iload X188.here hx rfl (hb hby d9_62) rfl  kk) ?_
        show OwnGo p e below s _ _ _ T188 (mkF m 64 #[.val (.ref o), .val (.long p1), .second, .val (.int sl), .val (.int (Int32.ofNat ((r + g) % 16))), .val (.int (Int32.ofNat ((r + a) % 16))), .val (.int (Int32.ofNat (own_home (own_F ws r a)))), .val (.int i7)] [(.int (Int32.ofNat ((r + g) % 16)))])
        refine OwnGo.st (fun _ kk => XS.iload X188.here hx rfl (hb hby d9_64) rfl  kk) ?_
        show OwnGo p e below s _ _ _ T188 (mkF m 66 #[.val (.ref o), .val (.long p1), .second, .val (.int sl), .val (.int (Int32.ofNat ((r + g) % 16))), .val (.int (Int32.ofNat ((r + a) % 16))), .val (.int (Int32.ofNat (own_home (own_F ws r a)))), .val (.int i7)] [(.int (Int32.ofNat ((r + a) % 16))), (.int (Int32.ofNat ((r + g) % 16)))])
        by_cases q66 : (Int32.ofNat ((r + g) % 16)) < (Int32.ofNat ((r + a) % 16))
        · refine OwnGo.st (fun _ kk => XS.icmpNo X188.here hx rfl (hb hby d9_66) rfl (tlt (q66 : (Int32.ofNat ((r + g) % 16)) < (Int32.ofNat ((r + a) % 16)))).2.1 kk) ?_
          show OwnGo p e below s _ _ _ T188 (mkF m 69 #[.val (.ref o), .val (.long p1), .second, .val (.int sl), .val (.int (Int32.ofNat ((r + g) % 16))), .val (.int (Int32.ofNat ((r + a) % 16))), .val (.int (Int32.ofNat (own_home (own_F ws r a)))), .val (.int i7)] [])
          rw [own_ilt (Nat.mod_lt _ (by decide)) (Nat.mod_lt _ (by decide))] at q66
          refine OwnGo.st (fun _ kk => XS.iload X188.here hx rfl (hb hby d9_69) rfl  kk) ?_
          show OwnGo p e below s _ _ _ T188 (mkF m 71 #[.val (.ref o), .val (.long p1), .second, .val (.int sl), .val (.int (Int32.ofNat ((r + g) % 16))), .val (.int (Int32.ofNat ((r + a) % 16))), .val (.int (Int32.ofNat (own_home (own_F ws r a)))), .val (.int i7)] [(.int (Int32.ofNat (own_home (own_F ws r a))))])
          refine OwnGo.st (fun _ kk => XS.iload X188.here hx rfl (hb hby d9_71) rfl  kk) ?_
          show OwnGo p e below s _ _ _ T188 (mkF m 73 #[.val (.ref o), .val (.long p1), .second, .val (.int sl), .val (.int (Int32.ofNat ((r + g) % 16))), .val (.int (Int32.ofNat ((r + a) % 16))), .val (.int (Int32.ofNat (own_home (own_F ws r a)))), .val (.int i7)] [(.int (Int32.ofNat ((r + g) % 16))), (.int (Int32.ofNat (own_home (own_F ws r a))))])
          by_cases q73 : (Int32.ofNat ((r + g) % 16)) < (Int32.ofNat (own_home (own_F ws r a)))
          · refine OwnGo.st (fun _ kk => XS.icmpNo X188.here hx rfl (hb hby d9_73) rfl (tlt (q73 : (Int32.ofNat ((r + g) % 16)) < (Int32.ofNat (own_home (own_F ws r a))))).2.2.2 kk) ?_
            show OwnGo p e below s _ _ _ T188 (mkF m 76 #[.val (.ref o), .val (.long p1), .second, .val (.int sl), .val (.int (Int32.ofNat ((r + g) % 16))), .val (.int (Int32.ofNat ((r + a) % 16))), .val (.int (Int32.ofNat (own_home (own_F ws r a)))), .val (.int i7)] [])
            rw [own_ilt (Nat.mod_lt _ (by decide)) hm] at q73
            refine OwnGo.st (fun _ kk => XS.iload X188.here hx rfl (hb hby d9_76) rfl  kk) ?_
            show OwnGo p e below s _ _ _ T188 (mkF m 78 #[.val (.ref o), .val (.long p1), .second, .val (.int sl), .val (.int (Int32.ofNat ((r + g) % 16))), .val (.int (Int32.ofNat ((r + a) % 16))), .val (.int (Int32.ofNat (own_home (own_F ws r a)))), .val (.int i7)] [(.int (Int32.ofNat (own_home (own_F ws r a))))])
            refine OwnGo.st (fun _ kk => XS.iload X188.here hx rfl (hb hby d9_78) rfl  kk) ?_
            show OwnGo p e below s _ _ _ T188 (mkF m 80 #[.val (.ref o), .val (.long p1), .second, .val (.int sl), .val (.int (Int32.ofNat ((r + g) % 16))), .val (.int (Int32.ofNat ((r + a) % 16))), .val (.int (Int32.ofNat (own_home (own_F ws r a)))), .val (.int i7)] [(.int (Int32.ofNat ((r + a) % 16))), (.int (Int32.ofNat (own_home (own_F ws r a))))])
            by_cases q80 : (Int32.ofNat ((r + a) % 16)) < (Int32.ofNat (own_home (own_F ws r a)))
            · refine OwnGo.st (fun _ kk => XS.icmpYes X188.here hx rfl (pc0 := 80) (pc' := 87) rfl (hb hby d9_80) rfl (tlt (q80 : (Int32.ofNat ((r + a) % 16)) < (Int32.ofNat (own_home (own_F ws r a))))).2.2.1 (by decide) (by decide) kk) ?_
              show OwnGo p e below s _ _ _ T188 (mkF m 87 #[.val (.ref o), .val (.long p1), .second, .val (.int sl), .val (.int (Int32.ofNat ((r + g) % 16))), .val (.int (Int32.ofNat ((r + a) % 16))), .val (.int (Int32.ofNat (own_home (own_F ws r a)))), .val (.int i7)] [])
              rw [own_ilt (Nat.mod_lt _ (by decide)) hm] at q80
              refine OwnGo.st (fun _ kk => XS.iconst X188.here hx rfl (hb hby d9_87) kk) ?_
              show OwnGo p e below s _ _ _ T188 (mkF m 88 #[.val (.ref o), .val (.long p1), .second, .val (.int sl), .val (.int (Int32.ofNat ((r + g) % 16))), .val (.int (Int32.ofNat ((r + a) % 16))), .val (.int (Int32.ofNat (own_home (own_F ws r a)))), .val (.int i7)] [(.int (0 : Int32))])
              refine OwnGo.st (fun _ kk => XS.goto X188.here hx rfl (pc0 := 88) (pc' := 110) rfl (hb hby d9_88) (by decide) (by decide) kk) ?_
              show OwnGo p e below s _ _ _ T188 (mkF m 110 #[.val (.ref o), .val (.long p1), .second, .val (.int sl), .val (.int (Int32.ofNat ((r + g) % 16))), .val (.int (Int32.ofNat ((r + a) % 16))), .val (.int (Int32.ofNat (own_home (own_F ws r a)))), .val (.int i7)] [(.int (0 : Int32))])
              refine OwnGo.st (fun _ kk => XS.istore X188.here hx rfl (hb hby d9_110) rfl (l' := #[.val (.ref o), .val (.long p1), .second, .val (.int sl), .val (.int (Int32.ofNat ((r + g) % 16))), .val (.int (Int32.ofNat ((r + a) % 16))), .val (.int (Int32.ofNat (own_home (own_F ws r a)))), .val (.int (0 : Int32))]) rfl kk) ?_
              show OwnGo p e below s _ _ _ T188 (mkF m 112 #[.val (.ref o), .val (.long p1), .second, .val (.int sl), .val (.int (Int32.ofNat ((r + g) % 16))), .val (.int (Int32.ofNat ((r + a) % 16))), .val (.int (Int32.ofNat (own_home (own_F ws r a)))), .val (.int (0 : Int32))] [])
              refine OwnGo.st (fun _ kk => XS.iload X188.here hx rfl (hb hby d9_112) rfl  kk) ?_
              show OwnGo p e below s _ _ _ T188 (mkF m 114 #[.val (.ref o), .val (.long p1), .second, .val (.int sl), .val (.int (Int32.ofNat ((r + g) % 16))), .val (.int (Int32.ofNat ((r + a) % 16))), .val (.int (Int32.ofNat (own_home (own_F ws r a)))), .val (.int (0 : Int32))] [(.int (0 : Int32))])
              have hin : ¬ (g < own_H r (own_F ws r a) ∧ own_H r (own_F ws r a) ≤ a) := fun z => absurd (cyc.2 z) (by omega)
              have LL' := own_L_out LL hz0 hin
              refine OwnGo.st (fun _ kk => XS.ifNo X188.here hx rfl (hb hby d9_114) rfl ((if0 _ _).trans (teq ((by decide) : (0 : Int32) = (0 : Int32))).2) kk) ?_
              show OwnGo p e below s _ _ _ T188 (mkF m 117 #[.val (.ref o), .val (.long p1), .second, .val (.int sl), .val (.int (Int32.ofNat ((r + g) % 16))), .val (.int (Int32.ofNat ((r + a) % 16))), .val (.int (Int32.ofNat (own_home (own_F ws r a)))), .val (.int (0 : Int32))] [])
              refine OwnGo.st (fun _ kk => XS.aloadN X188.here hx rfl (hb hby d9_117) rfl rfl  kk) ?_
              show OwnGo p e below s _ _ _ T188 (mkF m 118 #[.val (.ref o), .val (.long p1), .second, .val (.int sl), .val (.int (Int32.ofNat ((r + g) % 16))), .val (.int (Int32.ofNat ((r + a) % 16))), .val (.int (Int32.ofNat (own_home (own_F ws r a)))), .val (.int (0 : Int32))] [(.ref o)])
              obtain ⟨T207, X207, e207, st207⟩ := getF X188 hx hZ hown (host := "") (Or.inl (hw _ (List.mem_of_getElem? (i := 14) rfl))) Via.refl e188 Fs (g := (mkF m 118 #[.val (.ref o), .val (.long p1), .second, .val (.int sl), .val (.int (Int32.ofNat ((r + g) % 16))), .val (.int (Int32.ofNat ((r + a) % 16))), .val (.int (Int32.ofNat (own_home (own_F ws r a)))), .val (.int (0 : Int32))] [(.ref o)])) rfl rfl (hb hby d9_118)
              refine OwnGo.st st207 ?_
              show OwnGo p e below s _ _ _ T207 (mkF m 121 #[.val (.ref o), .val (.long p1), .second, .val (.int sl), .val (.int (Int32.ofNat ((r + g) % 16))), .val (.int (Int32.ofNat ((r + a) % 16))), .val (.int (Int32.ofNat (own_home (own_F ws r a)))), .val (.int (0 : Int32))] [(.ref t)])
              refine OwnGo.st (fun _ kk => XS.iload X207.here hx rfl (hb hby d9_121) rfl  kk) ?_
              show OwnGo p e below s _ _ _ T207 (mkF m 123 #[.val (.ref o), .val (.long p1), .second, .val (.int sl), .val (.int (Int32.ofNat ((r + g) % 16))), .val (.int (Int32.ofNat ((r + a) % 16))), .val (.int (Int32.ofNat (own_home (own_F ws r a)))), .val (.int (0 : Int32))] [(.int (Int32.ofNat ((r + g) % 16))), (.ref t)])
              refine OwnGo.st (fun _ kk => XS.aloadN X207.here hx rfl (hb hby d9_123) rfl rfl  kk) ?_
              show OwnGo p e below s _ _ _ T207 (mkF m 124 #[.val (.ref o), .val (.long p1), .second, .val (.int sl), .val (.int (Int32.ofNat ((r + g) % 16))), .val (.int (Int32.ofNat ((r + a) % 16))), .val (.int (Int32.ofNat (own_home (own_F ws r a)))), .val (.int (0 : Int32))] [(.ref o), (.int (Int32.ofNat ((r + g) % 16))), (.ref t)])
              obtain ⟨T208, X208, e208, st208⟩ := getF X207 hx hZ hown (host := "") (Or.inl (hw _ (List.mem_of_getElem? (i := 14) rfl))) Via.refl e207 Fs (g := (mkF m 124 #[.val (.ref o), .val (.long p1), .second, .val (.int sl), .val (.int (Int32.ofNat ((r + g) % 16))), .val (.int (Int32.ofNat ((r + a) % 16))), .val (.int (Int32.ofNat (own_home (own_F ws r a)))), .val (.int (0 : Int32))] [(.ref o), (.int (Int32.ofNat ((r + g) % 16))), (.ref t)])) rfl rfl (hb hby d9_124)
              refine OwnGo.st st208 ?_
              show OwnGo p e below s _ _ _ T208 (mkF m 127 #[.val (.ref o), .val (.long p1), .second, .val (.int sl), .val (.int (Int32.ofNat ((r + g) % 16))), .val (.int (Int32.ofNat ((r + a) % 16))), .val (.int (Int32.ofNat (own_home (own_F ws r a)))), .val (.int (0 : Int32))] [(.ref t), (.int (Int32.ofNat ((r + g) % 16))), (.ref t)])
              refine OwnGo.st (fun _ kk => XS.iload X208.here hx rfl (hb hby d9_127) rfl  kk) ?_
              show OwnGo p e below s _ _ _ T208 (mkF m 129 #[.val (.ref o), .val (.long p1), .second, .val (.int sl), .val (.int (Int32.ofNat ((r + g) % 16))), .val (.int (Int32.ofNat ((r + a) % 16))), .val (.int (Int32.ofNat (own_home (own_F ws r a)))), .val (.int (0 : Int32))] [(.int (Int32.ofNat ((r + a) % 16))), (.ref t), (.int (Int32.ofNat ((r + g) % 16))), (.ref t)])
              obtain ⟨cl209, Ar209, -, S209, -, H209, -⟩ := id V
              have hin209 : ¬ ((Int32.ofNat ((r + a) % 16)) < 0 ∨ cl209.slots.size ≤ ((Int32.ofNat ((r + a) % 16))).toNatClampNeg) := inb_of S209 (own_inb (Nat.mod_lt _ (by decide)))
              refine OwnGo.st (fun _ kk => X208.laload hx (j := (Int32.ofNat ((r + a) % 16))) (v := (.long (own_F ws r a))) (by first | exact Ar209.1 | (rw [e208]; exact Ar209.1)) (State.isArrayOf_alike hZ.alike Ar209.2.1) Ar209.2.2 hin209 (H209.at hin209 (own_get LL.hl (Nat.mod_lt _ (by decide)))) (g := (mkF m 129 #[.val (.ref o), .val (.long p1), .second, .val (.int sl), .val (.int (Int32.ofNat ((r + g) % 16))), .val (.int (Int32.ofNat ((r + a) % 16))), .val (.int (Int32.ofNat (own_home (own_F ws r a)))), .val (.int (0 : Int32))] [(.int (Int32.ofNat ((r + a) % 16))), (.ref t), (.int (Int32.ofNat ((r + g) % 16))), (.ref t)])) rfl rfl (hb hby d9_129) _ kk) ?_
              show OwnGo p e below s _ _ _ T208 (mkF m 130 #[.val (.ref o), .val (.long p1), .second, .val (.int sl), .val (.int (Int32.ofNat ((r + g) % 16))), .val (.int (Int32.ofNat ((r + a) % 16))), .val (.int (Int32.ofNat (own_home (own_F ws r a)))), .val (.int (0 : Int32))] [(.long (own_F ws r a)), (.int (Int32.ofNat ((r + g) % 16))), (.ref t)])
              obtain ⟨cl210, Ar210, q210, S210, N210, H210, G210⟩ := id V
              obtain ⟨T210, h210, X210, e210, W210, st210⟩ := stJ X208 hx hZ e208 Ar210 (j := (Int32.ofNat ((r + g) % 16))) (inb_of S210 (own_inb (Nat.mod_lt _ (by decide)))) (g := (mkF m 130 #[.val (.ref o), .val (.long p1), .second, .val (.int sl), .val (.int (Int32.ofNat ((r + g) % 16))), .val (.int (Int32.ofNat ((r + a) % 16))), .val (.int (Int32.ofNat (own_home (own_F ws r a)))), .val (.int (0 : Int32))] [(.long (own_F ws r a)), (.int (Int32.ofNat ((r + g) % 16))), (.ref t)])) rfl rfl (hb hby d9_130)
              have V' := Arv.set Ar210 q210 S210 N210 H210 G210 rfl W210 ((r + g) % 16) (own_nat (Nat.mod_lt _ (by decide))) (by rw [List.length_map, LL.hl]; exact (Nat.mod_lt _ (by decide)))
              rw [own_set] at V'
              have E_o := E_o.wr W210
              have Fs := Fs.other W210 (Or.inl (Ne.symm ne_t_o))
              have F_size := F_size.other W210 (Or.inl (Ne.symm ne_t_o))
              have Kp := Kp.wr W210 (Or.inl (List.mem_of_getElem? (i := 1) rfl))
              have N210 := Fr.snoc X210 N188 g_t
              have Z_ : n0 ≤ h210.size := by rw [W210.size]; exact Z_
              have V := V'
              refine OwnGo.st st210 ?_
              show OwnGo p e below s _ _ _ T210 (mkF m 131 #[.val (.ref o), .val (.long p1), .second, .val (.int sl), .val (.int (Int32.ofNat ((r + g) % 16))), .val (.int (Int32.ofNat ((r + a) % 16))), .val (.int (Int32.ofNat (own_home (own_F ws r a)))), .val (.int (0 : Int32))] [])
              refine OwnGo.st (fun _ kk => XS.iload X210.here hx rfl (hb hby d9_131) rfl  kk) ?_
              show OwnGo p e below s _ _ _ T210 (mkF m 133 #[.val (.ref o), .val (.long p1), .second, .val (.int sl), .val (.int (Int32.ofNat ((r + g) % 16))), .val (.int (Int32.ofNat ((r + a) % 16))), .val (.int (Int32.ofNat (own_home (own_F ws r a)))), .val (.int (0 : Int32))] [(.int (Int32.ofNat ((r + a) % 16)))])
              refine OwnGo.st (fun _ kk => XS.istore X210.here hx rfl (hb hby d9_133) rfl (l' := #[.val (.ref o), .val (.long p1), .second, .val (.int sl), .val (.int (Int32.ofNat ((r + a) % 16))), .val (.int (Int32.ofNat ((r + a) % 16))), .val (.int (Int32.ofNat (own_home (own_F ws r a)))), .val (.int (0 : Int32))]) rfl kk) ?_
              show OwnGo p e below s _ _ _ T210 (mkF m 135 #[.val (.ref o), .val (.long p1), .second, .val (.int sl), .val (.int (Int32.ofNat ((r + a) % 16))), .val (.int (Int32.ofNat ((r + a) % 16))), .val (.int (Int32.ofNat (own_home (own_F ws r a)))), .val (.int (0 : Int32))] [])
              refine OwnGo.st (fun _ kk => XS.aloadN X210.here hx rfl (hb hby d9_135) rfl rfl  kk) ?_
              show OwnGo p e below s _ _ _ T210 (mkF m 136 #[.val (.ref o), .val (.long p1), .second, .val (.int sl), .val (.int (Int32.ofNat ((r + a) % 16))), .val (.int (Int32.ofNat ((r + a) % 16))), .val (.int (Int32.ofNat (own_home (own_F ws r a)))), .val (.int (0 : Int32))] [(.ref o)])
              refine OwnGo.st (fun _ kk => XS.iload X210.here hx rfl (hb hby d9_136) rfl  kk) ?_
              show OwnGo p e below s _ _ _ T210 (mkF m 138 #[.val (.ref o), .val (.long p1), .second, .val (.int sl), .val (.int (Int32.ofNat ((r + a) % 16))), .val (.int (Int32.ofNat ((r + a) % 16))), .val (.int (Int32.ofNat (own_home (own_F ws r a)))), .val (.int (0 : Int32))] [(.int (Int32.ofNat ((r + a) % 16))), (.ref o)])
              obtain ⟨cq211, q211, q211'⟩ := E_o.cell
              obtain ⟨_, _, ⟨T211, L211, k211, n211⟩, -, X211, ⟨Lc211, hQ211, l211, y211, z211⟩, st211⟩ := X210.privateBack hx (y := (⟨"com/example/utsatt/utsatt/KeyHashes", "next", "(I)I"⟩ : MethodName)) hown (mvT hZ (hw _ (List.mem_of_getElem? (i := 34) rfl))) (mvT hZ (hw _ (List.mem_of_getElem? (i := 35) rfl))) (own_selp (z := (⟨"com/example/utsatt/utsatt/KeyHashes", "add", "(J)Z"⟩ : MethodName)) (mvT hZ (hw _ (List.mem_of_getElem? (i := 19) rfl))) rfl (Cond.privateMethod_at (mvP hZ (hw _ (List.mem_of_getElem? (i := 36) rfl)) (args := #[]))) (mvT hZ (hw _ (List.mem_of_getElem? (i := 35) rfl))) (by decide)) (Cond.privateMethod_at (mvP hZ (hw _ (List.mem_of_getElem? (i := 36) rfl)) (args := #[]))) (mvT hZ (hw _ (List.mem_of_getElem? (i := 37) rfl))) (by decide) (backOf (W := 0) (rmnext l Z a0 hw [] o t kc (ws.set ((r + g) % 16) (own_F ws r a)) ((r + a) % 16) h210 n0 Z_ E_o Fs V LL'.hl (Nat.mod_lt _ (by decide))) hZ (hw _ (List.mem_of_getElem? (i := 37) rfl)) (hw _ (List.mem_of_getElem? (i := 6) rfl)) (by decide) (by decide)) (g := (mkF m 138 #[.val (.ref o), .val (.long p1), .second, .val (.int sl), .val (.int (Int32.ofNat ((r + a) % 16))), .val (.int (Int32.ofNat ((r + a) % 16))), .val (.int (Int32.ofNat (own_home (own_F ws r a)))), .val (.int (0 : Int32))] [(.int (Int32.ofNat ((r + a) % 16))), (.ref o)])) rfl (by rw [hml]; rfl) (Steps.refl _) (a := o) (by rw [e210]; exact q211) q211' (argsL := [(.int (Int32.ofNat ((r + a) % 16)))]) (rest := []) (lenOf pd_0 rfl) rfl (by show 2 * 0 + _ ≤ _; exact Nat.le_of_eq rfl) (hb hby d9_138) (fun _ _ => ⟨rfl, e210, (by decide : 0 + 0 ≤ _), (by decide : 0 + 0 ≤ _)⟩)
              dsimp only [Pt.U, Pt.locs, Pt.cells, Pt.slots] at X211 l211 y211 z211 st211 hQ211
              subst l211 y211 z211
              obtain ⟨rfl, N211q, e211⟩ := hQ211
              have N211 := Fr.app N210 N211q
              refine OwnGo.st (fun _ kk => st211.trans kk) ?_
              show OwnGo p e below s _ _ _ T211 (mkF m 141 #[.val (.ref o), .val (.long p1), .second, .val (.int sl), .val (.int (Int32.ofNat ((r + a) % 16))), .val (.int (Int32.ofNat ((r + a) % 16))), .val (.int (Int32.ofNat (own_home (own_F ws r a)))), .val (.int (0 : Int32))] [(.int (Int32.ofNat (own_nx ((r + a) % 16))))])
              rw [en]
              show OwnGo p e below s _ _ _ T211 (mkF m 141 #[.val (.ref o), .val (.long p1), .second, .val (.int sl), .val (.int (Int32.ofNat ((r + a) % 16))), .val (.int (Int32.ofNat ((r + a) % 16))), .val (.int (Int32.ofNat (own_home (own_F ws r a)))), .val (.int (0 : Int32))] [(.int (Int32.ofNat ((r + (a + 1)) % 16)))])
              refine OwnGo.st (fun _ kk => XS.istore X211.here hx rfl (hb hby d9_141) rfl (l' := #[.val (.ref o), .val (.long p1), .second, .val (.int sl), .val (.int (Int32.ofNat ((r + a) % 16))), .val (.int (Int32.ofNat ((r + (a + 1)) % 16))), .val (.int (Int32.ofNat (own_home (own_F ws r a)))), .val (.int (0 : Int32))]) rfl kk) ?_
              show OwnGo p e below s _ _ _ T211 (mkF m 143 #[.val (.ref o), .val (.long p1), .second, .val (.int sl), .val (.int (Int32.ofNat ((r + a) % 16))), .val (.int (Int32.ofNat ((r + (a + 1)) % 16))), .val (.int (Int32.ofNat (own_home (own_F ws r a)))), .val (.int (0 : Int32))] [])
              refine OwnGo.st (fun _ kk => XS.goto X211.here hx rfl (pc0 := 143) (pc' := 33) rfl (hb hby d9_143) (by decide) (by decide) kk) ?_
              show OwnGo p e below s _ _ _ T211 (mkF m 33 #[.val (.ref o), .val (.long p1), .second, .val (.int sl), .val (.int (Int32.ofNat ((r + a) % 16))), .val (.int (Int32.ofNat ((r + (a + 1)) % 16))), .val (.int (Int32.ofNat (own_home (own_F ws r a)))), .val (.int (0 : Int32))] [])
              exact ih (ws.set ((r + g) % 16) (own_F ws r a)) a (a + 1) h210 _ _ X211 e211 N211 E_o Fs V F_size Z_ LL' (by omega) (Or.inr ⟨_, _, rfl, rfl⟩) Kp
            · refine OwnGo.st (fun _ kk => XS.icmpNo X188.here hx rfl (hb hby d9_80) rfl (flt (q80 : ¬ ((Int32.ofNat ((r + a) % 16)) < (Int32.ofNat (own_home (own_F ws r a)))))).2.2.1 kk) ?_
              show OwnGo p e below s _ _ _ T188 (mkF m 83 #[.val (.ref o), .val (.long p1), .second, .val (.int sl), .val (.int (Int32.ofNat ((r + g) % 16))), .val (.int (Int32.ofNat ((r + a) % 16))), .val (.int (Int32.ofNat (own_home (own_F ws r a)))), .val (.int i7)] [])
              rw [own_ilt (Nat.mod_lt _ (by decide)) hm] at q80
              refine OwnGo.st (fun _ kk => XS.iconst X188.here hx rfl (hb hby d9_83) kk) ?_
              show OwnGo p e below s _ _ _ T188 (mkF m 84 #[.val (.ref o), .val (.long p1), .second, .val (.int sl), .val (.int (Int32.ofNat ((r + g) % 16))), .val (.int (Int32.ofNat ((r + a) % 16))), .val (.int (Int32.ofNat (own_home (own_F ws r a)))), .val (.int i7)] [(.int (1 : Int32))])
              refine OwnGo.st (fun _ kk => XS.goto X188.here hx rfl (pc0 := 84) (pc' := 110) rfl (hb hby d9_84) (by decide) (by decide) kk) ?_
              show OwnGo p e below s _ _ _ T188 (mkF m 110 #[.val (.ref o), .val (.long p1), .second, .val (.int sl), .val (.int (Int32.ofNat ((r + g) % 16))), .val (.int (Int32.ofNat ((r + a) % 16))), .val (.int (Int32.ofNat (own_home (own_F ws r a)))), .val (.int i7)] [(.int (1 : Int32))])
              refine OwnGo.st (fun _ kk => XS.istore X188.here hx rfl (hb hby d9_110) rfl (l' := #[.val (.ref o), .val (.long p1), .second, .val (.int sl), .val (.int (Int32.ofNat ((r + g) % 16))), .val (.int (Int32.ofNat ((r + a) % 16))), .val (.int (Int32.ofNat (own_home (own_F ws r a)))), .val (.int (1 : Int32))]) rfl kk) ?_
              show OwnGo p e below s _ _ _ T188 (mkF m 112 #[.val (.ref o), .val (.long p1), .second, .val (.int sl), .val (.int (Int32.ofNat ((r + g) % 16))), .val (.int (Int32.ofNat ((r + a) % 16))), .val (.int (Int32.ofNat (own_home (own_F ws r a)))), .val (.int (1 : Int32))] [])
              refine OwnGo.st (fun _ kk => XS.iload X188.here hx rfl (hb hby d9_112) rfl  kk) ?_
              show OwnGo p e below s _ _ _ T188 (mkF m 114 #[.val (.ref o), .val (.long p1), .second, .val (.int sl), .val (.int (Int32.ofNat ((r + g) % 16))), .val (.int (Int32.ofNat ((r + a) % 16))), .val (.int (Int32.ofNat (own_home (own_F ws r a)))), .val (.int (1 : Int32))] [(.int (1 : Int32))])
              have hin : g < own_H r (own_F ws r a) ∧ own_H r (own_F ws r a) ≤ a := cyc.1 (by omega)
              have LL' := own_L_in LL hz0 hin
              refine OwnGo.st (fun _ kk => XS.ifYes X188.here hx rfl (pc0 := 114) (pc' := 135) rfl (hb hby d9_114) rfl ((if0 _ _).trans (feq ((by decide) : ¬ ((1 : Int32) = (0 : Int32)))).2) (by decide) (by decide) kk) ?_
              show OwnGo p e below s _ _ _ T188 (mkF m 135 #[.val (.ref o), .val (.long p1), .second, .val (.int sl), .val (.int (Int32.ofNat ((r + g) % 16))), .val (.int (Int32.ofNat ((r + a) % 16))), .val (.int (Int32.ofNat (own_home (own_F ws r a)))), .val (.int (1 : Int32))] [])
              refine OwnGo.st (fun _ kk => XS.aloadN X188.here hx rfl (hb hby d9_135) rfl rfl  kk) ?_
              show OwnGo p e below s _ _ _ T188 (mkF m 136 #[.val (.ref o), .val (.long p1), .second, .val (.int sl), .val (.int (Int32.ofNat ((r + g) % 16))), .val (.int (Int32.ofNat ((r + a) % 16))), .val (.int (Int32.ofNat (own_home (own_F ws r a)))), .val (.int (1 : Int32))] [(.ref o)])
              refine OwnGo.st (fun _ kk => XS.iload X188.here hx rfl (hb hby d9_136) rfl  kk) ?_
              show OwnGo p e below s _ _ _ T188 (mkF m 138 #[.val (.ref o), .val (.long p1), .second, .val (.int sl), .val (.int (Int32.ofNat ((r + g) % 16))), .val (.int (Int32.ofNat ((r + a) % 16))), .val (.int (Int32.ofNat (own_home (own_F ws r a)))), .val (.int (1 : Int32))] [(.int (Int32.ofNat ((r + a) % 16))), (.ref o)])
              obtain ⟨cq212, q212, q212'⟩ := E_o.cell
              obtain ⟨_, _, ⟨T212, L212, k212, n212⟩, -, X212, ⟨Lc212, hQ212, l212, y212, z212⟩, st212⟩ := X188.privateBack hx (y := (⟨"com/example/utsatt/utsatt/KeyHashes", "next", "(I)I"⟩ : MethodName)) hown (mvT hZ (hw _ (List.mem_of_getElem? (i := 34) rfl))) (mvT hZ (hw _ (List.mem_of_getElem? (i := 35) rfl))) (own_selp (z := (⟨"com/example/utsatt/utsatt/KeyHashes", "add", "(J)Z"⟩ : MethodName)) (mvT hZ (hw _ (List.mem_of_getElem? (i := 19) rfl))) rfl (Cond.privateMethod_at (mvP hZ (hw _ (List.mem_of_getElem? (i := 36) rfl)) (args := #[]))) (mvT hZ (hw _ (List.mem_of_getElem? (i := 35) rfl))) (by decide)) (Cond.privateMethod_at (mvP hZ (hw _ (List.mem_of_getElem? (i := 36) rfl)) (args := #[]))) (mvT hZ (hw _ (List.mem_of_getElem? (i := 37) rfl))) (by decide) (backOf (W := 0) (rmnext l Z a0 hw [] o t kc ws ((r + a) % 16) h1 n0 Z_ E_o Fs V LL'.hl (Nat.mod_lt _ (by decide))) hZ (hw _ (List.mem_of_getElem? (i := 37) rfl)) (hw _ (List.mem_of_getElem? (i := 6) rfl)) (by decide) (by decide)) (g := (mkF m 138 #[.val (.ref o), .val (.long p1), .second, .val (.int sl), .val (.int (Int32.ofNat ((r + g) % 16))), .val (.int (Int32.ofNat ((r + a) % 16))), .val (.int (Int32.ofNat (own_home (own_F ws r a)))), .val (.int (1 : Int32))] [(.int (Int32.ofNat ((r + a) % 16))), (.ref o)])) rfl (by rw [hml]; rfl) (Steps.refl _) (a := o) (by rw [e188]; exact q212) q212' (argsL := [(.int (Int32.ofNat ((r + a) % 16)))]) (rest := []) (lenOf pd_0 rfl) rfl (by show 2 * 0 + _ ≤ _; exact Nat.le_of_eq rfl) (hb hby d9_138) (fun _ _ => ⟨rfl, e188, (by decide : 0 + 0 ≤ _), (by decide : 0 + 0 ≤ _)⟩)
              dsimp only [Pt.U, Pt.locs, Pt.cells, Pt.slots] at X212 l212 y212 z212 st212 hQ212
              subst l212 y212 z212
              obtain ⟨rfl, N212q, e212⟩ := hQ212
              have N212 := Fr.app N188 N212q
              refine OwnGo.st (fun _ kk => st212.trans kk) ?_
              show OwnGo p e below s _ _ _ T212 (mkF m 141 #[.val (.ref o), .val (.long p1), .second, .val (.int sl), .val (.int (Int32.ofNat ((r + g) % 16))), .val (.int (Int32.ofNat ((r + a) % 16))), .val (.int (Int32.ofNat (own_home (own_F ws r a)))), .val (.int (1 : Int32))] [(.int (Int32.ofNat (own_nx ((r + a) % 16))))])
              rw [en]
              show OwnGo p e below s _ _ _ T212 (mkF m 141 #[.val (.ref o), .val (.long p1), .second, .val (.int sl), .val (.int (Int32.ofNat ((r + g) % 16))), .val (.int (Int32.ofNat ((r + a) % 16))), .val (.int (Int32.ofNat (own_home (own_F ws r a)))), .val (.int (1 : Int32))] [(.int (Int32.ofNat ((r + (a + 1)) % 16)))])
              refine OwnGo.st (fun _ kk => XS.istore X212.here hx rfl (hb hby d9_141) rfl (l' := #[.val (.ref o), .val (.long p1), .second, .val (.int sl), .val (.int (Int32.ofNat ((r + g) % 16))), .val (.int (Int32.ofNat ((r + (a + 1)) % 16))), .val (.int (Int32.ofNat (own_home (own_F ws r a)))), .val (.int (1 : Int32))]) rfl kk) ?_
              show OwnGo p e below s _ _ _ T212 (mkF m 143 #[.val (.ref o), .val (.long p1), .second, .val (.int sl), .val (.int (Int32.ofNat ((r + g) % 16))), .val (.int (Int32.ofNat ((r + (a + 1)) % 16))), .val (.int (Int32.ofNat (own_home (own_F ws r a)))), .val (.int (1 : Int32))] [])
              refine OwnGo.st (fun _ kk => XS.goto X212.here hx rfl (pc0 := 143) (pc' := 33) rfl (hb hby d9_143) (by decide) (by decide) kk) ?_
              show OwnGo p e below s _ _ _ T212 (mkF m 33 #[.val (.ref o), .val (.long p1), .second, .val (.int sl), .val (.int (Int32.ofNat ((r + g) % 16))), .val (.int (Int32.ofNat ((r + (a + 1)) % 16))), .val (.int (Int32.ofNat (own_home (own_F ws r a)))), .val (.int (1 : Int32))] [])
              exact ih ws g (a + 1) h1 _ _ X212 e212 N212 E_o Fs V F_size Z_ LL' (by omega) (Or.inr ⟨_, _, rfl, rfl⟩) Kp
          · refine OwnGo.st (fun _ kk => XS.icmpYes X188.here hx rfl (pc0 := 73) (pc' := 87) rfl (hb hby d9_73) rfl (flt (q73 : ¬ ((Int32.ofNat ((r + g) % 16)) < (Int32.ofNat (own_home (own_F ws r a)))))).2.2.2 (by decide) (by decide) kk) ?_
            show OwnGo p e below s _ _ _ T188 (mkF m 87 #[.val (.ref o), .val (.long p1), .second, .val (.int sl), .val (.int (Int32.ofNat ((r + g) % 16))), .val (.int (Int32.ofNat ((r + a) % 16))), .val (.int (Int32.ofNat (own_home (own_F ws r a)))), .val (.int i7)] [])
            rw [own_ilt (Nat.mod_lt _ (by decide)) hm] at q73
            refine OwnGo.st (fun _ kk => XS.iconst X188.here hx rfl (hb hby d9_87) kk) ?_
            show OwnGo p e below s _ _ _ T188 (mkF m 88 #[.val (.ref o), .val (.long p1), .second, .val (.int sl), .val (.int (Int32.ofNat ((r + g) % 16))), .val (.int (Int32.ofNat ((r + a) % 16))), .val (.int (Int32.ofNat (own_home (own_F ws r a)))), .val (.int i7)] [(.int (0 : Int32))])
            refine OwnGo.st (fun _ kk => XS.goto X188.here hx rfl (pc0 := 88) (pc' := 110) rfl (hb hby d9_88) (by decide) (by decide) kk) ?_
            show OwnGo p e below s _ _ _ T188 (mkF m 110 #[.val (.ref o), .val (.long p1), .second, .val (.int sl), .val (.int (Int32.ofNat ((r + g) % 16))), .val (.int (Int32.ofNat ((r + a) % 16))), .val (.int (Int32.ofNat (own_home (own_F ws r a)))), .val (.int i7)] [(.int (0 : Int32))])
            refine OwnGo.st (fun _ kk => XS.istore X188.here hx rfl (hb hby d9_110) rfl (l' := #[.val (.ref o), .val (.long p1), .second, .val (.int sl), .val (.int (Int32.ofNat ((r + g) % 16))), .val (.int (Int32.ofNat ((r + a) % 16))), .val (.int (Int32.ofNat (own_home (own_F ws r a)))), .val (.int (0 : Int32))]) rfl kk) ?_
            show OwnGo p e below s _ _ _ T188 (mkF m 112 #[.val (.ref o), .val (.long p1), .second, .val (.int sl), .val (.int (Int32.ofNat ((r + g) % 16))), .val (.int (Int32.ofNat ((r + a) % 16))), .val (.int (Int32.ofNat (own_home (own_F ws r a)))), .val (.int (0 : Int32))] [])
            refine OwnGo.st (fun _ kk => XS.iload X188.here hx rfl (hb hby d9_112) rfl  kk) ?_
            show OwnGo p e below s _ _ _ T188 (mkF m 114 #[.val (.ref o), .val (.long p1), .second, .val (.int sl), .val (.int (Int32.ofNat ((r + g) % 16))), .val (.int (Int32.ofNat ((r + a) % 16))), .val (.int (Int32.ofNat (own_home (own_F ws r a)))), .val (.int (0 : Int32))] [(.int (0 : Int32))])
            have hin : ¬ (g < own_H r (own_F ws r a) ∧ own_H r (own_F ws r a) ≤ a) := fun z => absurd (cyc.2 z) (by omega)
            have LL' := own_L_out LL hz0 hin
            refine OwnGo.st (fun _ kk => XS.ifNo X188.here hx rfl (hb hby d9_114) rfl ((if0 _ _).trans (teq ((by decide) : (0 : Int32) = (0 : Int32))).2) kk) ?_
            show OwnGo p e below s _ _ _ T188 (mkF m 117 #[.val (.ref o), .val (.long p1), .second, .val (.int sl), .val (.int (Int32.ofNat ((r + g) % 16))), .val (.int (Int32.ofNat ((r + a) % 16))), .val (.int (Int32.ofNat (own_home (own_F ws r a)))), .val (.int (0 : Int32))] [])
            refine OwnGo.st (fun _ kk => XS.aloadN X188.here hx rfl (hb hby d9_117) rfl rfl  kk) ?_
            show OwnGo p e below s _ _ _ T188 (mkF m 118 #[.val (.ref o), .val (.long p1), .second, .val (.int sl), .val (.int (Int32.ofNat ((r + g) % 16))), .val (.int (Int32.ofNat ((r + a) % 16))), .val (.int (Int32.ofNat (own_home (own_F ws r a)))), .val (.int (0 : Int32))] [(.ref o)])
            obtain ⟨T213, X213, e213, st213⟩ := getF X188 hx hZ hown (host := "") (Or.inl (hw _ (List.mem_of_getElem? (i := 14) rfl))) Via.refl e188 Fs (g := (mkF m 118 #[.val (.ref o), .val (.long p1), .second, .val (.int sl), .val (.int (Int32.ofNat ((r + g) % 16))), .val (.int (Int32.ofNat ((r + a) % 16))), .val (.int (Int32.ofNat (own_home (own_F ws r a)))), .val (.int (0 : Int32))] [(.ref o)])) rfl rfl (hb hby d9_118)
            refine OwnGo.st st213 ?_
            show OwnGo p e below s _ _ _ T213 (mkF m 121 #[.val (.ref o), .val (.long p1), .second, .val (.int sl), .val (.int (Int32.ofNat ((r + g) % 16))), .val (.int (Int32.ofNat ((r + a) % 16))), .val (.int (Int32.ofNat (own_home (own_F ws r a)))), .val (.int (0 : Int32))] [(.ref t)])
            refine OwnGo.st (fun _ kk => XS.iload X213.here hx rfl (hb hby d9_121) rfl  kk) ?_
            show OwnGo p e below s _ _ _ T213 (mkF m 123 #[.val (.ref o), .val (.long p1), .second, .val (.int sl), .val (.int (Int32.ofNat ((r + g) % 16))), .val (.int (Int32.ofNat ((r + a) % 16))), .val (.int (Int32.ofNat (own_home (own_F ws r a)))), .val (.int (0 : Int32))] [(.int (Int32.ofNat ((r + g) % 16))), (.ref t)])
            refine OwnGo.st (fun _ kk => XS.aloadN X213.here hx rfl (hb hby d9_123) rfl rfl  kk) ?_
            show OwnGo p e below s _ _ _ T213 (mkF m 124 #[.val (.ref o), .val (.long p1), .second, .val (.int sl), .val (.int (Int32.ofNat ((r + g) % 16))), .val (.int (Int32.ofNat ((r + a) % 16))), .val (.int (Int32.ofNat (own_home (own_F ws r a)))), .val (.int (0 : Int32))] [(.ref o), (.int (Int32.ofNat ((r + g) % 16))), (.ref t)])
            obtain ⟨T214, X214, e214, st214⟩ := getF X213 hx hZ hown (host := "") (Or.inl (hw _ (List.mem_of_getElem? (i := 14) rfl))) Via.refl e213 Fs (g := (mkF m 124 #[.val (.ref o), .val (.long p1), .second, .val (.int sl), .val (.int (Int32.ofNat ((r + g) % 16))), .val (.int (Int32.ofNat ((r + a) % 16))), .val (.int (Int32.ofNat (own_home (own_F ws r a)))), .val (.int (0 : Int32))] [(.ref o), (.int (Int32.ofNat ((r + g) % 16))), (.ref t)])) rfl rfl (hb hby d9_124)
            refine OwnGo.st st214 ?_
            show OwnGo p e below s _ _ _ T214 (mkF m 127 #[.val (.ref o), .val (.long p1), .second, .val (.int sl), .val (.int (Int32.ofNat ((r + g) % 16))), .val (.int (Int32.ofNat ((r + a) % 16))), .val (.int (Int32.ofNat (own_home (own_F ws r a)))), .val (.int (0 : Int32))] [(.ref t), (.int (Int32.ofNat ((r + g) % 16))), (.ref t)])
            refine OwnGo.st (fun _ kk => XS.iload X214.here hx rfl (hb hby d9_127) rfl  kk) ?_
            show OwnGo p e below s _ _ _ T214 (mkF m 129 #[.val (.ref o), .val (.long p1), .second, .val (.int sl), .val (.int (Int32.ofNat ((r + g) % 16))), .val (.int (Int32.ofNat ((r + a) % 16))), .val (.int (Int32.ofNat (own_home (own_F ws r a)))), .val (.int (0 : Int32))] [(.int (Int32.ofNat ((r + a) % 16))), (.ref t), (.int (Int32.ofNat ((r + g) % 16))), (.ref t)])
            obtain ⟨cl215, Ar215, -, S215, -, H215, -⟩ := id V
            have hin215 : ¬ ((Int32.ofNat ((r + a) % 16)) < 0 ∨ cl215.slots.size ≤ ((Int32.ofNat ((r + a) % 16))).toNatClampNeg) := inb_of S215 (own_inb (Nat.mod_lt _ (by decide)))
            refine OwnGo.st (fun _ kk => X214.laload hx (j := (Int32.ofNat ((r + a) % 16))) (v := (.long (own_F ws r a))) (by first | exact Ar215.1 | (rw [e214]; exact Ar215.1)) (State.isArrayOf_alike hZ.alike Ar215.2.1) Ar215.2.2 hin215 (H215.at hin215 (own_get LL.hl (Nat.mod_lt _ (by decide)))) (g := (mkF m 129 #[.val (.ref o), .val (.long p1), .second, .val (.int sl), .val (.int (Int32.ofNat ((r + g) % 16))), .val (.int (Int32.ofNat ((r + a) % 16))), .val (.int (Int32.ofNat (own_home (own_F ws r a)))), .val (.int (0 : Int32))] [(.int (Int32.ofNat ((r + a) % 16))), (.ref t), (.int (Int32.ofNat ((r + g) % 16))), (.ref t)])) rfl rfl (hb hby d9_129) _ kk) ?_
            show OwnGo p e below s _ _ _ T214 (mkF m 130 #[.val (.ref o), .val (.long p1), .second, .val (.int sl), .val (.int (Int32.ofNat ((r + g) % 16))), .val (.int (Int32.ofNat ((r + a) % 16))), .val (.int (Int32.ofNat (own_home (own_F ws r a)))), .val (.int (0 : Int32))] [(.long (own_F ws r a)), (.int (Int32.ofNat ((r + g) % 16))), (.ref t)])
            obtain ⟨cl216, Ar216, q216, S216, N216, H216, G216⟩ := id V
            obtain ⟨T216, h216, X216, e216, W216, st216⟩ := stJ X214 hx hZ e214 Ar216 (j := (Int32.ofNat ((r + g) % 16))) (inb_of S216 (own_inb (Nat.mod_lt _ (by decide)))) (g := (mkF m 130 #[.val (.ref o), .val (.long p1), .second, .val (.int sl), .val (.int (Int32.ofNat ((r + g) % 16))), .val (.int (Int32.ofNat ((r + a) % 16))), .val (.int (Int32.ofNat (own_home (own_F ws r a)))), .val (.int (0 : Int32))] [(.long (own_F ws r a)), (.int (Int32.ofNat ((r + g) % 16))), (.ref t)])) rfl rfl (hb hby d9_130)
            have V' := Arv.set Ar216 q216 S216 N216 H216 G216 rfl W216 ((r + g) % 16) (own_nat (Nat.mod_lt _ (by decide))) (by rw [List.length_map, LL.hl]; exact (Nat.mod_lt _ (by decide)))
            rw [own_set] at V'
            have E_o := E_o.wr W216
            have Fs := Fs.other W216 (Or.inl (Ne.symm ne_t_o))
            have F_size := F_size.other W216 (Or.inl (Ne.symm ne_t_o))
            have Kp := Kp.wr W216 (Or.inl (List.mem_of_getElem? (i := 1) rfl))
            have N216 := Fr.snoc X216 N188 g_t
            have Z_ : n0 ≤ h216.size := by rw [W216.size]; exact Z_
            have V := V'
            refine OwnGo.st st216 ?_
            show OwnGo p e below s _ _ _ T216 (mkF m 131 #[.val (.ref o), .val (.long p1), .second, .val (.int sl), .val (.int (Int32.ofNat ((r + g) % 16))), .val (.int (Int32.ofNat ((r + a) % 16))), .val (.int (Int32.ofNat (own_home (own_F ws r a)))), .val (.int (0 : Int32))] [])
            refine OwnGo.st (fun _ kk => XS.iload X216.here hx rfl (hb hby d9_131) rfl  kk) ?_
            show OwnGo p e below s _ _ _ T216 (mkF m 133 #[.val (.ref o), .val (.long p1), .second, .val (.int sl), .val (.int (Int32.ofNat ((r + g) % 16))), .val (.int (Int32.ofNat ((r + a) % 16))), .val (.int (Int32.ofNat (own_home (own_F ws r a)))), .val (.int (0 : Int32))] [(.int (Int32.ofNat ((r + a) % 16)))])
            refine OwnGo.st (fun _ kk => XS.istore X216.here hx rfl (hb hby d9_133) rfl (l' := #[.val (.ref o), .val (.long p1), .second, .val (.int sl), .val (.int (Int32.ofNat ((r + a) % 16))), .val (.int (Int32.ofNat ((r + a) % 16))), .val (.int (Int32.ofNat (own_home (own_F ws r a)))), .val (.int (0 : Int32))]) rfl kk) ?_
            show OwnGo p e below s _ _ _ T216 (mkF m 135 #[.val (.ref o), .val (.long p1), .second, .val (.int sl), .val (.int (Int32.ofNat ((r + a) % 16))), .val (.int (Int32.ofNat ((r + a) % 16))), .val (.int (Int32.ofNat (own_home (own_F ws r a)))), .val (.int (0 : Int32))] [])
            refine OwnGo.st (fun _ kk => XS.aloadN X216.here hx rfl (hb hby d9_135) rfl rfl  kk) ?_
            show OwnGo p e below s _ _ _ T216 (mkF m 136 #[.val (.ref o), .val (.long p1), .second, .val (.int sl), .val (.int (Int32.ofNat ((r + a) % 16))), .val (.int (Int32.ofNat ((r + a) % 16))), .val (.int (Int32.ofNat (own_home (own_F ws r a)))), .val (.int (0 : Int32))] [(.ref o)])
            refine OwnGo.st (fun _ kk => XS.iload X216.here hx rfl (hb hby d9_136) rfl  kk) ?_
            show OwnGo p e below s _ _ _ T216 (mkF m 138 #[.val (.ref o), .val (.long p1), .second, .val (.int sl), .val (.int (Int32.ofNat ((r + a) % 16))), .val (.int (Int32.ofNat ((r + a) % 16))), .val (.int (Int32.ofNat (own_home (own_F ws r a)))), .val (.int (0 : Int32))] [(.int (Int32.ofNat ((r + a) % 16))), (.ref o)])
            obtain ⟨cq217, q217, q217'⟩ := E_o.cell
            obtain ⟨_, _, ⟨T217, L217, k217, n217⟩, -, X217, ⟨Lc217, hQ217, l217, y217, z217⟩, st217⟩ := X216.privateBack hx (y := (⟨"com/example/utsatt/utsatt/KeyHashes", "next", "(I)I"⟩ : MethodName)) hown (mvT hZ (hw _ (List.mem_of_getElem? (i := 34) rfl))) (mvT hZ (hw _ (List.mem_of_getElem? (i := 35) rfl))) (own_selp (z := (⟨"com/example/utsatt/utsatt/KeyHashes", "add", "(J)Z"⟩ : MethodName)) (mvT hZ (hw _ (List.mem_of_getElem? (i := 19) rfl))) rfl (Cond.privateMethod_at (mvP hZ (hw _ (List.mem_of_getElem? (i := 36) rfl)) (args := #[]))) (mvT hZ (hw _ (List.mem_of_getElem? (i := 35) rfl))) (by decide)) (Cond.privateMethod_at (mvP hZ (hw _ (List.mem_of_getElem? (i := 36) rfl)) (args := #[]))) (mvT hZ (hw _ (List.mem_of_getElem? (i := 37) rfl))) (by decide) (backOf (W := 0) (rmnext l Z a0 hw [] o t kc (ws.set ((r + g) % 16) (own_F ws r a)) ((r + a) % 16) h216 n0 Z_ E_o Fs V LL'.hl (Nat.mod_lt _ (by decide))) hZ (hw _ (List.mem_of_getElem? (i := 37) rfl)) (hw _ (List.mem_of_getElem? (i := 6) rfl)) (by decide) (by decide)) (g := (mkF m 138 #[.val (.ref o), .val (.long p1), .second, .val (.int sl), .val (.int (Int32.ofNat ((r + a) % 16))), .val (.int (Int32.ofNat ((r + a) % 16))), .val (.int (Int32.ofNat (own_home (own_F ws r a)))), .val (.int (0 : Int32))] [(.int (Int32.ofNat ((r + a) % 16))), (.ref o)])) rfl (by rw [hml]; rfl) (Steps.refl _) (a := o) (by rw [e216]; exact q217) q217' (argsL := [(.int (Int32.ofNat ((r + a) % 16)))]) (rest := []) (lenOf pd_0 rfl) rfl (by show 2 * 0 + _ ≤ _; exact Nat.le_of_eq rfl) (hb hby d9_138) (fun _ _ => ⟨rfl, e216, (by decide : 0 + 0 ≤ _), (by decide : 0 + 0 ≤ _)⟩)
            dsimp only [Pt.U, Pt.locs, Pt.cells, Pt.slots] at X217 l217 y217 z217 st217 hQ217
            subst l217 y217 z217
            obtain ⟨rfl, N217q, e217⟩ := hQ217
            have N217 := Fr.app N216 N217q
            refine OwnGo.st (fun _ kk => st217.trans kk) ?_
            show OwnGo p e below s _ _ _ T217 (mkF m 141 #[.val (.ref o), .val (.long p1), .second, .val (.int sl), .val (.int (Int32.ofNat ((r + a) % 16))), .val (.int (Int32.ofNat ((r + a) % 16))), .val (.int (Int32.ofNat (own_home (own_F ws r a)))), .val (.int (0 : Int32))] [(.int (Int32.ofNat (own_nx ((r + a) % 16))))])
            rw [en]
            show OwnGo p e below s _ _ _ T217 (mkF m 141 #[.val (.ref o), .val (.long p1), .second, .val (.int sl), .val (.int (Int32.ofNat ((r + a) % 16))), .val (.int (Int32.ofNat ((r + a) % 16))), .val (.int (Int32.ofNat (own_home (own_F ws r a)))), .val (.int (0 : Int32))] [(.int (Int32.ofNat ((r + (a + 1)) % 16)))])
            refine OwnGo.st (fun _ kk => XS.istore X217.here hx rfl (hb hby d9_141) rfl (l' := #[.val (.ref o), .val (.long p1), .second, .val (.int sl), .val (.int (Int32.ofNat ((r + a) % 16))), .val (.int (Int32.ofNat ((r + (a + 1)) % 16))), .val (.int (Int32.ofNat (own_home (own_F ws r a)))), .val (.int (0 : Int32))]) rfl kk) ?_
            show OwnGo p e below s _ _ _ T217 (mkF m 143 #[.val (.ref o), .val (.long p1), .second, .val (.int sl), .val (.int (Int32.ofNat ((r + a) % 16))), .val (.int (Int32.ofNat ((r + (a + 1)) % 16))), .val (.int (Int32.ofNat (own_home (own_F ws r a)))), .val (.int (0 : Int32))] [])
            refine OwnGo.st (fun _ kk => XS.goto X217.here hx rfl (pc0 := 143) (pc' := 33) rfl (hb hby d9_143) (by decide) (by decide) kk) ?_
            show OwnGo p e below s _ _ _ T217 (mkF m 33 #[.val (.ref o), .val (.long p1), .second, .val (.int sl), .val (.int (Int32.ofNat ((r + a) % 16))), .val (.int (Int32.ofNat ((r + (a + 1)) % 16))), .val (.int (Int32.ofNat (own_home (own_F ws r a)))), .val (.int (0 : Int32))] [])
            exact ih (ws.set ((r + g) % 16) (own_F ws r a)) a (a + 1) h216 _ _ X217 e217 N217 E_o Fs V F_size Z_ LL' (by omega) (Or.inr ⟨_, _, rfl, rfl⟩) Kp
        · refine OwnGo.st (fun _ kk => XS.icmpYes X188.here hx rfl (pc0 := 66) (pc' := 91) rfl (hb hby d9_66) rfl (flt (q66 : ¬ ((Int32.ofNat ((r + g) % 16)) < (Int32.ofNat ((r + a) % 16))))).2.1 (by decide) (by decide) kk) ?_
          show OwnGo p e below s _ _ _ T188 (mkF m 91 #[.val (.ref o), .val (.long p1), .second, .val (.int sl), .val (.int (Int32.ofNat ((r + g) % 16))), .val (.int (Int32.ofNat ((r + a) % 16))), .val (.int (Int32.ofNat (own_home (own_F ws r a)))), .val (.int i7)] [])
          rw [own_ilt (Nat.mod_lt _ (by decide)) (Nat.mod_lt _ (by decide))] at q66
          refine OwnGo.st (fun _ kk => XS.iload X188.here hx rfl (hb hby d9_91) rfl  kk) ?_
          show OwnGo p e below s _ _ _ T188 (mkF m 93 #[.val (.ref o), .val (.long p1), .second, .val (.int sl), .val (.int (Int32.ofNat ((r + g) % 16))), .val (.int (Int32.ofNat ((r + a) % 16))), .val (.int (Int32.ofNat (own_home (own_F ws r a)))), .val (.int i7)] [(.int (Int32.ofNat (own_home (own_F ws r a))))])
          refine OwnGo.st (fun _ kk => XS.iload X188.here hx rfl (hb hby d9_93) rfl  kk) ?_
          show OwnGo p e below s _ _ _ T188 (mkF m 95 #[.val (.ref o), .val (.long p1), .second, .val (.int sl), .val (.int (Int32.ofNat ((r + g) % 16))), .val (.int (Int32.ofNat ((r + a) % 16))), .val (.int (Int32.ofNat (own_home (own_F ws r a)))), .val (.int i7)] [(.int (Int32.ofNat ((r + g) % 16))), (.int (Int32.ofNat (own_home (own_F ws r a))))])
          by_cases q95 : (Int32.ofNat ((r + g) % 16)) < (Int32.ofNat (own_home (own_F ws r a)))
          · refine OwnGo.st (fun _ kk => XS.icmpYes X188.here hx rfl (pc0 := 95) (pc' := 105) rfl (hb hby d9_95) rfl (tlt (q95 : (Int32.ofNat ((r + g) % 16)) < (Int32.ofNat (own_home (own_F ws r a))))).2.2.1 (by decide) (by decide) kk) ?_
            show OwnGo p e below s _ _ _ T188 (mkF m 105 #[.val (.ref o), .val (.long p1), .second, .val (.int sl), .val (.int (Int32.ofNat ((r + g) % 16))), .val (.int (Int32.ofNat ((r + a) % 16))), .val (.int (Int32.ofNat (own_home (own_F ws r a)))), .val (.int i7)] [])
            rw [own_ilt (Nat.mod_lt _ (by decide)) hm] at q95
            refine OwnGo.st (fun _ kk => XS.iconst X188.here hx rfl (hb hby d9_105) kk) ?_
            show OwnGo p e below s _ _ _ T188 (mkF m 106 #[.val (.ref o), .val (.long p1), .second, .val (.int sl), .val (.int (Int32.ofNat ((r + g) % 16))), .val (.int (Int32.ofNat ((r + a) % 16))), .val (.int (Int32.ofNat (own_home (own_F ws r a)))), .val (.int i7)] [(.int (1 : Int32))])
            refine OwnGo.st (fun _ kk => XS.goto X188.here hx rfl (pc0 := 106) (pc' := 110) rfl (hb hby d9_106) (by decide) (by decide) kk) ?_
            show OwnGo p e below s _ _ _ T188 (mkF m 110 #[.val (.ref o), .val (.long p1), .second, .val (.int sl), .val (.int (Int32.ofNat ((r + g) % 16))), .val (.int (Int32.ofNat ((r + a) % 16))), .val (.int (Int32.ofNat (own_home (own_F ws r a)))), .val (.int i7)] [(.int (1 : Int32))])
            refine OwnGo.st (fun _ kk => XS.istore X188.here hx rfl (hb hby d9_110) rfl (l' := #[.val (.ref o), .val (.long p1), .second, .val (.int sl), .val (.int (Int32.ofNat ((r + g) % 16))), .val (.int (Int32.ofNat ((r + a) % 16))), .val (.int (Int32.ofNat (own_home (own_F ws r a)))), .val (.int (1 : Int32))]) rfl kk) ?_
            show OwnGo p e below s _ _ _ T188 (mkF m 112 #[.val (.ref o), .val (.long p1), .second, .val (.int sl), .val (.int (Int32.ofNat ((r + g) % 16))), .val (.int (Int32.ofNat ((r + a) % 16))), .val (.int (Int32.ofNat (own_home (own_F ws r a)))), .val (.int (1 : Int32))] [])
            refine OwnGo.st (fun _ kk => XS.iload X188.here hx rfl (hb hby d9_112) rfl  kk) ?_
            show OwnGo p e below s _ _ _ T188 (mkF m 114 #[.val (.ref o), .val (.long p1), .second, .val (.int sl), .val (.int (Int32.ofNat ((r + g) % 16))), .val (.int (Int32.ofNat ((r + a) % 16))), .val (.int (Int32.ofNat (own_home (own_F ws r a)))), .val (.int (1 : Int32))] [(.int (1 : Int32))])
            have hin : g < own_H r (own_F ws r a) ∧ own_H r (own_F ws r a) ≤ a := cyc.1 (by omega)
            have LL' := own_L_in LL hz0 hin
            refine OwnGo.st (fun _ kk => XS.ifYes X188.here hx rfl (pc0 := 114) (pc' := 135) rfl (hb hby d9_114) rfl ((if0 _ _).trans (feq ((by decide) : ¬ ((1 : Int32) = (0 : Int32)))).2) (by decide) (by decide) kk) ?_
            show OwnGo p e below s _ _ _ T188 (mkF m 135 #[.val (.ref o), .val (.long p1), .second, .val (.int sl), .val (.int (Int32.ofNat ((r + g) % 16))), .val (.int (Int32.ofNat ((r + a) % 16))), .val (.int (Int32.ofNat (own_home (own_F ws r a)))), .val (.int (1 : Int32))] [])
            refine OwnGo.st (fun _ kk => XS.aloadN X188.here hx rfl (hb hby d9_135) rfl rfl  kk) ?_
            show OwnGo p e below s _ _ _ T188 (mkF m 136 #[.val (.ref o), .val (.long p1), .second, .val (.int sl), .val (.int (Int32.ofNat ((r + g) % 16))), .val (.int (Int32.ofNat ((r + a) % 16))), .val (.int (Int32.ofNat (own_home (own_F ws r a)))), .val (.int (1 : Int32))] [(.ref o)])
            refine OwnGo.st (fun _ kk => XS.iload X188.here hx rfl (hb hby d9_136) rfl  kk) ?_
            show OwnGo p e below s _ _ _ T188 (mkF m 138 #[.val (.ref o), .val (.long p1), .second, .val (.int sl), .val (.int (Int32.ofNat ((r + g) % 16))), .val (.int (Int32.ofNat ((r + a) % 16))), .val (.int (Int32.ofNat (own_home (own_F ws r a)))), .val (.int (1 : Int32))] [(.int (Int32.ofNat ((r + a) % 16))), (.ref o)])
            obtain ⟨cq218, q218, q218'⟩ := E_o.cell
            obtain ⟨_, _, ⟨T218, L218, k218, n218⟩, -, X218, ⟨Lc218, hQ218, l218, y218, z218⟩, st218⟩ := X188.privateBack hx (y := (⟨"com/example/utsatt/utsatt/KeyHashes", "next", "(I)I"⟩ : MethodName)) hown (mvT hZ (hw _ (List.mem_of_getElem? (i := 34) rfl))) (mvT hZ (hw _ (List.mem_of_getElem? (i := 35) rfl))) (own_selp (z := (⟨"com/example/utsatt/utsatt/KeyHashes", "add", "(J)Z"⟩ : MethodName)) (mvT hZ (hw _ (List.mem_of_getElem? (i := 19) rfl))) rfl (Cond.privateMethod_at (mvP hZ (hw _ (List.mem_of_getElem? (i := 36) rfl)) (args := #[]))) (mvT hZ (hw _ (List.mem_of_getElem? (i := 35) rfl))) (by decide)) (Cond.privateMethod_at (mvP hZ (hw _ (List.mem_of_getElem? (i := 36) rfl)) (args := #[]))) (mvT hZ (hw _ (List.mem_of_getElem? (i := 37) rfl))) (by decide) (backOf (W := 0) (rmnext l Z a0 hw [] o t kc ws ((r + a) % 16) h1 n0 Z_ E_o Fs V LL'.hl (Nat.mod_lt _ (by decide))) hZ (hw _ (List.mem_of_getElem? (i := 37) rfl)) (hw _ (List.mem_of_getElem? (i := 6) rfl)) (by decide) (by decide)) (g := (mkF m 138 #[.val (.ref o), .val (.long p1), .second, .val (.int sl), .val (.int (Int32.ofNat ((r + g) % 16))), .val (.int (Int32.ofNat ((r + a) % 16))), .val (.int (Int32.ofNat (own_home (own_F ws r a)))), .val (.int (1 : Int32))] [(.int (Int32.ofNat ((r + a) % 16))), (.ref o)])) rfl (by rw [hml]; rfl) (Steps.refl _) (a := o) (by rw [e188]; exact q218) q218' (argsL := [(.int (Int32.ofNat ((r + a) % 16)))]) (rest := []) (lenOf pd_0 rfl) rfl (by show 2 * 0 + _ ≤ _; exact Nat.le_of_eq rfl) (hb hby d9_138) (fun _ _ => ⟨rfl, e188, (by decide : 0 + 0 ≤ _), (by decide : 0 + 0 ≤ _)⟩)
            dsimp only [Pt.U, Pt.locs, Pt.cells, Pt.slots] at X218 l218 y218 z218 st218 hQ218
            subst l218 y218 z218
            obtain ⟨rfl, N218q, e218⟩ := hQ218
            have N218 := Fr.app N188 N218q
            refine OwnGo.st (fun _ kk => st218.trans kk) ?_
            show OwnGo p e below s _ _ _ T218 (mkF m 141 #[.val (.ref o), .val (.long p1), .second, .val (.int sl), .val (.int (Int32.ofNat ((r + g) % 16))), .val (.int (Int32.ofNat ((r + a) % 16))), .val (.int (Int32.ofNat (own_home (own_F ws r a)))), .val (.int (1 : Int32))] [(.int (Int32.ofNat (own_nx ((r + a) % 16))))])
            rw [en]
            show OwnGo p e below s _ _ _ T218 (mkF m 141 #[.val (.ref o), .val (.long p1), .second, .val (.int sl), .val (.int (Int32.ofNat ((r + g) % 16))), .val (.int (Int32.ofNat ((r + a) % 16))), .val (.int (Int32.ofNat (own_home (own_F ws r a)))), .val (.int (1 : Int32))] [(.int (Int32.ofNat ((r + (a + 1)) % 16)))])
            refine OwnGo.st (fun _ kk => XS.istore X218.here hx rfl (hb hby d9_141) rfl (l' := #[.val (.ref o), .val (.long p1), .second, .val (.int sl), .val (.int (Int32.ofNat ((r + g) % 16))), .val (.int (Int32.ofNat ((r + (a + 1)) % 16))), .val (.int (Int32.ofNat (own_home (own_F ws r a)))), .val (.int (1 : Int32))]) rfl kk) ?_
            show OwnGo p e below s _ _ _ T218 (mkF m 143 #[.val (.ref o), .val (.long p1), .second, .val (.int sl), .val (.int (Int32.ofNat ((r + g) % 16))), .val (.int (Int32.ofNat ((r + (a + 1)) % 16))), .val (.int (Int32.ofNat (own_home (own_F ws r a)))), .val (.int (1 : Int32))] [])
            refine OwnGo.st (fun _ kk => XS.goto X218.here hx rfl (pc0 := 143) (pc' := 33) rfl (hb hby d9_143) (by decide) (by decide) kk) ?_
            show OwnGo p e below s _ _ _ T218 (mkF m 33 #[.val (.ref o), .val (.long p1), .second, .val (.int sl), .val (.int (Int32.ofNat ((r + g) % 16))), .val (.int (Int32.ofNat ((r + (a + 1)) % 16))), .val (.int (Int32.ofNat (own_home (own_F ws r a)))), .val (.int (1 : Int32))] [])
            exact ih ws g (a + 1) h1 _ _ X218 e218 N218 E_o Fs V F_size Z_ LL' (by omega) (Or.inr ⟨_, _, rfl, rfl⟩) Kp
          · refine OwnGo.st (fun _ kk => XS.icmpNo X188.here hx rfl (hb hby d9_95) rfl (flt (q95 : ¬ ((Int32.ofNat ((r + g) % 16)) < (Int32.ofNat (own_home (own_F ws r a)))))).2.2.1 kk) ?_
            show OwnGo p e below s _ _ _ T188 (mkF m 98 #[.val (.ref o), .val (.long p1), .second, .val (.int sl), .val (.int (Int32.ofNat ((r + g) % 16))), .val (.int (Int32.ofNat ((r + a) % 16))), .val (.int (Int32.ofNat (own_home (own_F ws r a)))), .val (.int i7)] [])
            rw [own_ilt (Nat.mod_lt _ (by decide)) hm] at q95
            refine OwnGo.st (fun _ kk => XS.iload X188.here hx rfl (hb hby d9_98) rfl  kk) ?_
            show OwnGo p e below s _ _ _ T188 (mkF m 100 #[.val (.ref o), .val (.long p1), .second, .val (.int sl), .val (.int (Int32.ofNat ((r + g) % 16))), .val (.int (Int32.ofNat ((r + a) % 16))), .val (.int (Int32.ofNat (own_home (own_F ws r a)))), .val (.int i7)] [(.int (Int32.ofNat (own_home (own_F ws r a))))])
            refine OwnGo.st (fun _ kk => XS.iload X188.here hx rfl (hb hby d9_100) rfl  kk) ?_
            show OwnGo p e below s _ _ _ T188 (mkF m 102 #[.val (.ref o), .val (.long p1), .second, .val (.int sl), .val (.int (Int32.ofNat ((r + g) % 16))), .val (.int (Int32.ofNat ((r + a) % 16))), .val (.int (Int32.ofNat (own_home (own_F ws r a)))), .val (.int i7)] [(.int (Int32.ofNat ((r + a) % 16))), (.int (Int32.ofNat (own_home (own_F ws r a))))])
            by_cases q102 : (Int32.ofNat ((r + a) % 16)) < (Int32.ofNat (own_home (own_F ws r a)))
            · refine OwnGo.st (fun _ kk => XS.icmpYes X188.here hx rfl (pc0 := 102) (pc' := 109) rfl (hb hby d9_102) rfl (tlt (q102 : (Int32.ofNat ((r + a) % 16)) < (Int32.ofNat (own_home (own_F ws r a))))).2.2.1 (by decide) (by decide) kk) ?_
              show OwnGo p e below s _ _ _ T188 (mkF m 109 #[.val (.ref o), .val (.long p1), .second, .val (.int sl), .val (.int (Int32.ofNat ((r + g) % 16))), .val (.int (Int32.ofNat ((r + a) % 16))), .val (.int (Int32.ofNat (own_home (own_F ws r a)))), .val (.int i7)] [])
              rw [own_ilt (Nat.mod_lt _ (by decide)) hm] at q102
              refine OwnGo.st (fun _ kk => XS.iconst X188.here hx rfl (hb hby d9_109) kk) ?_
              show OwnGo p e below s _ _ _ T188 (mkF m 110 #[.val (.ref o), .val (.long p1), .second, .val (.int sl), .val (.int (Int32.ofNat ((r + g) % 16))), .val (.int (Int32.ofNat ((r + a) % 16))), .val (.int (Int32.ofNat (own_home (own_F ws r a)))), .val (.int i7)] [(.int (0 : Int32))])
              refine OwnGo.st (fun _ kk => XS.istore X188.here hx rfl (hb hby d9_110) rfl (l' := #[.val (.ref o), .val (.long p1), .second, .val (.int sl), .val (.int (Int32.ofNat ((r + g) % 16))), .val (.int (Int32.ofNat ((r + a) % 16))), .val (.int (Int32.ofNat (own_home (own_F ws r a)))), .val (.int (0 : Int32))]) rfl kk) ?_
              show OwnGo p e below s _ _ _ T188 (mkF m 112 #[.val (.ref o), .val (.long p1), .second, .val (.int sl), .val (.int (Int32.ofNat ((r + g) % 16))), .val (.int (Int32.ofNat ((r + a) % 16))), .val (.int (Int32.ofNat (own_home (own_F ws r a)))), .val (.int (0 : Int32))] [])
              refine OwnGo.st (fun _ kk => XS.iload X188.here hx rfl (hb hby d9_112) rfl  kk) ?_
              show OwnGo p e below s _ _ _ T188 (mkF m 114 #[.val (.ref o), .val (.long p1), .second, .val (.int sl), .val (.int (Int32.ofNat ((r + g) % 16))), .val (.int (Int32.ofNat ((r + a) % 16))), .val (.int (Int32.ofNat (own_home (own_F ws r a)))), .val (.int (0 : Int32))] [(.int (0 : Int32))])
              have hin : ¬ (g < own_H r (own_F ws r a) ∧ own_H r (own_F ws r a) ≤ a) := fun z => absurd (cyc.2 z) (by omega)
              have LL' := own_L_out LL hz0 hin
              refine OwnGo.st (fun _ kk => XS.ifNo X188.here hx rfl (hb hby d9_114) rfl ((if0 _ _).trans (teq ((by decide) : (0 : Int32) = (0 : Int32))).2) kk) ?_
              show OwnGo p e below s _ _ _ T188 (mkF m 117 #[.val (.ref o), .val (.long p1), .second, .val (.int sl), .val (.int (Int32.ofNat ((r + g) % 16))), .val (.int (Int32.ofNat ((r + a) % 16))), .val (.int (Int32.ofNat (own_home (own_F ws r a)))), .val (.int (0 : Int32))] [])
              refine OwnGo.st (fun _ kk => XS.aloadN X188.here hx rfl (hb hby d9_117) rfl rfl  kk) ?_
              show OwnGo p e below s _ _ _ T188 (mkF m 118 #[.val (.ref o), .val (.long p1), .second, .val (.int sl), .val (.int (Int32.ofNat ((r + g) % 16))), .val (.int (Int32.ofNat ((r + a) % 16))), .val (.int (Int32.ofNat (own_home (own_F ws r a)))), .val (.int (0 : Int32))] [(.ref o)])
              obtain ⟨T219, X219, e219, st219⟩ := getF X188 hx hZ hown (host := "") (Or.inl (hw _ (List.mem_of_getElem? (i := 14) rfl))) Via.refl e188 Fs (g := (mkF m 118 #[.val (.ref o), .val (.long p1), .second, .val (.int sl), .val (.int (Int32.ofNat ((r + g) % 16))), .val (.int (Int32.ofNat ((r + a) % 16))), .val (.int (Int32.ofNat (own_home (own_F ws r a)))), .val (.int (0 : Int32))] [(.ref o)])) rfl rfl (hb hby d9_118)
              refine OwnGo.st st219 ?_
              show OwnGo p e below s _ _ _ T219 (mkF m 121 #[.val (.ref o), .val (.long p1), .second, .val (.int sl), .val (.int (Int32.ofNat ((r + g) % 16))), .val (.int (Int32.ofNat ((r + a) % 16))), .val (.int (Int32.ofNat (own_home (own_F ws r a)))), .val (.int (0 : Int32))] [(.ref t)])
              refine OwnGo.st (fun _ kk => XS.iload X219.here hx rfl (hb hby d9_121) rfl  kk) ?_
              show OwnGo p e below s _ _ _ T219 (mkF m 123 #[.val (.ref o), .val (.long p1), .second, .val (.int sl), .val (.int (Int32.ofNat ((r + g) % 16))), .val (.int (Int32.ofNat ((r + a) % 16))), .val (.int (Int32.ofNat (own_home (own_F ws r a)))), .val (.int (0 : Int32))] [(.int (Int32.ofNat ((r + g) % 16))), (.ref t)])
              refine OwnGo.st (fun _ kk => XS.aloadN X219.here hx rfl (hb hby d9_123) rfl rfl  kk) ?_
              show OwnGo p e below s _ _ _ T219 (mkF m 124 #[.val (.ref o), .val (.long p1), .second, .val (.int sl), .val (.int (Int32.ofNat ((r + g) % 16))), .val (.int (Int32.ofNat ((r + a) % 16))), .val (.int (Int32.ofNat (own_home (own_F ws r a)))), .val (.int (0 : Int32))] [(.ref o), (.int (Int32.ofNat ((r + g) % 16))), (.ref t)])
              obtain ⟨T220, X220, e220, st220⟩ := getF X219 hx hZ hown (host := "") (Or.inl (hw _ (List.mem_of_getElem? (i := 14) rfl))) Via.refl e219 Fs (g := (mkF m 124 #[.val (.ref o), .val (.long p1), .second, .val (.int sl), .val (.int (Int32.ofNat ((r + g) % 16))), .val (.int (Int32.ofNat ((r + a) % 16))), .val (.int (Int32.ofNat (own_home (own_F ws r a)))), .val (.int (0 : Int32))] [(.ref o), (.int (Int32.ofNat ((r + g) % 16))), (.ref t)])) rfl rfl (hb hby d9_124)
              refine OwnGo.st st220 ?_
              show OwnGo p e below s _ _ _ T220 (mkF m 127 #[.val (.ref o), .val (.long p1), .second, .val (.int sl), .val (.int (Int32.ofNat ((r + g) % 16))), .val (.int (Int32.ofNat ((r + a) % 16))), .val (.int (Int32.ofNat (own_home (own_F ws r a)))), .val (.int (0 : Int32))] [(.ref t), (.int (Int32.ofNat ((r + g) % 16))), (.ref t)])
              refine OwnGo.st (fun _ kk => XS.iload X220.here hx rfl (hb hby d9_127) rfl  kk) ?_
              show OwnGo p e below s _ _ _ T220 (mkF m 129 #[.val (.ref o), .val (.long p1), .second, .val (.int sl), .val (.int (Int32.ofNat ((r + g) % 16))), .val (.int (Int32.ofNat ((r + a) % 16))), .val (.int (Int32.ofNat (own_home (own_F ws r a)))), .val (.int (0 : Int32))] [(.int (Int32.ofNat ((r + a) % 16))), (.ref t), (.int (Int32.ofNat ((r + g) % 16))), (.ref t)])
              obtain ⟨cl221, Ar221, -, S221, -, H221, -⟩ := id V
              have hin221 : ¬ ((Int32.ofNat ((r + a) % 16)) < 0 ∨ cl221.slots.size ≤ ((Int32.ofNat ((r + a) % 16))).toNatClampNeg) := inb_of S221 (own_inb (Nat.mod_lt _ (by decide)))
              refine OwnGo.st (fun _ kk => X220.laload hx (j := (Int32.ofNat ((r + a) % 16))) (v := (.long (own_F ws r a))) (by first | exact Ar221.1 | (rw [e220]; exact Ar221.1)) (State.isArrayOf_alike hZ.alike Ar221.2.1) Ar221.2.2 hin221 (H221.at hin221 (own_get LL.hl (Nat.mod_lt _ (by decide)))) (g := (mkF m 129 #[.val (.ref o), .val (.long p1), .second, .val (.int sl), .val (.int (Int32.ofNat ((r + g) % 16))), .val (.int (Int32.ofNat ((r + a) % 16))), .val (.int (Int32.ofNat (own_home (own_F ws r a)))), .val (.int (0 : Int32))] [(.int (Int32.ofNat ((r + a) % 16))), (.ref t), (.int (Int32.ofNat ((r + g) % 16))), (.ref t)])) rfl rfl (hb hby d9_129) _ kk) ?_
              show OwnGo p e below s _ _ _ T220 (mkF m 130 #[.val (.ref o), .val (.long p1), .second, .val (.int sl), .val (.int (Int32.ofNat ((r + g) % 16))), .val (.int (Int32.ofNat ((r + a) % 16))), .val (.int (Int32.ofNat (own_home (own_F ws r a)))), .val (.int (0 : Int32))] [(.long (own_F ws r a)), (.int (Int32.ofNat ((r + g) % 16))), (.ref t)])
              obtain ⟨cl222, Ar222, q222, S222, N222, H222, G222⟩ := id V
              obtain ⟨T222, h222, X222, e222, W222, st222⟩ := stJ X220 hx hZ e220 Ar222 (j := (Int32.ofNat ((r + g) % 16))) (inb_of S222 (own_inb (Nat.mod_lt _ (by decide)))) (g := (mkF m 130 #[.val (.ref o), .val (.long p1), .second, .val (.int sl), .val (.int (Int32.ofNat ((r + g) % 16))), .val (.int (Int32.ofNat ((r + a) % 16))), .val (.int (Int32.ofNat (own_home (own_F ws r a)))), .val (.int (0 : Int32))] [(.long (own_F ws r a)), (.int (Int32.ofNat ((r + g) % 16))), (.ref t)])) rfl rfl (hb hby d9_130)
              have V' := Arv.set Ar222 q222 S222 N222 H222 G222 rfl W222 ((r + g) % 16) (own_nat (Nat.mod_lt _ (by decide))) (by rw [List.length_map, LL.hl]; exact (Nat.mod_lt _ (by decide)))
              rw [own_set] at V'
              have E_o := E_o.wr W222
              have Fs := Fs.other W222 (Or.inl (Ne.symm ne_t_o))
              have F_size := F_size.other W222 (Or.inl (Ne.symm ne_t_o))
              have Kp := Kp.wr W222 (Or.inl (List.mem_of_getElem? (i := 1) rfl))
              have N222 := Fr.snoc X222 N188 g_t
              have Z_ : n0 ≤ h222.size := by rw [W222.size]; exact Z_
              have V := V'
              refine OwnGo.st st222 ?_
              show OwnGo p e below s _ _ _ T222 (mkF m 131 #[.val (.ref o), .val (.long p1), .second, .val (.int sl), .val (.int (Int32.ofNat ((r + g) % 16))), .val (.int (Int32.ofNat ((r + a) % 16))), .val (.int (Int32.ofNat (own_home (own_F ws r a)))), .val (.int (0 : Int32))] [])
              refine OwnGo.st (fun _ kk => XS.iload X222.here hx rfl (hb hby d9_131) rfl  kk) ?_
              show OwnGo p e below s _ _ _ T222 (mkF m 133 #[.val (.ref o), .val (.long p1), .second, .val (.int sl), .val (.int (Int32.ofNat ((r + g) % 16))), .val (.int (Int32.ofNat ((r + a) % 16))), .val (.int (Int32.ofNat (own_home (own_F ws r a)))), .val (.int (0 : Int32))] [(.int (Int32.ofNat ((r + a) % 16)))])
              refine OwnGo.st (fun _ kk => XS.istore X222.here hx rfl (hb hby d9_133) rfl (l' := #[.val (.ref o), .val (.long p1), .second, .val (.int sl), .val (.int (Int32.ofNat ((r + a) % 16))), .val (.int (Int32.ofNat ((r + a) % 16))), .val (.int (Int32.ofNat (own_home (own_F ws r a)))), .val (.int (0 : Int32))]) rfl kk) ?_
              show OwnGo p e below s _ _ _ T222 (mkF m 135 #[.val (.ref o), .val (.long p1), .second, .val (.int sl), .val (.int (Int32.ofNat ((r + a) % 16))), .val (.int (Int32.ofNat ((r + a) % 16))), .val (.int (Int32.ofNat (own_home (own_F ws r a)))), .val (.int (0 : Int32))] [])
              refine OwnGo.st (fun _ kk => XS.aloadN X222.here hx rfl (hb hby d9_135) rfl rfl  kk) ?_
              show OwnGo p e below s _ _ _ T222 (mkF m 136 #[.val (.ref o), .val (.long p1), .second, .val (.int sl), .val (.int (Int32.ofNat ((r + a) % 16))), .val (.int (Int32.ofNat ((r + a) % 16))), .val (.int (Int32.ofNat (own_home (own_F ws r a)))), .val (.int (0 : Int32))] [(.ref o)])
              refine OwnGo.st (fun _ kk => XS.iload X222.here hx rfl (hb hby d9_136) rfl  kk) ?_
              show OwnGo p e below s _ _ _ T222 (mkF m 138 #[.val (.ref o), .val (.long p1), .second, .val (.int sl), .val (.int (Int32.ofNat ((r + a) % 16))), .val (.int (Int32.ofNat ((r + a) % 16))), .val (.int (Int32.ofNat (own_home (own_F ws r a)))), .val (.int (0 : Int32))] [(.int (Int32.ofNat ((r + a) % 16))), (.ref o)])
              obtain ⟨cq223, q223, q223'⟩ := E_o.cell
              obtain ⟨_, _, ⟨T223, L223, k223, n223⟩, -, X223, ⟨Lc223, hQ223, l223, y223, z223⟩, st223⟩ := X222.privateBack hx (y := (⟨"com/example/utsatt/utsatt/KeyHashes", "next", "(I)I"⟩ : MethodName)) hown (mvT hZ (hw _ (List.mem_of_getElem? (i := 34) rfl))) (mvT hZ (hw _ (List.mem_of_getElem? (i := 35) rfl))) (own_selp (z := (⟨"com/example/utsatt/utsatt/KeyHashes", "add", "(J)Z"⟩ : MethodName)) (mvT hZ (hw _ (List.mem_of_getElem? (i := 19) rfl))) rfl (Cond.privateMethod_at (mvP hZ (hw _ (List.mem_of_getElem? (i := 36) rfl)) (args := #[]))) (mvT hZ (hw _ (List.mem_of_getElem? (i := 35) rfl))) (by decide)) (Cond.privateMethod_at (mvP hZ (hw _ (List.mem_of_getElem? (i := 36) rfl)) (args := #[]))) (mvT hZ (hw _ (List.mem_of_getElem? (i := 37) rfl))) (by decide) (backOf (W := 0) (rmnext l Z a0 hw [] o t kc (ws.set ((r + g) % 16) (own_F ws r a)) ((r + a) % 16) h222 n0 Z_ E_o Fs V LL'.hl (Nat.mod_lt _ (by decide))) hZ (hw _ (List.mem_of_getElem? (i := 37) rfl)) (hw _ (List.mem_of_getElem? (i := 6) rfl)) (by decide) (by decide)) (g := (mkF m 138 #[.val (.ref o), .val (.long p1), .second, .val (.int sl), .val (.int (Int32.ofNat ((r + a) % 16))), .val (.int (Int32.ofNat ((r + a) % 16))), .val (.int (Int32.ofNat (own_home (own_F ws r a)))), .val (.int (0 : Int32))] [(.int (Int32.ofNat ((r + a) % 16))), (.ref o)])) rfl (by rw [hml]; rfl) (Steps.refl _) (a := o) (by rw [e222]; exact q223) q223' (argsL := [(.int (Int32.ofNat ((r + a) % 16)))]) (rest := []) (lenOf pd_0 rfl) rfl (by show 2 * 0 + _ ≤ _; exact Nat.le_of_eq rfl) (hb hby d9_138) (fun _ _ => ⟨rfl, e222, (by decide : 0 + 0 ≤ _), (by decide : 0 + 0 ≤ _)⟩)
              dsimp only [Pt.U, Pt.locs, Pt.cells, Pt.slots] at X223 l223 y223 z223 st223 hQ223
              subst l223 y223 z223
              obtain ⟨rfl, N223q, e223⟩ := hQ223
              have N223 := Fr.app N222 N223q
              refine OwnGo.st (fun _ kk => st223.trans kk) ?_
              show OwnGo p e below s _ _ _ T223 (mkF m 141 #[.val (.ref o), .val (.long p1), .second, .val (.int sl), .val (.int (Int32.ofNat ((r + a) % 16))), .val (.int (Int32.ofNat ((r + a) % 16))), .val (.int (Int32.ofNat (own_home (own_F ws r a)))), .val (.int (0 : Int32))] [(.int (Int32.ofNat (own_nx ((r + a) % 16))))])
              rw [en]
              show OwnGo p e below s _ _ _ T223 (mkF m 141 #[.val (.ref o), .val (.long p1), .second, .val (.int sl), .val (.int (Int32.ofNat ((r + a) % 16))), .val (.int (Int32.ofNat ((r + a) % 16))), .val (.int (Int32.ofNat (own_home (own_F ws r a)))), .val (.int (0 : Int32))] [(.int (Int32.ofNat ((r + (a + 1)) % 16)))])
              refine OwnGo.st (fun _ kk => XS.istore X223.here hx rfl (hb hby d9_141) rfl (l' := #[.val (.ref o), .val (.long p1), .second, .val (.int sl), .val (.int (Int32.ofNat ((r + a) % 16))), .val (.int (Int32.ofNat ((r + (a + 1)) % 16))), .val (.int (Int32.ofNat (own_home (own_F ws r a)))), .val (.int (0 : Int32))]) rfl kk) ?_
              show OwnGo p e below s _ _ _ T223 (mkF m 143 #[.val (.ref o), .val (.long p1), .second, .val (.int sl), .val (.int (Int32.ofNat ((r + a) % 16))), .val (.int (Int32.ofNat ((r + (a + 1)) % 16))), .val (.int (Int32.ofNat (own_home (own_F ws r a)))), .val (.int (0 : Int32))] [])
              refine OwnGo.st (fun _ kk => XS.goto X223.here hx rfl (pc0 := 143) (pc' := 33) rfl (hb hby d9_143) (by decide) (by decide) kk) ?_
              show OwnGo p e below s _ _ _ T223 (mkF m 33 #[.val (.ref o), .val (.long p1), .second, .val (.int sl), .val (.int (Int32.ofNat ((r + a) % 16))), .val (.int (Int32.ofNat ((r + (a + 1)) % 16))), .val (.int (Int32.ofNat (own_home (own_F ws r a)))), .val (.int (0 : Int32))] [])
              exact ih (ws.set ((r + g) % 16) (own_F ws r a)) a (a + 1) h222 _ _ X223 e223 N223 E_o Fs V F_size Z_ LL' (by omega) (Or.inr ⟨_, _, rfl, rfl⟩) Kp
            · refine OwnGo.st (fun _ kk => XS.icmpNo X188.here hx rfl (hb hby d9_102) rfl (flt (q102 : ¬ ((Int32.ofNat ((r + a) % 16)) < (Int32.ofNat (own_home (own_F ws r a)))))).2.2.1 kk) ?_
              show OwnGo p e below s _ _ _ T188 (mkF m 105 #[.val (.ref o), .val (.long p1), .second, .val (.int sl), .val (.int (Int32.ofNat ((r + g) % 16))), .val (.int (Int32.ofNat ((r + a) % 16))), .val (.int (Int32.ofNat (own_home (own_F ws r a)))), .val (.int i7)] [])
              rw [own_ilt (Nat.mod_lt _ (by decide)) hm] at q102
              refine OwnGo.st (fun _ kk => XS.iconst X188.here hx rfl (hb hby d9_105) kk) ?_
              show OwnGo p e below s _ _ _ T188 (mkF m 106 #[.val (.ref o), .val (.long p1), .second, .val (.int sl), .val (.int (Int32.ofNat ((r + g) % 16))), .val (.int (Int32.ofNat ((r + a) % 16))), .val (.int (Int32.ofNat (own_home (own_F ws r a)))), .val (.int i7)] [(.int (1 : Int32))])
              refine OwnGo.st (fun _ kk => XS.goto X188.here hx rfl (pc0 := 106) (pc' := 110) rfl (hb hby d9_106) (by decide) (by decide) kk) ?_
              show OwnGo p e below s _ _ _ T188 (mkF m 110 #[.val (.ref o), .val (.long p1), .second, .val (.int sl), .val (.int (Int32.ofNat ((r + g) % 16))), .val (.int (Int32.ofNat ((r + a) % 16))), .val (.int (Int32.ofNat (own_home (own_F ws r a)))), .val (.int i7)] [(.int (1 : Int32))])
              refine OwnGo.st (fun _ kk => XS.istore X188.here hx rfl (hb hby d9_110) rfl (l' := #[.val (.ref o), .val (.long p1), .second, .val (.int sl), .val (.int (Int32.ofNat ((r + g) % 16))), .val (.int (Int32.ofNat ((r + a) % 16))), .val (.int (Int32.ofNat (own_home (own_F ws r a)))), .val (.int (1 : Int32))]) rfl kk) ?_
              show OwnGo p e below s _ _ _ T188 (mkF m 112 #[.val (.ref o), .val (.long p1), .second, .val (.int sl), .val (.int (Int32.ofNat ((r + g) % 16))), .val (.int (Int32.ofNat ((r + a) % 16))), .val (.int (Int32.ofNat (own_home (own_F ws r a)))), .val (.int (1 : Int32))] [])
              refine OwnGo.st (fun _ kk => XS.iload X188.here hx rfl (hb hby d9_112) rfl  kk) ?_
              show OwnGo p e below s _ _ _ T188 (mkF m 114 #[.val (.ref o), .val (.long p1), .second, .val (.int sl), .val (.int (Int32.ofNat ((r + g) % 16))), .val (.int (Int32.ofNat ((r + a) % 16))), .val (.int (Int32.ofNat (own_home (own_F ws r a)))), .val (.int (1 : Int32))] [(.int (1 : Int32))])
              have hin : g < own_H r (own_F ws r a) ∧ own_H r (own_F ws r a) ≤ a := cyc.1 (by omega)
              have LL' := own_L_in LL hz0 hin
              refine OwnGo.st (fun _ kk => XS.ifYes X188.here hx rfl (pc0 := 114) (pc' := 135) rfl (hb hby d9_114) rfl ((if0 _ _).trans (feq ((by decide) : ¬ ((1 : Int32) = (0 : Int32)))).2) (by decide) (by decide) kk) ?_
              show OwnGo p e below s _ _ _ T188 (mkF m 135 #[.val (.ref o), .val (.long p1), .second, .val (.int sl), .val (.int (Int32.ofNat ((r + g) % 16))), .val (.int (Int32.ofNat ((r + a) % 16))), .val (.int (Int32.ofNat (own_home (own_F ws r a)))), .val (.int (1 : Int32))] [])
              refine OwnGo.st (fun _ kk => XS.aloadN X188.here hx rfl (hb hby d9_135) rfl rfl  kk) ?_
              show OwnGo p e below s _ _ _ T188 (mkF m 136 #[.val (.ref o), .val (.long p1), .second, .val (.int sl), .val (.int (Int32.ofNat ((r + g) % 16))), .val (.int (Int32.ofNat ((r + a) % 16))), .val (.int (Int32.ofNat (own_home (own_F ws r a)))), .val (.int (1 : Int32))] [(.ref o)])
              refine OwnGo.st (fun _ kk => XS.iload X188.here hx rfl (hb hby d9_136) rfl  kk) ?_
              show OwnGo p e below s _ _ _ T188 (mkF m 138 #[.val (.ref o), .val (.long p1), .second, .val (.int sl), .val (.int (Int32.ofNat ((r + g) % 16))), .val (.int (Int32.ofNat ((r + a) % 16))), .val (.int (Int32.ofNat (own_home (own_F ws r a)))), .val (.int (1 : Int32))] [(.int (Int32.ofNat ((r + a) % 16))), (.ref o)])
              obtain ⟨cq224, q224, q224'⟩ := E_o.cell
              obtain ⟨_, _, ⟨T224, L224, k224, n224⟩, -, X224, ⟨Lc224, hQ224, l224, y224, z224⟩, st224⟩ := X188.privateBack hx (y := (⟨"com/example/utsatt/utsatt/KeyHashes", "next", "(I)I"⟩ : MethodName)) hown (mvT hZ (hw _ (List.mem_of_getElem? (i := 34) rfl))) (mvT hZ (hw _ (List.mem_of_getElem? (i := 35) rfl))) (own_selp (z := (⟨"com/example/utsatt/utsatt/KeyHashes", "add", "(J)Z"⟩ : MethodName)) (mvT hZ (hw _ (List.mem_of_getElem? (i := 19) rfl))) rfl (Cond.privateMethod_at (mvP hZ (hw _ (List.mem_of_getElem? (i := 36) rfl)) (args := #[]))) (mvT hZ (hw _ (List.mem_of_getElem? (i := 35) rfl))) (by decide)) (Cond.privateMethod_at (mvP hZ (hw _ (List.mem_of_getElem? (i := 36) rfl)) (args := #[]))) (mvT hZ (hw _ (List.mem_of_getElem? (i := 37) rfl))) (by decide) (backOf (W := 0) (rmnext l Z a0 hw [] o t kc ws ((r + a) % 16) h1 n0 Z_ E_o Fs V LL'.hl (Nat.mod_lt _ (by decide))) hZ (hw _ (List.mem_of_getElem? (i := 37) rfl)) (hw _ (List.mem_of_getElem? (i := 6) rfl)) (by decide) (by decide)) (g := (mkF m 138 #[.val (.ref o), .val (.long p1), .second, .val (.int sl), .val (.int (Int32.ofNat ((r + g) % 16))), .val (.int (Int32.ofNat ((r + a) % 16))), .val (.int (Int32.ofNat (own_home (own_F ws r a)))), .val (.int (1 : Int32))] [(.int (Int32.ofNat ((r + a) % 16))), (.ref o)])) rfl (by rw [hml]; rfl) (Steps.refl _) (a := o) (by rw [e188]; exact q224) q224' (argsL := [(.int (Int32.ofNat ((r + a) % 16)))]) (rest := []) (lenOf pd_0 rfl) rfl (by show 2 * 0 + _ ≤ _; exact Nat.le_of_eq rfl) (hb hby d9_138) (fun _ _ => ⟨rfl, e188, (by decide : 0 + 0 ≤ _), (by decide : 0 + 0 ≤ _)⟩)
              dsimp only [Pt.U, Pt.locs, Pt.cells, Pt.slots] at X224 l224 y224 z224 st224 hQ224
              subst l224 y224 z224
              obtain ⟨rfl, N224q, e224⟩ := hQ224
              have N224 := Fr.app N188 N224q
              refine OwnGo.st (fun _ kk => st224.trans kk) ?_
              show OwnGo p e below s _ _ _ T224 (mkF m 141 #[.val (.ref o), .val (.long p1), .second, .val (.int sl), .val (.int (Int32.ofNat ((r + g) % 16))), .val (.int (Int32.ofNat ((r + a) % 16))), .val (.int (Int32.ofNat (own_home (own_F ws r a)))), .val (.int (1 : Int32))] [(.int (Int32.ofNat (own_nx ((r + a) % 16))))])
              rw [en]
              show OwnGo p e below s _ _ _ T224 (mkF m 141 #[.val (.ref o), .val (.long p1), .second, .val (.int sl), .val (.int (Int32.ofNat ((r + g) % 16))), .val (.int (Int32.ofNat ((r + a) % 16))), .val (.int (Int32.ofNat (own_home (own_F ws r a)))), .val (.int (1 : Int32))] [(.int (Int32.ofNat ((r + (a + 1)) % 16)))])
              refine OwnGo.st (fun _ kk => XS.istore X224.here hx rfl (hb hby d9_141) rfl (l' := #[.val (.ref o), .val (.long p1), .second, .val (.int sl), .val (.int (Int32.ofNat ((r + g) % 16))), .val (.int (Int32.ofNat ((r + (a + 1)) % 16))), .val (.int (Int32.ofNat (own_home (own_F ws r a)))), .val (.int (1 : Int32))]) rfl kk) ?_
              show OwnGo p e below s _ _ _ T224 (mkF m 143 #[.val (.ref o), .val (.long p1), .second, .val (.int sl), .val (.int (Int32.ofNat ((r + g) % 16))), .val (.int (Int32.ofNat ((r + (a + 1)) % 16))), .val (.int (Int32.ofNat (own_home (own_F ws r a)))), .val (.int (1 : Int32))] [])
              refine OwnGo.st (fun _ kk => XS.goto X224.here hx rfl (pc0 := 143) (pc' := 33) rfl (hb hby d9_143) (by decide) (by decide) kk) ?_
              show OwnGo p e below s _ _ _ T224 (mkF m 33 #[.val (.ref o), .val (.long p1), .second, .val (.int sl), .val (.int (Int32.ofNat ((r + g) % 16))), .val (.int (Int32.ofNat ((r + (a + 1)) % 16))), .val (.int (Int32.ofNat (own_home (own_F ws r a)))), .val (.int (1 : Int32))] [])
              exact ih ws g (a + 1) h1 _ _ X224 e224 N224 E_o Fs V F_size Z_ LL' (by omega) (Or.inr ⟨_, _, rfl, rfl⟩) Kp
set_option maxRecDepth 65536 in
set_option maxHeartbeats 40000000 in
theorem rmremG (l : Launch) (Z : State) (a0 : Array Value) (hw : ∀ d ∈ tables_1, d.before a0 Z = true) (ws : List Jvm.Cond) (o : Addr) (t : Addr) (kc : ClassId) (vs : List Int64) (n : Nat) (p1 : Int64) (h0 : Heap) (n0 : Nat) (Z0 : n0 ≤ h0.size) (E_o : Exa Z h0 o "com/example/utsatt/utsatt/KeyHashes") (Fs : Fld Z h0 o "com/example/utsatt/utsatt/KeyHashes" "slots" "[J" (.ref t)) (V : Arv Z h0 t kc .long (16 : Int32) (vs.map Value.long) (.long (0 : Int64))) (F_size : Fld Z h0 o "com/example/utsatt/utsatt/KeyHashes" "size" "I" (.int (Int32.ofNat n))) (g_o : n0 ≤ o) (g_t : n0 ≤ t) (ne_t_o : t ≠ o) (TT : own_T vs n) (hn : n ≤ 3) :
    MetFree l (⟨"com/example/utsatt/utsatt/KeyHashes", "remove", "(J)Z"⟩ : MethodName) (head1 (Jvm.Cond.code (⟨"com/example/utsatt/utsatt/KeyHashes", "remove", "(J)Z"⟩ : MethodName) prog_2_method_5_code 8 (some .boolean) :: ws) ({ frames := 2, cells := 0, slots := 0, locals := 32 } : Room)) (fun as_ UU => as_ = #[(.ref o), (.long p1)] ∧ Z.Warmed39 UU.vm ∧ UU.heap = h0) (fun _ _ _ _ _ => True) (fun _ UU oo UU' => ∃ vv LL, oo = .returned vv ∧ (QremG Z o t kc vs n p1 h0 n0) vv UU'.heap LL ∧ FrameEnd UU oo UU' LL ({ frames := 2, cells := 0, slots := 0, locals := 32 } : Room).cells ({ frames := 2, cells := 0, slots := 0, locals := 32 } : Room).slots) := by
  refine own_met (plainFor_of_name pn_2) ?_
  intro p e s m below meth c s₁ X0 hx hby hml hret hlk hown hnm hZ e0
  have N0 := Fr.nil n0
  have Z_ := Z0
  refine OwnGo.cast (ef_remG m o p1) ?_
  show OwnGo p e below s _ _ _ s₁ (mkF m 0 #[.val (.ref o), .val (.long p1), .second, .unset, .unset, .unset, .unset, .unset] [])
  have Kp : Keep h0 h0 [o, t] := Keep.refl h0 [o, t]
  refine OwnGo.st (fun _ kk => XS.aloadN X0.here hx rfl (hb hby d9_0) rfl rfl  kk) ?_
  show OwnGo p e below s _ _ _ s₁ (mkF m 1 #[.val (.ref o), .val (.long p1), .second, .unset, .unset, .unset, .unset, .unset] [(.ref o)])
  refine OwnGo.st (fun _ kk => XS.lloadN X0.here hx rfl (hb hby d9_1) rfl  kk) ?_
  show OwnGo p e below s _ _ _ s₁ (mkF m 2 #[.val (.ref o), .val (.long p1), .second, .unset, .unset, .unset, .unset, .unset] [(.long p1), (.ref o)])
  obtain ⟨_, _, ⟨T225, L225, k225, n225⟩, -, X225, ⟨Lc225, hQ225, l225, y225, z225⟩, st225⟩ := Jvm.LawKit.callS X0 hx (y := (⟨"com/example/utsatt/utsatt/KeyHashes", "stored", "(J)J"⟩ : MethodName)) hown (mvT hZ (hw _ (List.mem_of_getElem? (i := 21) rfl))) (mvT hZ (hw _ (List.mem_of_getElem? (i := 22) rfl))) (mvT hZ (hw _ (List.mem_of_getElem? (i := 6) rfl))) (mvT hZ (hw _ (List.mem_of_getElem? (i := 23) rfl))) (by decide) (backOf (W := 1) (rmsto l Z a0 hw [] p1 h0 n0 Z_ ) hZ (hw _ (List.mem_of_getElem? (i := 23) rfl)) (hw _ (List.mem_of_getElem? (i := 6) rfl)) (by decide) (by decide)) (g := (mkF m 2 #[.val (.ref o), .val (.long p1), .second, .unset, .unset, .unset, .unset, .unset] [(.long p1), (.ref o)])) rfl (by rw [hml]; rfl) (argsL := [(.long p1)]) (rest := [(.ref o)]) (lenOf pd_2 rfl) rfl (by show 2 * 0 + _ ≤ _; exact Nat.le_of_eq rfl) (hb hby d9_2) (fun _ _ => ⟨rfl, e0, (by decide : 0 + 0 ≤ _), (by decide : 0 + 0 ≤ _)⟩)
  dsimp only [Pt.U, Pt.locs, Pt.cells, Pt.slots] at X225 l225 y225 z225 st225 hQ225
  subst l225 y225 z225
  obtain ⟨rfl, N225q, e225⟩ := hQ225
  have N225 := Fr.app N0 N225q
  refine OwnGo.st st225 ?_
  show OwnGo p e below s _ _ _ T225 (mkF m 5 #[.val (.ref o), .val (.long p1), .second, .unset, .unset, .unset, .unset, .unset] [(.long (own_st p1)), (.ref o)])
  obtain ⟨cq226, q226, q226'⟩ := E_o.cell
  obtain ⟨_, _, ⟨T226, L226, k226, n226⟩, -, X226, ⟨Lc226, hQ226, l226, y226, z226⟩, st226⟩ := X225.privateBack hx (y := (⟨"com/example/utsatt/utsatt/KeyHashes", "slotOf", "(J)I"⟩ : MethodName)) hown (mvT hZ (hw _ (List.mem_of_getElem? (i := 24) rfl))) (mvT hZ (hw _ (List.mem_of_getElem? (i := 25) rfl))) (own_selp (z := (⟨"com/example/utsatt/utsatt/KeyHashes", "add", "(J)Z"⟩ : MethodName)) (mvT hZ (hw _ (List.mem_of_getElem? (i := 19) rfl))) rfl (Cond.privateMethod_at (mvP hZ (hw _ (List.mem_of_getElem? (i := 26) rfl)) (args := #[]))) (mvT hZ (hw _ (List.mem_of_getElem? (i := 25) rfl))) (by decide)) (Cond.privateMethod_at (mvP hZ (hw _ (List.mem_of_getElem? (i := 26) rfl)) (args := #[]))) (mvT hZ (hw _ (List.mem_of_getElem? (i := 27) rfl))) (by decide) (backOf (W := 0) (rmslot l Z a0 hw [] o t kc vs (own_st p1) h0 n0 Z_ E_o Fs V TT.hl (own_free TT.hl (own_T_zero TT (by omega)) _)) hZ (hw _ (List.mem_of_getElem? (i := 27) rfl)) (hw _ (List.mem_of_getElem? (i := 6) rfl)) (by decide) (by decide)) (g := (mkF m 5 #[.val (.ref o), .val (.long p1), .second, .unset, .unset, .unset, .unset, .unset] [(.long (own_st p1)), (.ref o)])) rfl (by rw [hml]; rfl) (Steps.refl _) (a := o) (by rw [e225]; exact q226) q226' (argsL := [(.long (own_st p1))]) (rest := []) (lenOf pd_3 rfl) rfl (by show 2 * 0 + _ ≤ _; exact Nat.le_of_eq rfl) (hb hby d9_5) (fun _ _ => ⟨rfl, e225, (by decide : 0 + 0 ≤ _), (by decide : 0 + 0 ≤ _)⟩)
  dsimp only [Pt.U, Pt.locs, Pt.cells, Pt.slots] at X226 l226 y226 z226 st226 hQ226
  subst l226 y226 z226
  obtain ⟨r, k, hr, rfl, hk, N226q, e226⟩ := hQ226
  have N226 := Fr.app N225 N226q
  refine OwnGo.st (fun _ kk => st226.trans kk) ?_
  show OwnGo p e below s _ _ _ T226 (mkF m 8 #[.val (.ref o), .val (.long p1), .second, .unset, .unset, .unset, .unset, .unset] [(.int (Int32.ofNat r))])
  refine OwnGo.st (fun _ kk => XS.istoreN X226.here hx rfl (hb hby d9_8) rfl (l' := #[.val (.ref o), .val (.long p1), .second, .val (.int (Int32.ofNat r)), .unset, .unset, .unset, .unset]) rfl kk) ?_
  show OwnGo p e below s _ _ _ T226 (mkF m 9 #[.val (.ref o), .val (.long p1), .second, .val (.int (Int32.ofNat r)), .unset, .unset, .unset, .unset] [])
  refine OwnGo.st (fun _ kk => XS.aloadN X226.here hx rfl (hb hby d9_9) rfl rfl  kk) ?_
  show OwnGo p e below s _ _ _ T226 (mkF m 10 #[.val (.ref o), .val (.long p1), .second, .val (.int (Int32.ofNat r)), .unset, .unset, .unset, .unset] [(.ref o)])
  obtain ⟨T227, X227, e227, st227⟩ := getF X226 hx hZ hown (host := "") (Or.inl (hw _ (List.mem_of_getElem? (i := 14) rfl))) Via.refl e226 Fs (g := (mkF m 10 #[.val (.ref o), .val (.long p1), .second, .val (.int (Int32.ofNat r)), .unset, .unset, .unset, .unset] [(.ref o)])) rfl rfl (hb hby d9_10)
  refine OwnGo.st st227 ?_
  show OwnGo p e below s _ _ _ T227 (mkF m 13 #[.val (.ref o), .val (.long p1), .second, .val (.int (Int32.ofNat r)), .unset, .unset, .unset, .unset] [(.ref t)])
  refine OwnGo.st (fun _ kk => XS.iloadN X227.here hx rfl (hb hby d9_13) rfl  kk) ?_
  show OwnGo p e below s _ _ _ T227 (mkF m 14 #[.val (.ref o), .val (.long p1), .second, .val (.int (Int32.ofNat r)), .unset, .unset, .unset, .unset] [(.int (Int32.ofNat r)), (.ref t)])
  obtain ⟨cl228, Ar228, -, S228, -, H228, -⟩ := id V
  have hin228 : ¬ ((Int32.ofNat r) < 0 ∨ cl228.slots.size ≤ ((Int32.ofNat r)).toNatClampNeg) := inb_of S228 (own_inb hr)
  refine OwnGo.st (fun _ kk => X227.laload hx (j := (Int32.ofNat r)) (v := (.long (own_at vs r))) (by first | exact Ar228.1 | (rw [e227]; exact Ar228.1)) (State.isArrayOf_alike hZ.alike Ar228.2.1) Ar228.2.2 hin228 (H228.at hin228 (own_get TT.hl hr)) (g := (mkF m 14 #[.val (.ref o), .val (.long p1), .second, .val (.int (Int32.ofNat r)), .unset, .unset, .unset, .unset] [(.int (Int32.ofNat r)), (.ref t)])) rfl rfl (hb hby d9_14) _ kk) ?_
  show OwnGo p e below s _ _ _ T227 (mkF m 15 #[.val (.ref o), .val (.long p1), .second, .val (.int (Int32.ofNat r)), .unset, .unset, .unset, .unset] [(.long (own_at vs r))])
  refine OwnGo.st (fun _ kk => XS.lconst X227.here hx rfl (hb hby d9_15) kk) ?_
  show OwnGo p e below s _ _ _ T227 (mkF m 16 #[.val (.ref o), .val (.long p1), .second, .val (.int (Int32.ofNat r)), .unset, .unset, .unset, .unset] [(.long (0 : Int64)), (.long (own_at vs r))])
  refine OwnGo.st (fun _ kk => XS.lcmp X227.here hx rfl (hb hby d9_16) rfl kk) ?_
  show OwnGo p e below s _ _ _ T227 (mkF m 17 #[.val (.ref o), .val (.long p1), .second, .val (.int (Int32.ofNat r)), .unset, .unset, .unset, .unset] [(.int (lcmpW (own_at vs r) (0 : Int64)))])
  by_cases hh : own_has vs (own_st p1)
  · have hf := own_T_found TT (own_stn _) hh k r hk
    have hnz : own_at vs r ≠ 0 := by rw [hf]; exact own_stn _
    refine OwnGo.st (fun _ kk => XS.ifYes X227.here hx rfl (pc0 := 17) (pc' := 22) rfl (hb hby d9_17) rfl ((if0 _ _).trans (feq ((fun z => hnz ((lw_eq _ _).1 z)) : ¬ ((lcmpW (own_at vs r) (0 : Int64)) = (0 : Int32)))).2) (by decide) (by decide) kk) ?_
    show OwnGo p e below s _ _ _ T227 (mkF m 22 #[.val (.ref o), .val (.long p1), .second, .val (.int (Int32.ofNat r)), .unset, .unset, .unset, .unset] [])
    refine OwnGo.st (fun _ kk => XS.iloadN X227.here hx rfl (hb hby d9_22) rfl  kk) ?_
    show OwnGo p e below s _ _ _ T227 (mkF m 23 #[.val (.ref o), .val (.long p1), .second, .val (.int (Int32.ofNat r)), .unset, .unset, .unset, .unset] [(.int (Int32.ofNat r))])
    refine OwnGo.st (fun _ kk => XS.istore X227.here hx rfl (hb hby d9_23) rfl (l' := #[.val (.ref o), .val (.long p1), .second, .val (.int (Int32.ofNat r)), .val (.int (Int32.ofNat r)), .unset, .unset, .unset]) rfl kk) ?_
    show OwnGo p e below s _ _ _ T227 (mkF m 25 #[.val (.ref o), .val (.long p1), .second, .val (.int (Int32.ofNat r)), .val (.int (Int32.ofNat r)), .unset, .unset, .unset] [])
    refine OwnGo.st (fun _ kk => XS.aloadN X227.here hx rfl (hb hby d9_25) rfl rfl  kk) ?_
    show OwnGo p e below s _ _ _ T227 (mkF m 26 #[.val (.ref o), .val (.long p1), .second, .val (.int (Int32.ofNat r)), .val (.int (Int32.ofNat r)), .unset, .unset, .unset] [(.ref o)])
    refine OwnGo.st (fun _ kk => XS.iload X227.here hx rfl (hb hby d9_26) rfl  kk) ?_
    show OwnGo p e below s _ _ _ T227 (mkF m 28 #[.val (.ref o), .val (.long p1), .second, .val (.int (Int32.ofNat r)), .val (.int (Int32.ofNat r)), .unset, .unset, .unset] [(.int (Int32.ofNat r)), (.ref o)])
    obtain ⟨cq229, q229, q229'⟩ := E_o.cell
    obtain ⟨_, _, ⟨T229, L229, k229, n229⟩, -, X229, ⟨Lc229, hQ229, l229, y229, z229⟩, st229⟩ := X227.privateBack hx (y := (⟨"com/example/utsatt/utsatt/KeyHashes", "next", "(I)I"⟩ : MethodName)) hown (mvT hZ (hw _ (List.mem_of_getElem? (i := 34) rfl))) (mvT hZ (hw _ (List.mem_of_getElem? (i := 35) rfl))) (own_selp (z := (⟨"com/example/utsatt/utsatt/KeyHashes", "add", "(J)Z"⟩ : MethodName)) (mvT hZ (hw _ (List.mem_of_getElem? (i := 19) rfl))) rfl (Cond.privateMethod_at (mvP hZ (hw _ (List.mem_of_getElem? (i := 36) rfl)) (args := #[]))) (mvT hZ (hw _ (List.mem_of_getElem? (i := 35) rfl))) (by decide)) (Cond.privateMethod_at (mvP hZ (hw _ (List.mem_of_getElem? (i := 36) rfl)) (args := #[]))) (mvT hZ (hw _ (List.mem_of_getElem? (i := 37) rfl))) (by decide) (backOf (W := 0) (rmnext l Z a0 hw [] o t kc vs r h0 n0 Z_ E_o Fs V TT.hl hr) hZ (hw _ (List.mem_of_getElem? (i := 37) rfl)) (hw _ (List.mem_of_getElem? (i := 6) rfl)) (by decide) (by decide)) (g := (mkF m 28 #[.val (.ref o), .val (.long p1), .second, .val (.int (Int32.ofNat r)), .val (.int (Int32.ofNat r)), .unset, .unset, .unset] [(.int (Int32.ofNat r)), (.ref o)])) rfl (by rw [hml]; rfl) (Steps.refl _) (a := o) (by rw [e227]; exact q229) q229' (argsL := [(.int (Int32.ofNat r))]) (rest := []) (lenOf pd_0 rfl) rfl (by show 2 * 0 + _ ≤ _; exact Nat.le_of_eq rfl) (hb hby d9_28) (fun _ _ => ⟨rfl, e227, (by decide : 0 + 0 ≤ _), (by decide : 0 + 0 ≤ _)⟩)
    dsimp only [Pt.U, Pt.locs, Pt.cells, Pt.slots] at X229 l229 y229 z229 st229 hQ229
    subst l229 y229 z229
    obtain ⟨rfl, N229q, e229⟩ := hQ229
    have N229 := Fr.app N226 N229q
    refine OwnGo.st (fun _ kk => st229.trans kk) ?_
    show OwnGo p e below s _ _ _ T229 (mkF m 31 #[.val (.ref o), .val (.long p1), .second, .val (.int (Int32.ofNat r)), .val (.int (Int32.ofNat r)), .unset, .unset, .unset] [(.int (Int32.ofNat (own_nx r)))])
    refine OwnGo.st (fun _ kk => XS.istore X229.here hx rfl (hb hby d9_31) rfl (l' := #[.val (.ref o), .val (.long p1), .second, .val (.int (Int32.ofNat r)), .val (.int (Int32.ofNat r)), .val (.int (Int32.ofNat (own_nx r))), .unset, .unset]) rfl kk) ?_
    show OwnGo p e below s _ _ _ T229 (mkF m 33 #[.val (.ref o), .val (.long p1), .second, .val (.int (Int32.ofNat r)), .val (.int (Int32.ofNat r)), .val (.int (Int32.ofNat (own_nx r))), .unset, .unset] [])
    obtain ⟨zz, hz, hz0⟩ := own_zero TT.hl (own_T_zero TT hn)
    have LL := own_L_start TT.hl TT.U TT.P hr hnz hz hz0
    rw [hf] at LL
    have eg : r = (r + 0) % 16 := by omega
    have ea : own_nx r = (r + 1) % 16 := own_nx_mod hr
    have az := LL.az
    refine OwnGo.cast (show (mkF m 33 #[.val (.ref o), .val (.long p1), .second, .val (.int (Int32.ofNat r)), .val (.int (Int32.ofNat r)), .val (.int (Int32.ofNat (own_nx r))), .unset, .unset] []) = (mkF m 33 #[.val (.ref o), .val (.long p1), .second, .val (.int (Int32.ofNat r)), .val (.int (Int32.ofNat ((r + 0) % 16))), .val (.int (Int32.ofNat (own_nx r))), .unset, .unset] []) from congrArg (fun x1 : Nat => (mkF m 33 #[.val (.ref o), .val (.long p1), .second, .val (.int (Int32.ofNat r)), .val (.int (Int32.ofNat x1)), .val (.int (Int32.ofNat (own_nx r))), .unset, .unset] [])) eg) ?_
    refine OwnGo.cast (show (mkF m 33 #[.val (.ref o), .val (.long p1), .second, .val (.int (Int32.ofNat r)), .val (.int (Int32.ofNat ((r + 0) % 16))), .val (.int (Int32.ofNat (own_nx r))), .unset, .unset] []) = (mkF m 33 #[.val (.ref o), .val (.long p1), .second, .val (.int (Int32.ofNat r)), .val (.int (Int32.ofNat ((r + 0) % 16))), .val (.int (Int32.ofNat ((r + 1) % 16))), .unset, .unset] []) from congrArg (fun x1 : Nat => (mkF m 33 #[.val (.ref o), .val (.long p1), .second, .val (.int (Int32.ofNat r)), .val (.int (Int32.ofNat ((r + 0) % 16))), .val (.int (Int32.ofNat x1)), .unset, .unset] [])) ea) ?_
    exact sg_rem o t kc vs n p1 r _ vs ((zz + 16 - r) % 16 - 1) 0 1 ((zz + 16 - r) % 16) h0 _ _ h0 n0 hw X229 hx hby hml hret hlk hown hnm hZ e229 N229 E_o Fs V F_size g_o g_t ne_t_o TT hn hh Z_ LL (by omega) (Or.inl ⟨rfl, rfl⟩) Kp
  · have hm := own_T_miss hh k r hk
    have hz := (own_path_end k hk).resolve_right hm
    refine OwnGo.st (fun _ kk => XS.ifNo X227.here hx rfl (hb hby d9_17) rfl ((if0 _ _).trans (teq (((lw_eq _ _).2 hz) : (lcmpW (own_at vs r) (0 : Int64)) = (0 : Int32))).2) kk) ?_
    show OwnGo p e below s _ _ _ T227 (mkF m 20 #[.val (.ref o), .val (.long p1), .second, .val (.int (Int32.ofNat r)), .unset, .unset, .unset, .unset] [])
    refine OwnGo.st (fun _ kk => XS.iconst X227.here hx rfl (hb hby d9_20) kk) ?_
    show OwnGo p e below s _ _ _ T227 (mkF m 21 #[.val (.ref o), .val (.long p1), .second, .val (.int (Int32.ofNat r)), .unset, .unset, .unset, .unset] [(.int (0 : Int32))])
    exact OwnGo.retN X227 hx (t := .boolean) hret hlk (by simp) (hb hby d9_21) (by show QremG Z o t kc vs n p1 h0 n0 _ T227.heap _; rw [e227]; exact ⟨vs, n, congrArg (fun z => some (Value.int z)) (own_bit0 hh).symm, N226, Kp, E_o, Fs, F_size, V, TT, by rw [own_bn0 hh]; rfl, fun y _ => ⟨fun q => ⟨q, fun e => hh (e ▸ q)⟩, fun q => q.1⟩⟩) (by decide) (by decide)
def Q0 (Z : State) (p1 : Int64) (p2 : Int64) (p3 : Int64) (p4 : Int64) (p5 : Int32) (h0 : Heap) (n0 : Nat) (v : Option Value) (h : Heap) (L : List Loc) : Prop := v = some (.int (1 : Int32)) ∧ Fr n0 L
set_option maxRecDepth 65536 in
set_option maxHeartbeats 40000000 in
theorem sg364 {p : Program} {l : Launch} {e : Env} {s : State} {m : MethodId} {below : List Frame} {meth : Method} {c : Code} {Z : State} {a0 : Array Value} {T0 : State} {locs : List Loc} (p1 : Int64) (p2 : Int64) (p3 : Int64) (p4 : Int64) (p5 : Int32) (tt : Int64) (sa : Int64) (sb : Int64) (sc : Int64) (sx : Int64) (kq : Int32) (i20 : Int32) (i21 : Int32) (i22 : Int32) (i23 : Int32) (ob : Addr) (i25 : Int32) (i26 : Int32) (i27 : Int32) (i28 : Int32) (i29 : Int32) (i30 : Int32) (i31 : Int32) (i32 : Int32) (i33 : Int32) (h1 : Heap) (h0 : Heap) (n0 : Nat) (hw : ∀ d ∈ tables_1, d.before a0 Z = true)
    (X0 : Stand p l e room_1 s m #[(.long p1), (.long p2), (.long p3), (.long p4), (.int p5)] below meth c T0 locs 2 18) (hx : p.tables.exec = Jvm.exec) (hby : c.code = code) (hml : c.maxLocals = 34) (hret : meth.sig.returnType = ret) (hlk : meth.locks = false) (hown : s.vm.findClass "com/example/utsatt/utsatt/KeyHashesRemovePinLaw" = some m.cls) (hnm : meth.name = "law") (hZ : Z.Warmed39 s.vm) (e0 : T0.heap = h1) (N0 : Fr n0 locs) (h33 : i33 = (0 : Int32)) :
    OwnGo p e below s room_1.cells room_1.slots (Q0 Z p1 p2 p3 p4 p5 h0 n0) T0 (mkF m 364 #[.val (.long p1), .second, .val (.long p2), .second, .val (.long p3), .second, .val (.long p4), .second, .val (.int p5), .val (.int kq), .val (.long tt), .second, .val (.long sa), .second, .val (.long sb), .second, .val (.long sc), .second, .val (.long sx), .second, .val (.int i20), .val (.int i21), .val (.int i22), .val (.int i23), .val (.ref ob), .val (.int i25), .val (.int i26), .val (.int i27), .val (.int i28), .val (.int i29), .val (.int i30), .val (.int i31), .val (.int i32), .val (.int i33)] []) := by
  refine OwnGo.st (fun _ kk => XS.iload X0.here hx rfl (hb hby at_364) rfl  kk) ?_
  show OwnGo p e below s _ _ _ T0 (mkF m 366 #[.val (.long p1), .second, .val (.long p2), .second, .val (.long p3), .second, .val (.long p4), .second, .val (.int p5), .val (.int kq), .val (.long tt), .second, .val (.long sa), .second, .val (.long sb), .second, .val (.long sc), .second, .val (.long sx), .second, .val (.int i20), .val (.int i21), .val (.int i22), .val (.int i23), .val (.ref ob), .val (.int i25), .val (.int i26), .val (.int i27), .val (.int i28), .val (.int i29), .val (.int i30), .val (.int i31), .val (.int i32), .val (.int i33)] [(.int i33)])
  refine OwnGo.st (fun _ kk => XS.ifNo X0.here hx rfl (hb hby at_366) rfl ((if0 _ _).trans (teq (h33 : i33 = (0 : Int32))).2) kk) ?_
  show OwnGo p e below s _ _ _ T0 (mkF m 369 #[.val (.long p1), .second, .val (.long p2), .second, .val (.long p3), .second, .val (.long p4), .second, .val (.int p5), .val (.int kq), .val (.long tt), .second, .val (.long sa), .second, .val (.long sb), .second, .val (.long sc), .second, .val (.long sx), .second, .val (.int i20), .val (.int i21), .val (.int i22), .val (.int i23), .val (.ref ob), .val (.int i25), .val (.int i26), .val (.int i27), .val (.int i28), .val (.int i29), .val (.int i30), .val (.int i31), .val (.int i32), .val (.int i33)] [])
  refine OwnGo.st (fun _ kk => XS.iconst X0.here hx rfl (hb hby at_369) kk) ?_
  show OwnGo p e below s _ _ _ T0 (mkF m 370 #[.val (.long p1), .second, .val (.long p2), .second, .val (.long p3), .second, .val (.long p4), .second, .val (.int p5), .val (.int kq), .val (.long tt), .second, .val (.long sa), .second, .val (.long sb), .second, .val (.long sc), .second, .val (.long sx), .second, .val (.int i20), .val (.int i21), .val (.int i22), .val (.int i23), .val (.ref ob), .val (.int i25), .val (.int i26), .val (.int i27), .val (.int i28), .val (.int i29), .val (.int i30), .val (.int i31), .val (.int i32), .val (.int i33)] [(.int (1 : Int32))])
  refine OwnGo.st (fun _ kk => XS.goto X0.here hx rfl (pc0 := 370) (pc' := 374) rfl (hb hby at_370) (by decide) (by decide) kk) ?_
  show OwnGo p e below s _ _ _ T0 (mkF m 374 #[.val (.long p1), .second, .val (.long p2), .second, .val (.long p3), .second, .val (.long p4), .second, .val (.int p5), .val (.int kq), .val (.long tt), .second, .val (.long sa), .second, .val (.long sb), .second, .val (.long sc), .second, .val (.long sx), .second, .val (.int i20), .val (.int i21), .val (.int i22), .val (.int i23), .val (.ref ob), .val (.int i25), .val (.int i26), .val (.int i27), .val (.int i28), .val (.int i29), .val (.int i30), .val (.int i31), .val (.int i32), .val (.int i33)] [(.int (1 : Int32))])
  exact OwnGo.retN X0 hx (t := .boolean) hret hlk (by simp) (hb hby at_374) (by show Q0 Z p1 p2 p3 p4 p5 h0 n0 _ T0.heap _; rw [e0]; exact ⟨rfl, N0⟩) (by decide) (by decide)
set_option maxRecDepth 65536 in
set_option maxHeartbeats 40000000 in
theorem sg330 {p : Program} {l : Launch} {e : Env} {s : State} {m : MethodId} {below : List Frame} {meth : Method} {c : Code} {Z : State} {a0 : Array Value} {T0 : State} {locs : List Loc} (p1 : Int64) (p2 : Int64) (p3 : Int64) (p4 : Int64) (p5 : Int32) (tt : Int64) (sa : Int64) (sb : Int64) (sc : Int64) (sx : Int64) (kq : Int32) (i20 : Int32) (i21 : Int32) (i22 : Int32) (i23 : Int32) (ob : Addr) (i25 : Int32) (i26 : Int32) (i27 : Int32) (i28 : Int32) (i29 : Int32) (i30 : Int32) (i31 : Int32) (i32 : Int32) (i33 : Int32) (h1 : Heap) (h0 : Heap) (n0 : Nat) (hw : ∀ d ∈ tables_1, d.before a0 Z = true)
    (X0 : Stand p l e room_1 s m #[(.long p1), (.long p2), (.long p3), (.long p4), (.int p5)] below meth c T0 locs 2 18) (hx : p.tables.exec = Jvm.exec) (hby : c.code = code) (hml : c.maxLocals = 34) (hret : meth.sig.returnType = ret) (hlk : meth.locks = false) (hown : s.vm.findClass "com/example/utsatt/utsatt/KeyHashesRemovePinLaw" = some m.cls) (hnm : meth.name = "law") (hZ : Z.Warmed39 s.vm) (e0 : T0.heap = h1) (N0 : Fr n0 locs) (hxc : i32 = own_bit (¬ sc = sx ∧ ¬ sc = sa ∧ ¬ sc = sb)) (h33 : i33 = (0 : Int32)) :
    OwnGo p e below s room_1.cells room_1.slots (Q0 Z p1 p2 p3 p4 p5 h0 n0) T0 (mkF m 330 #[.val (.long p1), .second, .val (.long p2), .second, .val (.long p3), .second, .val (.long p4), .second, .val (.int p5), .val (.int kq), .val (.long tt), .second, .val (.long sa), .second, .val (.long sb), .second, .val (.long sc), .second, .val (.long sx), .second, .val (.int i20), .val (.int i21), .val (.int i22), .val (.int i23), .val (.ref ob), .val (.int i25), .val (.int i26), .val (.int i27), .val (.int i28), .val (.int i29), .val (.int i30), .val (.int i31), .val (.int i32), .val (.int i33)] []) := by
  refine OwnGo.st (fun _ kk => XS.iload X0.here hx rfl (hb hby at_330) rfl  kk) ?_
  show OwnGo p e below s _ _ _ T0 (mkF m 332 #[.val (.long p1), .second, .val (.long p2), .second, .val (.long p3), .second, .val (.long p4), .second, .val (.int p5), .val (.int kq), .val (.long tt), .second, .val (.long sa), .second, .val (.long sb), .second, .val (.long sc), .second, .val (.long sx), .second, .val (.int i20), .val (.int i21), .val (.int i22), .val (.int i23), .val (.ref ob), .val (.int i25), .val (.int i26), .val (.int i27), .val (.int i28), .val (.int i29), .val (.int i30), .val (.int i31), .val (.int i32), .val (.int i33)] [(.int i32)])
  refine OwnGo.st (fun _ kk => XS.lload X0.here hx rfl (hb hby at_332) rfl  kk) ?_
  show OwnGo p e below s _ _ _ T0 (mkF m 334 #[.val (.long p1), .second, .val (.long p2), .second, .val (.long p3), .second, .val (.long p4), .second, .val (.int p5), .val (.int kq), .val (.long tt), .second, .val (.long sa), .second, .val (.long sb), .second, .val (.long sc), .second, .val (.long sx), .second, .val (.int i20), .val (.int i21), .val (.int i22), .val (.int i23), .val (.ref ob), .val (.int i25), .val (.int i26), .val (.int i27), .val (.int i28), .val (.int i29), .val (.int i30), .val (.int i31), .val (.int i32), .val (.int i33)] [(.long sc), (.int i32)])
  refine OwnGo.st (fun _ kk => XS.lload X0.here hx rfl (hb hby at_334) rfl  kk) ?_
  show OwnGo p e below s _ _ _ T0 (mkF m 336 #[.val (.long p1), .second, .val (.long p2), .second, .val (.long p3), .second, .val (.long p4), .second, .val (.int p5), .val (.int kq), .val (.long tt), .second, .val (.long sa), .second, .val (.long sb), .second, .val (.long sc), .second, .val (.long sx), .second, .val (.int i20), .val (.int i21), .val (.int i22), .val (.int i23), .val (.ref ob), .val (.int i25), .val (.int i26), .val (.int i27), .val (.int i28), .val (.int i29), .val (.int i30), .val (.int i31), .val (.int i32), .val (.int i33)] [(.long sx), (.long sc), (.int i32)])
  refine OwnGo.st (fun _ kk => XS.lcmp X0.here hx rfl (hb hby at_336) rfl kk) ?_
  show OwnGo p e below s _ _ _ T0 (mkF m 337 #[.val (.long p1), .second, .val (.long p2), .second, .val (.long p3), .second, .val (.long p4), .second, .val (.int p5), .val (.int kq), .val (.long tt), .second, .val (.long sa), .second, .val (.long sb), .second, .val (.long sc), .second, .val (.long sx), .second, .val (.int i20), .val (.int i21), .val (.int i22), .val (.int i23), .val (.ref ob), .val (.int i25), .val (.int i26), .val (.int i27), .val (.int i28), .val (.int i29), .val (.int i30), .val (.int i31), .val (.int i32), .val (.int i33)] [(.int (lcmpW sc sx)), (.int i32)])
  by_cases e1 : sc = sx
  · refine OwnGo.st (fun _ kk => XS.ifYes X0.here hx rfl (pc0 := 337) (pc' := 360) rfl (hb hby at_337) rfl ((if0 _ _).trans (teq (((lw_eq _ _).2 e1) : (lcmpW sc sx) = (0 : Int32))).1) (by decide) (by decide) kk) ?_
    show OwnGo p e below s _ _ _ T0 (mkF m 360 #[.val (.long p1), .second, .val (.long p2), .second, .val (.long p3), .second, .val (.long p4), .second, .val (.int p5), .val (.int kq), .val (.long tt), .second, .val (.long sa), .second, .val (.long sb), .second, .val (.long sc), .second, .val (.long sx), .second, .val (.int i20), .val (.int i21), .val (.int i22), .val (.int i23), .val (.ref ob), .val (.int i25), .val (.int i26), .val (.int i27), .val (.int i28), .val (.int i29), .val (.int i30), .val (.int i31), .val (.int i32), .val (.int i33)] [(.int i32)])
    refine OwnGo.st (fun _ kk => XS.iconst X0.here hx rfl (hb hby at_360) kk) ?_
    show OwnGo p e below s _ _ _ T0 (mkF m 361 #[.val (.long p1), .second, .val (.long p2), .second, .val (.long p3), .second, .val (.long p4), .second, .val (.int p5), .val (.int kq), .val (.long tt), .second, .val (.long sa), .second, .val (.long sb), .second, .val (.long sc), .second, .val (.long sx), .second, .val (.int i20), .val (.int i21), .val (.int i22), .val (.int i23), .val (.ref ob), .val (.int i25), .val (.int i26), .val (.int i27), .val (.int i28), .val (.int i29), .val (.int i30), .val (.int i31), .val (.int i32), .val (.int i33)] [(.int (0 : Int32)), (.int i32)])
    refine OwnGo.st (fun _ kk => XS.icmpNo X0.here hx rfl (hb hby at_361) rfl (teq ((hxc.trans (own_bit0 (fun q => q.1 e1))) : i32 = (0 : Int32))).2 kk) ?_
    show OwnGo p e below s _ _ _ T0 (mkF m 364 #[.val (.long p1), .second, .val (.long p2), .second, .val (.long p3), .second, .val (.long p4), .second, .val (.int p5), .val (.int kq), .val (.long tt), .second, .val (.long sa), .second, .val (.long sb), .second, .val (.long sc), .second, .val (.long sx), .second, .val (.int i20), .val (.int i21), .val (.int i22), .val (.int i23), .val (.ref ob), .val (.int i25), .val (.int i26), .val (.int i27), .val (.int i28), .val (.int i29), .val (.int i30), .val (.int i31), .val (.int i32), .val (.int i33)] [])
    exact sg364 p1 p2 p3 p4 p5 tt sa sb sc sx kq i20 i21 i22 i23 ob i25 i26 i27 i28 i29 i30 i31 i32 i33 h1 h0 n0 hw X0 hx hby hml hret hlk hown hnm hZ e0 N0 h33
  · refine OwnGo.st (fun _ kk => XS.ifNo X0.here hx rfl (hb hby at_337) rfl ((if0 _ _).trans (feq ((fun q => e1 ((lw_eq _ _).1 q)) : ¬ ((lcmpW sc sx) = (0 : Int32)))).1) kk) ?_
    show OwnGo p e below s _ _ _ T0 (mkF m 340 #[.val (.long p1), .second, .val (.long p2), .second, .val (.long p3), .second, .val (.long p4), .second, .val (.int p5), .val (.int kq), .val (.long tt), .second, .val (.long sa), .second, .val (.long sb), .second, .val (.long sc), .second, .val (.long sx), .second, .val (.int i20), .val (.int i21), .val (.int i22), .val (.int i23), .val (.ref ob), .val (.int i25), .val (.int i26), .val (.int i27), .val (.int i28), .val (.int i29), .val (.int i30), .val (.int i31), .val (.int i32), .val (.int i33)] [(.int i32)])
    refine OwnGo.st (fun _ kk => XS.lload X0.here hx rfl (hb hby at_340) rfl  kk) ?_
    show OwnGo p e below s _ _ _ T0 (mkF m 342 #[.val (.long p1), .second, .val (.long p2), .second, .val (.long p3), .second, .val (.long p4), .second, .val (.int p5), .val (.int kq), .val (.long tt), .second, .val (.long sa), .second, .val (.long sb), .second, .val (.long sc), .second, .val (.long sx), .second, .val (.int i20), .val (.int i21), .val (.int i22), .val (.int i23), .val (.ref ob), .val (.int i25), .val (.int i26), .val (.int i27), .val (.int i28), .val (.int i29), .val (.int i30), .val (.int i31), .val (.int i32), .val (.int i33)] [(.long sc), (.int i32)])
    refine OwnGo.st (fun _ kk => XS.lload X0.here hx rfl (hb hby at_342) rfl  kk) ?_
    show OwnGo p e below s _ _ _ T0 (mkF m 344 #[.val (.long p1), .second, .val (.long p2), .second, .val (.long p3), .second, .val (.long p4), .second, .val (.int p5), .val (.int kq), .val (.long tt), .second, .val (.long sa), .second, .val (.long sb), .second, .val (.long sc), .second, .val (.long sx), .second, .val (.int i20), .val (.int i21), .val (.int i22), .val (.int i23), .val (.ref ob), .val (.int i25), .val (.int i26), .val (.int i27), .val (.int i28), .val (.int i29), .val (.int i30), .val (.int i31), .val (.int i32), .val (.int i33)] [(.long sa), (.long sc), (.int i32)])
    refine OwnGo.st (fun _ kk => XS.lcmp X0.here hx rfl (hb hby at_344) rfl kk) ?_
    show OwnGo p e below s _ _ _ T0 (mkF m 345 #[.val (.long p1), .second, .val (.long p2), .second, .val (.long p3), .second, .val (.long p4), .second, .val (.int p5), .val (.int kq), .val (.long tt), .second, .val (.long sa), .second, .val (.long sb), .second, .val (.long sc), .second, .val (.long sx), .second, .val (.int i20), .val (.int i21), .val (.int i22), .val (.int i23), .val (.ref ob), .val (.int i25), .val (.int i26), .val (.int i27), .val (.int i28), .val (.int i29), .val (.int i30), .val (.int i31), .val (.int i32), .val (.int i33)] [(.int (lcmpW sc sa)), (.int i32)])
    by_cases e2 : sc = sa
    · refine OwnGo.st (fun _ kk => XS.ifYes X0.here hx rfl (pc0 := 345) (pc' := 360) rfl (hb hby at_345) rfl ((if0 _ _).trans (teq (((lw_eq _ _).2 e2) : (lcmpW sc sa) = (0 : Int32))).1) (by decide) (by decide) kk) ?_
      show OwnGo p e below s _ _ _ T0 (mkF m 360 #[.val (.long p1), .second, .val (.long p2), .second, .val (.long p3), .second, .val (.long p4), .second, .val (.int p5), .val (.int kq), .val (.long tt), .second, .val (.long sa), .second, .val (.long sb), .second, .val (.long sc), .second, .val (.long sx), .second, .val (.int i20), .val (.int i21), .val (.int i22), .val (.int i23), .val (.ref ob), .val (.int i25), .val (.int i26), .val (.int i27), .val (.int i28), .val (.int i29), .val (.int i30), .val (.int i31), .val (.int i32), .val (.int i33)] [(.int i32)])
      refine OwnGo.st (fun _ kk => XS.iconst X0.here hx rfl (hb hby at_360) kk) ?_
      show OwnGo p e below s _ _ _ T0 (mkF m 361 #[.val (.long p1), .second, .val (.long p2), .second, .val (.long p3), .second, .val (.long p4), .second, .val (.int p5), .val (.int kq), .val (.long tt), .second, .val (.long sa), .second, .val (.long sb), .second, .val (.long sc), .second, .val (.long sx), .second, .val (.int i20), .val (.int i21), .val (.int i22), .val (.int i23), .val (.ref ob), .val (.int i25), .val (.int i26), .val (.int i27), .val (.int i28), .val (.int i29), .val (.int i30), .val (.int i31), .val (.int i32), .val (.int i33)] [(.int (0 : Int32)), (.int i32)])
      refine OwnGo.st (fun _ kk => XS.icmpNo X0.here hx rfl (hb hby at_361) rfl (teq ((hxc.trans (own_bit0 (fun q => q.2.1 e2))) : i32 = (0 : Int32))).2 kk) ?_
      show OwnGo p e below s _ _ _ T0 (mkF m 364 #[.val (.long p1), .second, .val (.long p2), .second, .val (.long p3), .second, .val (.long p4), .second, .val (.int p5), .val (.int kq), .val (.long tt), .second, .val (.long sa), .second, .val (.long sb), .second, .val (.long sc), .second, .val (.long sx), .second, .val (.int i20), .val (.int i21), .val (.int i22), .val (.int i23), .val (.ref ob), .val (.int i25), .val (.int i26), .val (.int i27), .val (.int i28), .val (.int i29), .val (.int i30), .val (.int i31), .val (.int i32), .val (.int i33)] [])
      exact sg364 p1 p2 p3 p4 p5 tt sa sb sc sx kq i20 i21 i22 i23 ob i25 i26 i27 i28 i29 i30 i31 i32 i33 h1 h0 n0 hw X0 hx hby hml hret hlk hown hnm hZ e0 N0 h33
    · refine OwnGo.st (fun _ kk => XS.ifNo X0.here hx rfl (hb hby at_345) rfl ((if0 _ _).trans (feq ((fun q => e2 ((lw_eq _ _).1 q)) : ¬ ((lcmpW sc sa) = (0 : Int32)))).1) kk) ?_
      show OwnGo p e below s _ _ _ T0 (mkF m 348 #[.val (.long p1), .second, .val (.long p2), .second, .val (.long p3), .second, .val (.long p4), .second, .val (.int p5), .val (.int kq), .val (.long tt), .second, .val (.long sa), .second, .val (.long sb), .second, .val (.long sc), .second, .val (.long sx), .second, .val (.int i20), .val (.int i21), .val (.int i22), .val (.int i23), .val (.ref ob), .val (.int i25), .val (.int i26), .val (.int i27), .val (.int i28), .val (.int i29), .val (.int i30), .val (.int i31), .val (.int i32), .val (.int i33)] [(.int i32)])
      refine OwnGo.st (fun _ kk => XS.lload X0.here hx rfl (hb hby at_348) rfl  kk) ?_
      show OwnGo p e below s _ _ _ T0 (mkF m 350 #[.val (.long p1), .second, .val (.long p2), .second, .val (.long p3), .second, .val (.long p4), .second, .val (.int p5), .val (.int kq), .val (.long tt), .second, .val (.long sa), .second, .val (.long sb), .second, .val (.long sc), .second, .val (.long sx), .second, .val (.int i20), .val (.int i21), .val (.int i22), .val (.int i23), .val (.ref ob), .val (.int i25), .val (.int i26), .val (.int i27), .val (.int i28), .val (.int i29), .val (.int i30), .val (.int i31), .val (.int i32), .val (.int i33)] [(.long sc), (.int i32)])
      refine OwnGo.st (fun _ kk => XS.lload X0.here hx rfl (hb hby at_350) rfl  kk) ?_
      show OwnGo p e below s _ _ _ T0 (mkF m 352 #[.val (.long p1), .second, .val (.long p2), .second, .val (.long p3), .second, .val (.long p4), .second, .val (.int p5), .val (.int kq), .val (.long tt), .second, .val (.long sa), .second, .val (.long sb), .second, .val (.long sc), .second, .val (.long sx), .second, .val (.int i20), .val (.int i21), .val (.int i22), .val (.int i23), .val (.ref ob), .val (.int i25), .val (.int i26), .val (.int i27), .val (.int i28), .val (.int i29), .val (.int i30), .val (.int i31), .val (.int i32), .val (.int i33)] [(.long sb), (.long sc), (.int i32)])
      refine OwnGo.st (fun _ kk => XS.lcmp X0.here hx rfl (hb hby at_352) rfl kk) ?_
      show OwnGo p e below s _ _ _ T0 (mkF m 353 #[.val (.long p1), .second, .val (.long p2), .second, .val (.long p3), .second, .val (.long p4), .second, .val (.int p5), .val (.int kq), .val (.long tt), .second, .val (.long sa), .second, .val (.long sb), .second, .val (.long sc), .second, .val (.long sx), .second, .val (.int i20), .val (.int i21), .val (.int i22), .val (.int i23), .val (.ref ob), .val (.int i25), .val (.int i26), .val (.int i27), .val (.int i28), .val (.int i29), .val (.int i30), .val (.int i31), .val (.int i32), .val (.int i33)] [(.int (lcmpW sc sb)), (.int i32)])
      by_cases e3 : sc = sb
      · refine OwnGo.st (fun _ kk => XS.ifYes X0.here hx rfl (pc0 := 353) (pc' := 360) rfl (hb hby at_353) rfl ((if0 _ _).trans (teq (((lw_eq _ _).2 e3) : (lcmpW sc sb) = (0 : Int32))).1) (by decide) (by decide) kk) ?_
        show OwnGo p e below s _ _ _ T0 (mkF m 360 #[.val (.long p1), .second, .val (.long p2), .second, .val (.long p3), .second, .val (.long p4), .second, .val (.int p5), .val (.int kq), .val (.long tt), .second, .val (.long sa), .second, .val (.long sb), .second, .val (.long sc), .second, .val (.long sx), .second, .val (.int i20), .val (.int i21), .val (.int i22), .val (.int i23), .val (.ref ob), .val (.int i25), .val (.int i26), .val (.int i27), .val (.int i28), .val (.int i29), .val (.int i30), .val (.int i31), .val (.int i32), .val (.int i33)] [(.int i32)])
        refine OwnGo.st (fun _ kk => XS.iconst X0.here hx rfl (hb hby at_360) kk) ?_
        show OwnGo p e below s _ _ _ T0 (mkF m 361 #[.val (.long p1), .second, .val (.long p2), .second, .val (.long p3), .second, .val (.long p4), .second, .val (.int p5), .val (.int kq), .val (.long tt), .second, .val (.long sa), .second, .val (.long sb), .second, .val (.long sc), .second, .val (.long sx), .second, .val (.int i20), .val (.int i21), .val (.int i22), .val (.int i23), .val (.ref ob), .val (.int i25), .val (.int i26), .val (.int i27), .val (.int i28), .val (.int i29), .val (.int i30), .val (.int i31), .val (.int i32), .val (.int i33)] [(.int (0 : Int32)), (.int i32)])
        refine OwnGo.st (fun _ kk => XS.icmpNo X0.here hx rfl (hb hby at_361) rfl (teq ((hxc.trans (own_bit0 (fun q => q.2.2 e3))) : i32 = (0 : Int32))).2 kk) ?_
        show OwnGo p e below s _ _ _ T0 (mkF m 364 #[.val (.long p1), .second, .val (.long p2), .second, .val (.long p3), .second, .val (.long p4), .second, .val (.int p5), .val (.int kq), .val (.long tt), .second, .val (.long sa), .second, .val (.long sb), .second, .val (.long sc), .second, .val (.long sx), .second, .val (.int i20), .val (.int i21), .val (.int i22), .val (.int i23), .val (.ref ob), .val (.int i25), .val (.int i26), .val (.int i27), .val (.int i28), .val (.int i29), .val (.int i30), .val (.int i31), .val (.int i32), .val (.int i33)] [])
        exact sg364 p1 p2 p3 p4 p5 tt sa sb sc sx kq i20 i21 i22 i23 ob i25 i26 i27 i28 i29 i30 i31 i32 i33 h1 h0 n0 hw X0 hx hby hml hret hlk hown hnm hZ e0 N0 h33
      · refine OwnGo.st (fun _ kk => XS.ifNo X0.here hx rfl (hb hby at_353) rfl ((if0 _ _).trans (feq ((fun q => e3 ((lw_eq _ _).1 q)) : ¬ ((lcmpW sc sb) = (0 : Int32)))).1) kk) ?_
        show OwnGo p e below s _ _ _ T0 (mkF m 356 #[.val (.long p1), .second, .val (.long p2), .second, .val (.long p3), .second, .val (.long p4), .second, .val (.int p5), .val (.int kq), .val (.long tt), .second, .val (.long sa), .second, .val (.long sb), .second, .val (.long sc), .second, .val (.long sx), .second, .val (.int i20), .val (.int i21), .val (.int i22), .val (.int i23), .val (.ref ob), .val (.int i25), .val (.int i26), .val (.int i27), .val (.int i28), .val (.int i29), .val (.int i30), .val (.int i31), .val (.int i32), .val (.int i33)] [(.int i32)])
        refine OwnGo.st (fun _ kk => XS.iconst X0.here hx rfl (hb hby at_356) kk) ?_
        show OwnGo p e below s _ _ _ T0 (mkF m 357 #[.val (.long p1), .second, .val (.long p2), .second, .val (.long p3), .second, .val (.long p4), .second, .val (.int p5), .val (.int kq), .val (.long tt), .second, .val (.long sa), .second, .val (.long sb), .second, .val (.long sc), .second, .val (.long sx), .second, .val (.int i20), .val (.int i21), .val (.int i22), .val (.int i23), .val (.ref ob), .val (.int i25), .val (.int i26), .val (.int i27), .val (.int i28), .val (.int i29), .val (.int i30), .val (.int i31), .val (.int i32), .val (.int i33)] [(.int (1 : Int32)), (.int i32)])
        refine OwnGo.st (fun _ kk => XS.goto X0.here hx rfl (pc0 := 357) (pc' := 361) rfl (hb hby at_357) (by decide) (by decide) kk) ?_
        show OwnGo p e below s _ _ _ T0 (mkF m 361 #[.val (.long p1), .second, .val (.long p2), .second, .val (.long p3), .second, .val (.long p4), .second, .val (.int p5), .val (.int kq), .val (.long tt), .second, .val (.long sa), .second, .val (.long sb), .second, .val (.long sc), .second, .val (.long sx), .second, .val (.int i20), .val (.int i21), .val (.int i22), .val (.int i23), .val (.ref ob), .val (.int i25), .val (.int i26), .val (.int i27), .val (.int i28), .val (.int i29), .val (.int i30), .val (.int i31), .val (.int i32), .val (.int i33)] [(.int (1 : Int32)), (.int i32)])
        refine OwnGo.st (fun _ kk => XS.icmpNo X0.here hx rfl (hb hby at_361) rfl (teq ((hxc.trans (own_bit1 ⟨e1, e2, e3⟩)) : i32 = (1 : Int32))).2 kk) ?_
        show OwnGo p e below s _ _ _ T0 (mkF m 364 #[.val (.long p1), .second, .val (.long p2), .second, .val (.long p3), .second, .val (.long p4), .second, .val (.int p5), .val (.int kq), .val (.long tt), .second, .val (.long sa), .second, .val (.long sb), .second, .val (.long sc), .second, .val (.long sx), .second, .val (.int i20), .val (.int i21), .val (.int i22), .val (.int i23), .val (.ref ob), .val (.int i25), .val (.int i26), .val (.int i27), .val (.int i28), .val (.int i29), .val (.int i30), .val (.int i31), .val (.int i32), .val (.int i33)] [])
        exact sg364 p1 p2 p3 p4 p5 tt sa sb sc sx kq i20 i21 i22 i23 ob i25 i26 i27 i28 i29 i30 i31 i32 i33 h1 h0 n0 hw X0 hx hby hml hret hlk hown hnm hZ e0 N0 h33
set_option maxRecDepth 65536 in
set_option maxHeartbeats 40000000 in
theorem sg304 {p : Program} {l : Launch} {e : Env} {s : State} {m : MethodId} {below : List Frame} {meth : Method} {c : Code} {Z : State} {a0 : Array Value} {T0 : State} {locs : List Loc} (p1 : Int64) (p2 : Int64) (p3 : Int64) (p4 : Int64) (p5 : Int32) (tt : Int64) (sa : Int64) (sb : Int64) (sc : Int64) (sx : Int64) (kq : Int32) (i20 : Int32) (i21 : Int32) (i22 : Int32) (i23 : Int32) (ob : Addr) (i25 : Int32) (i26 : Int32) (i27 : Int32) (i28 : Int32) (i29 : Int32) (i30 : Int32) (i31 : Int32) (i32 : Int32) (i33 : Int32) (h1 : Heap) (h0 : Heap) (n0 : Nat) (hw : ∀ d ∈ tables_1, d.before a0 Z = true)
    (X0 : Stand p l e room_1 s m #[(.long p1), (.long p2), (.long p3), (.long p4), (.int p5)] below meth c T0 locs 2 18) (hx : p.tables.exec = Jvm.exec) (hby : c.code = code) (hml : c.maxLocals = 34) (hret : meth.sig.returnType = ret) (hlk : meth.locks = false) (hown : s.vm.findClass "com/example/utsatt/utsatt/KeyHashesRemovePinLaw" = some m.cls) (hnm : meth.name = "law") (hZ : Z.Warmed39 s.vm) (e0 : T0.heap = h1) (N0 : Fr n0 locs) (hxb : i31 = own_bit (¬ sb = sx ∧ ¬ sb = sa)) (hxc : i32 = own_bit (¬ sc = sx ∧ ¬ sc = sa ∧ ¬ sc = sb)) (h33 : i33 = (0 : Int32)) :
    OwnGo p e below s room_1.cells room_1.slots (Q0 Z p1 p2 p3 p4 p5 h0 n0) T0 (mkF m 304 #[.val (.long p1), .second, .val (.long p2), .second, .val (.long p3), .second, .val (.long p4), .second, .val (.int p5), .val (.int kq), .val (.long tt), .second, .val (.long sa), .second, .val (.long sb), .second, .val (.long sc), .second, .val (.long sx), .second, .val (.int i20), .val (.int i21), .val (.int i22), .val (.int i23), .val (.ref ob), .val (.int i25), .val (.int i26), .val (.int i27), .val (.int i28), .val (.int i29), .val (.int i30), .val (.int i31), .val (.int i32), .val (.int i33)] []) := by
  refine OwnGo.st (fun _ kk => XS.iload X0.here hx rfl (hb hby at_304) rfl  kk) ?_
  show OwnGo p e below s _ _ _ T0 (mkF m 306 #[.val (.long p1), .second, .val (.long p2), .second, .val (.long p3), .second, .val (.long p4), .second, .val (.int p5), .val (.int kq), .val (.long tt), .second, .val (.long sa), .second, .val (.long sb), .second, .val (.long sc), .second, .val (.long sx), .second, .val (.int i20), .val (.int i21), .val (.int i22), .val (.int i23), .val (.ref ob), .val (.int i25), .val (.int i26), .val (.int i27), .val (.int i28), .val (.int i29), .val (.int i30), .val (.int i31), .val (.int i32), .val (.int i33)] [(.int i31)])
  refine OwnGo.st (fun _ kk => XS.lload X0.here hx rfl (hb hby at_306) rfl  kk) ?_
  show OwnGo p e below s _ _ _ T0 (mkF m 308 #[.val (.long p1), .second, .val (.long p2), .second, .val (.long p3), .second, .val (.long p4), .second, .val (.int p5), .val (.int kq), .val (.long tt), .second, .val (.long sa), .second, .val (.long sb), .second, .val (.long sc), .second, .val (.long sx), .second, .val (.int i20), .val (.int i21), .val (.int i22), .val (.int i23), .val (.ref ob), .val (.int i25), .val (.int i26), .val (.int i27), .val (.int i28), .val (.int i29), .val (.int i30), .val (.int i31), .val (.int i32), .val (.int i33)] [(.long sb), (.int i31)])
  refine OwnGo.st (fun _ kk => XS.lload X0.here hx rfl (hb hby at_308) rfl  kk) ?_
  show OwnGo p e below s _ _ _ T0 (mkF m 310 #[.val (.long p1), .second, .val (.long p2), .second, .val (.long p3), .second, .val (.long p4), .second, .val (.int p5), .val (.int kq), .val (.long tt), .second, .val (.long sa), .second, .val (.long sb), .second, .val (.long sc), .second, .val (.long sx), .second, .val (.int i20), .val (.int i21), .val (.int i22), .val (.int i23), .val (.ref ob), .val (.int i25), .val (.int i26), .val (.int i27), .val (.int i28), .val (.int i29), .val (.int i30), .val (.int i31), .val (.int i32), .val (.int i33)] [(.long sx), (.long sb), (.int i31)])
  refine OwnGo.st (fun _ kk => XS.lcmp X0.here hx rfl (hb hby at_310) rfl kk) ?_
  show OwnGo p e below s _ _ _ T0 (mkF m 311 #[.val (.long p1), .second, .val (.long p2), .second, .val (.long p3), .second, .val (.long p4), .second, .val (.int p5), .val (.int kq), .val (.long tt), .second, .val (.long sa), .second, .val (.long sb), .second, .val (.long sc), .second, .val (.long sx), .second, .val (.int i20), .val (.int i21), .val (.int i22), .val (.int i23), .val (.ref ob), .val (.int i25), .val (.int i26), .val (.int i27), .val (.int i28), .val (.int i29), .val (.int i30), .val (.int i31), .val (.int i32), .val (.int i33)] [(.int (lcmpW sb sx)), (.int i31)])
  by_cases e1 : sb = sx
  · refine OwnGo.st (fun _ kk => XS.ifYes X0.here hx rfl (pc0 := 311) (pc' := 326) rfl (hb hby at_311) rfl ((if0 _ _).trans (teq (((lw_eq _ _).2 e1) : (lcmpW sb sx) = (0 : Int32))).1) (by decide) (by decide) kk) ?_
    show OwnGo p e below s _ _ _ T0 (mkF m 326 #[.val (.long p1), .second, .val (.long p2), .second, .val (.long p3), .second, .val (.long p4), .second, .val (.int p5), .val (.int kq), .val (.long tt), .second, .val (.long sa), .second, .val (.long sb), .second, .val (.long sc), .second, .val (.long sx), .second, .val (.int i20), .val (.int i21), .val (.int i22), .val (.int i23), .val (.ref ob), .val (.int i25), .val (.int i26), .val (.int i27), .val (.int i28), .val (.int i29), .val (.int i30), .val (.int i31), .val (.int i32), .val (.int i33)] [(.int i31)])
    refine OwnGo.st (fun _ kk => XS.iconst X0.here hx rfl (hb hby at_326) kk) ?_
    show OwnGo p e below s _ _ _ T0 (mkF m 327 #[.val (.long p1), .second, .val (.long p2), .second, .val (.long p3), .second, .val (.long p4), .second, .val (.int p5), .val (.int kq), .val (.long tt), .second, .val (.long sa), .second, .val (.long sb), .second, .val (.long sc), .second, .val (.long sx), .second, .val (.int i20), .val (.int i21), .val (.int i22), .val (.int i23), .val (.ref ob), .val (.int i25), .val (.int i26), .val (.int i27), .val (.int i28), .val (.int i29), .val (.int i30), .val (.int i31), .val (.int i32), .val (.int i33)] [(.int (0 : Int32)), (.int i31)])
    refine OwnGo.st (fun _ kk => XS.icmpNo X0.here hx rfl (hb hby at_327) rfl (teq ((hxb.trans (own_bit0 (fun q => q.1 e1))) : i31 = (0 : Int32))).2 kk) ?_
    show OwnGo p e below s _ _ _ T0 (mkF m 330 #[.val (.long p1), .second, .val (.long p2), .second, .val (.long p3), .second, .val (.long p4), .second, .val (.int p5), .val (.int kq), .val (.long tt), .second, .val (.long sa), .second, .val (.long sb), .second, .val (.long sc), .second, .val (.long sx), .second, .val (.int i20), .val (.int i21), .val (.int i22), .val (.int i23), .val (.ref ob), .val (.int i25), .val (.int i26), .val (.int i27), .val (.int i28), .val (.int i29), .val (.int i30), .val (.int i31), .val (.int i32), .val (.int i33)] [])
    exact sg330 p1 p2 p3 p4 p5 tt sa sb sc sx kq i20 i21 i22 i23 ob i25 i26 i27 i28 i29 i30 i31 i32 i33 h1 h0 n0 hw X0 hx hby hml hret hlk hown hnm hZ e0 N0 hxc h33
  · refine OwnGo.st (fun _ kk => XS.ifNo X0.here hx rfl (hb hby at_311) rfl ((if0 _ _).trans (feq ((fun q => e1 ((lw_eq _ _).1 q)) : ¬ ((lcmpW sb sx) = (0 : Int32)))).1) kk) ?_
    show OwnGo p e below s _ _ _ T0 (mkF m 314 #[.val (.long p1), .second, .val (.long p2), .second, .val (.long p3), .second, .val (.long p4), .second, .val (.int p5), .val (.int kq), .val (.long tt), .second, .val (.long sa), .second, .val (.long sb), .second, .val (.long sc), .second, .val (.long sx), .second, .val (.int i20), .val (.int i21), .val (.int i22), .val (.int i23), .val (.ref ob), .val (.int i25), .val (.int i26), .val (.int i27), .val (.int i28), .val (.int i29), .val (.int i30), .val (.int i31), .val (.int i32), .val (.int i33)] [(.int i31)])
    refine OwnGo.st (fun _ kk => XS.lload X0.here hx rfl (hb hby at_314) rfl  kk) ?_
    show OwnGo p e below s _ _ _ T0 (mkF m 316 #[.val (.long p1), .second, .val (.long p2), .second, .val (.long p3), .second, .val (.long p4), .second, .val (.int p5), .val (.int kq), .val (.long tt), .second, .val (.long sa), .second, .val (.long sb), .second, .val (.long sc), .second, .val (.long sx), .second, .val (.int i20), .val (.int i21), .val (.int i22), .val (.int i23), .val (.ref ob), .val (.int i25), .val (.int i26), .val (.int i27), .val (.int i28), .val (.int i29), .val (.int i30), .val (.int i31), .val (.int i32), .val (.int i33)] [(.long sb), (.int i31)])
    refine OwnGo.st (fun _ kk => XS.lload X0.here hx rfl (hb hby at_316) rfl  kk) ?_
    show OwnGo p e below s _ _ _ T0 (mkF m 318 #[.val (.long p1), .second, .val (.long p2), .second, .val (.long p3), .second, .val (.long p4), .second, .val (.int p5), .val (.int kq), .val (.long tt), .second, .val (.long sa), .second, .val (.long sb), .second, .val (.long sc), .second, .val (.long sx), .second, .val (.int i20), .val (.int i21), .val (.int i22), .val (.int i23), .val (.ref ob), .val (.int i25), .val (.int i26), .val (.int i27), .val (.int i28), .val (.int i29), .val (.int i30), .val (.int i31), .val (.int i32), .val (.int i33)] [(.long sa), (.long sb), (.int i31)])
    refine OwnGo.st (fun _ kk => XS.lcmp X0.here hx rfl (hb hby at_318) rfl kk) ?_
    show OwnGo p e below s _ _ _ T0 (mkF m 319 #[.val (.long p1), .second, .val (.long p2), .second, .val (.long p3), .second, .val (.long p4), .second, .val (.int p5), .val (.int kq), .val (.long tt), .second, .val (.long sa), .second, .val (.long sb), .second, .val (.long sc), .second, .val (.long sx), .second, .val (.int i20), .val (.int i21), .val (.int i22), .val (.int i23), .val (.ref ob), .val (.int i25), .val (.int i26), .val (.int i27), .val (.int i28), .val (.int i29), .val (.int i30), .val (.int i31), .val (.int i32), .val (.int i33)] [(.int (lcmpW sb sa)), (.int i31)])
    by_cases e2 : sb = sa
    · refine OwnGo.st (fun _ kk => XS.ifYes X0.here hx rfl (pc0 := 319) (pc' := 326) rfl (hb hby at_319) rfl ((if0 _ _).trans (teq (((lw_eq _ _).2 e2) : (lcmpW sb sa) = (0 : Int32))).1) (by decide) (by decide) kk) ?_
      show OwnGo p e below s _ _ _ T0 (mkF m 326 #[.val (.long p1), .second, .val (.long p2), .second, .val (.long p3), .second, .val (.long p4), .second, .val (.int p5), .val (.int kq), .val (.long tt), .second, .val (.long sa), .second, .val (.long sb), .second, .val (.long sc), .second, .val (.long sx), .second, .val (.int i20), .val (.int i21), .val (.int i22), .val (.int i23), .val (.ref ob), .val (.int i25), .val (.int i26), .val (.int i27), .val (.int i28), .val (.int i29), .val (.int i30), .val (.int i31), .val (.int i32), .val (.int i33)] [(.int i31)])
      refine OwnGo.st (fun _ kk => XS.iconst X0.here hx rfl (hb hby at_326) kk) ?_
      show OwnGo p e below s _ _ _ T0 (mkF m 327 #[.val (.long p1), .second, .val (.long p2), .second, .val (.long p3), .second, .val (.long p4), .second, .val (.int p5), .val (.int kq), .val (.long tt), .second, .val (.long sa), .second, .val (.long sb), .second, .val (.long sc), .second, .val (.long sx), .second, .val (.int i20), .val (.int i21), .val (.int i22), .val (.int i23), .val (.ref ob), .val (.int i25), .val (.int i26), .val (.int i27), .val (.int i28), .val (.int i29), .val (.int i30), .val (.int i31), .val (.int i32), .val (.int i33)] [(.int (0 : Int32)), (.int i31)])
      refine OwnGo.st (fun _ kk => XS.icmpNo X0.here hx rfl (hb hby at_327) rfl (teq ((hxb.trans (own_bit0 (fun q => q.2 e2))) : i31 = (0 : Int32))).2 kk) ?_
      show OwnGo p e below s _ _ _ T0 (mkF m 330 #[.val (.long p1), .second, .val (.long p2), .second, .val (.long p3), .second, .val (.long p4), .second, .val (.int p5), .val (.int kq), .val (.long tt), .second, .val (.long sa), .second, .val (.long sb), .second, .val (.long sc), .second, .val (.long sx), .second, .val (.int i20), .val (.int i21), .val (.int i22), .val (.int i23), .val (.ref ob), .val (.int i25), .val (.int i26), .val (.int i27), .val (.int i28), .val (.int i29), .val (.int i30), .val (.int i31), .val (.int i32), .val (.int i33)] [])
      exact sg330 p1 p2 p3 p4 p5 tt sa sb sc sx kq i20 i21 i22 i23 ob i25 i26 i27 i28 i29 i30 i31 i32 i33 h1 h0 n0 hw X0 hx hby hml hret hlk hown hnm hZ e0 N0 hxc h33
    · refine OwnGo.st (fun _ kk => XS.ifNo X0.here hx rfl (hb hby at_319) rfl ((if0 _ _).trans (feq ((fun q => e2 ((lw_eq _ _).1 q)) : ¬ ((lcmpW sb sa) = (0 : Int32)))).1) kk) ?_
      show OwnGo p e below s _ _ _ T0 (mkF m 322 #[.val (.long p1), .second, .val (.long p2), .second, .val (.long p3), .second, .val (.long p4), .second, .val (.int p5), .val (.int kq), .val (.long tt), .second, .val (.long sa), .second, .val (.long sb), .second, .val (.long sc), .second, .val (.long sx), .second, .val (.int i20), .val (.int i21), .val (.int i22), .val (.int i23), .val (.ref ob), .val (.int i25), .val (.int i26), .val (.int i27), .val (.int i28), .val (.int i29), .val (.int i30), .val (.int i31), .val (.int i32), .val (.int i33)] [(.int i31)])
      refine OwnGo.st (fun _ kk => XS.iconst X0.here hx rfl (hb hby at_322) kk) ?_
      show OwnGo p e below s _ _ _ T0 (mkF m 323 #[.val (.long p1), .second, .val (.long p2), .second, .val (.long p3), .second, .val (.long p4), .second, .val (.int p5), .val (.int kq), .val (.long tt), .second, .val (.long sa), .second, .val (.long sb), .second, .val (.long sc), .second, .val (.long sx), .second, .val (.int i20), .val (.int i21), .val (.int i22), .val (.int i23), .val (.ref ob), .val (.int i25), .val (.int i26), .val (.int i27), .val (.int i28), .val (.int i29), .val (.int i30), .val (.int i31), .val (.int i32), .val (.int i33)] [(.int (1 : Int32)), (.int i31)])
      refine OwnGo.st (fun _ kk => XS.goto X0.here hx rfl (pc0 := 323) (pc' := 327) rfl (hb hby at_323) (by decide) (by decide) kk) ?_
      show OwnGo p e below s _ _ _ T0 (mkF m 327 #[.val (.long p1), .second, .val (.long p2), .second, .val (.long p3), .second, .val (.long p4), .second, .val (.int p5), .val (.int kq), .val (.long tt), .second, .val (.long sa), .second, .val (.long sb), .second, .val (.long sc), .second, .val (.long sx), .second, .val (.int i20), .val (.int i21), .val (.int i22), .val (.int i23), .val (.ref ob), .val (.int i25), .val (.int i26), .val (.int i27), .val (.int i28), .val (.int i29), .val (.int i30), .val (.int i31), .val (.int i32), .val (.int i33)] [(.int (1 : Int32)), (.int i31)])
      refine OwnGo.st (fun _ kk => XS.icmpNo X0.here hx rfl (hb hby at_327) rfl (teq ((hxb.trans (own_bit1 ⟨e1, e2⟩)) : i31 = (1 : Int32))).2 kk) ?_
      show OwnGo p e below s _ _ _ T0 (mkF m 330 #[.val (.long p1), .second, .val (.long p2), .second, .val (.long p3), .second, .val (.long p4), .second, .val (.int p5), .val (.int kq), .val (.long tt), .second, .val (.long sa), .second, .val (.long sb), .second, .val (.long sc), .second, .val (.long sx), .second, .val (.int i20), .val (.int i21), .val (.int i22), .val (.int i23), .val (.ref ob), .val (.int i25), .val (.int i26), .val (.int i27), .val (.int i28), .val (.int i29), .val (.int i30), .val (.int i31), .val (.int i32), .val (.int i33)] [])
      exact sg330 p1 p2 p3 p4 p5 tt sa sb sc sx kq i20 i21 i22 i23 ob i25 i26 i27 i28 i29 i30 i31 i32 i33 h1 h0 n0 hw X0 hx hby hml hret hlk hown hnm hZ e0 N0 hxc h33
set_option maxRecDepth 65536 in
set_option maxHeartbeats 40000000 in
theorem sg286 {p : Program} {l : Launch} {e : Env} {s : State} {m : MethodId} {below : List Frame} {meth : Method} {c : Code} {Z : State} {a0 : Array Value} {T0 : State} {locs : List Loc} (p1 : Int64) (p2 : Int64) (p3 : Int64) (p4 : Int64) (p5 : Int32) (tt : Int64) (sa : Int64) (sb : Int64) (sc : Int64) (sx : Int64) (kq : Int32) (i20 : Int32) (i21 : Int32) (i22 : Int32) (i23 : Int32) (ob : Addr) (i25 : Int32) (i26 : Int32) (i27 : Int32) (i28 : Int32) (i29 : Int32) (i30 : Int32) (i31 : Int32) (i32 : Int32) (i33 : Int32) (h1 : Heap) (h0 : Heap) (n0 : Nat) (hw : ∀ d ∈ tables_1, d.before a0 Z = true)
    (X0 : Stand p l e room_1 s m #[(.long p1), (.long p2), (.long p3), (.long p4), (.int p5)] below meth c T0 locs 2 18) (hx : p.tables.exec = Jvm.exec) (hby : c.code = code) (hml : c.maxLocals = 34) (hret : meth.sig.returnType = ret) (hlk : meth.locks = false) (hown : s.vm.findClass "com/example/utsatt/utsatt/KeyHashesRemovePinLaw" = some m.cls) (hnm : meth.name = "law") (hZ : Z.Warmed39 s.vm) (e0 : T0.heap = h1) (N0 : Fr n0 locs) (hxa : i30 = own_bit (¬ sa = sx)) (hxb : i31 = own_bit (¬ sb = sx ∧ ¬ sb = sa)) (hxc : i32 = own_bit (¬ sc = sx ∧ ¬ sc = sa ∧ ¬ sc = sb)) (h33 : i33 = (0 : Int32)) :
    OwnGo p e below s room_1.cells room_1.slots (Q0 Z p1 p2 p3 p4 p5 h0 n0) T0 (mkF m 286 #[.val (.long p1), .second, .val (.long p2), .second, .val (.long p3), .second, .val (.long p4), .second, .val (.int p5), .val (.int kq), .val (.long tt), .second, .val (.long sa), .second, .val (.long sb), .second, .val (.long sc), .second, .val (.long sx), .second, .val (.int i20), .val (.int i21), .val (.int i22), .val (.int i23), .val (.ref ob), .val (.int i25), .val (.int i26), .val (.int i27), .val (.int i28), .val (.int i29), .val (.int i30), .val (.int i31), .val (.int i32), .val (.int i33)] []) := by
  refine OwnGo.st (fun _ kk => XS.iload X0.here hx rfl (hb hby at_286) rfl  kk) ?_
  show OwnGo p e below s _ _ _ T0 (mkF m 288 #[.val (.long p1), .second, .val (.long p2), .second, .val (.long p3), .second, .val (.long p4), .second, .val (.int p5), .val (.int kq), .val (.long tt), .second, .val (.long sa), .second, .val (.long sb), .second, .val (.long sc), .second, .val (.long sx), .second, .val (.int i20), .val (.int i21), .val (.int i22), .val (.int i23), .val (.ref ob), .val (.int i25), .val (.int i26), .val (.int i27), .val (.int i28), .val (.int i29), .val (.int i30), .val (.int i31), .val (.int i32), .val (.int i33)] [(.int i30)])
  refine OwnGo.st (fun _ kk => XS.lload X0.here hx rfl (hb hby at_288) rfl  kk) ?_
  show OwnGo p e below s _ _ _ T0 (mkF m 290 #[.val (.long p1), .second, .val (.long p2), .second, .val (.long p3), .second, .val (.long p4), .second, .val (.int p5), .val (.int kq), .val (.long tt), .second, .val (.long sa), .second, .val (.long sb), .second, .val (.long sc), .second, .val (.long sx), .second, .val (.int i20), .val (.int i21), .val (.int i22), .val (.int i23), .val (.ref ob), .val (.int i25), .val (.int i26), .val (.int i27), .val (.int i28), .val (.int i29), .val (.int i30), .val (.int i31), .val (.int i32), .val (.int i33)] [(.long sa), (.int i30)])
  refine OwnGo.st (fun _ kk => XS.lload X0.here hx rfl (hb hby at_290) rfl  kk) ?_
  show OwnGo p e below s _ _ _ T0 (mkF m 292 #[.val (.long p1), .second, .val (.long p2), .second, .val (.long p3), .second, .val (.long p4), .second, .val (.int p5), .val (.int kq), .val (.long tt), .second, .val (.long sa), .second, .val (.long sb), .second, .val (.long sc), .second, .val (.long sx), .second, .val (.int i20), .val (.int i21), .val (.int i22), .val (.int i23), .val (.ref ob), .val (.int i25), .val (.int i26), .val (.int i27), .val (.int i28), .val (.int i29), .val (.int i30), .val (.int i31), .val (.int i32), .val (.int i33)] [(.long sx), (.long sa), (.int i30)])
  refine OwnGo.st (fun _ kk => XS.lcmp X0.here hx rfl (hb hby at_292) rfl kk) ?_
  show OwnGo p e below s _ _ _ T0 (mkF m 293 #[.val (.long p1), .second, .val (.long p2), .second, .val (.long p3), .second, .val (.long p4), .second, .val (.int p5), .val (.int kq), .val (.long tt), .second, .val (.long sa), .second, .val (.long sb), .second, .val (.long sc), .second, .val (.long sx), .second, .val (.int i20), .val (.int i21), .val (.int i22), .val (.int i23), .val (.ref ob), .val (.int i25), .val (.int i26), .val (.int i27), .val (.int i28), .val (.int i29), .val (.int i30), .val (.int i31), .val (.int i32), .val (.int i33)] [(.int (lcmpW sa sx)), (.int i30)])
  by_cases e1 : sa = sx
  · refine OwnGo.st (fun _ kk => XS.ifYes X0.here hx rfl (pc0 := 293) (pc' := 300) rfl (hb hby at_293) rfl ((if0 _ _).trans (teq (((lw_eq _ _).2 e1) : (lcmpW sa sx) = (0 : Int32))).1) (by decide) (by decide) kk) ?_
    show OwnGo p e below s _ _ _ T0 (mkF m 300 #[.val (.long p1), .second, .val (.long p2), .second, .val (.long p3), .second, .val (.long p4), .second, .val (.int p5), .val (.int kq), .val (.long tt), .second, .val (.long sa), .second, .val (.long sb), .second, .val (.long sc), .second, .val (.long sx), .second, .val (.int i20), .val (.int i21), .val (.int i22), .val (.int i23), .val (.ref ob), .val (.int i25), .val (.int i26), .val (.int i27), .val (.int i28), .val (.int i29), .val (.int i30), .val (.int i31), .val (.int i32), .val (.int i33)] [(.int i30)])
    refine OwnGo.st (fun _ kk => XS.iconst X0.here hx rfl (hb hby at_300) kk) ?_
    show OwnGo p e below s _ _ _ T0 (mkF m 301 #[.val (.long p1), .second, .val (.long p2), .second, .val (.long p3), .second, .val (.long p4), .second, .val (.int p5), .val (.int kq), .val (.long tt), .second, .val (.long sa), .second, .val (.long sb), .second, .val (.long sc), .second, .val (.long sx), .second, .val (.int i20), .val (.int i21), .val (.int i22), .val (.int i23), .val (.ref ob), .val (.int i25), .val (.int i26), .val (.int i27), .val (.int i28), .val (.int i29), .val (.int i30), .val (.int i31), .val (.int i32), .val (.int i33)] [(.int (0 : Int32)), (.int i30)])
    refine OwnGo.st (fun _ kk => XS.icmpNo X0.here hx rfl (hb hby at_301) rfl (teq ((hxa.trans (own_bit0 (fun q => q e1))) : i30 = (0 : Int32))).2 kk) ?_
    show OwnGo p e below s _ _ _ T0 (mkF m 304 #[.val (.long p1), .second, .val (.long p2), .second, .val (.long p3), .second, .val (.long p4), .second, .val (.int p5), .val (.int kq), .val (.long tt), .second, .val (.long sa), .second, .val (.long sb), .second, .val (.long sc), .second, .val (.long sx), .second, .val (.int i20), .val (.int i21), .val (.int i22), .val (.int i23), .val (.ref ob), .val (.int i25), .val (.int i26), .val (.int i27), .val (.int i28), .val (.int i29), .val (.int i30), .val (.int i31), .val (.int i32), .val (.int i33)] [])
    exact sg304 p1 p2 p3 p4 p5 tt sa sb sc sx kq i20 i21 i22 i23 ob i25 i26 i27 i28 i29 i30 i31 i32 i33 h1 h0 n0 hw X0 hx hby hml hret hlk hown hnm hZ e0 N0 hxb hxc h33
  · refine OwnGo.st (fun _ kk => XS.ifNo X0.here hx rfl (hb hby at_293) rfl ((if0 _ _).trans (feq ((fun q => e1 ((lw_eq _ _).1 q)) : ¬ ((lcmpW sa sx) = (0 : Int32)))).1) kk) ?_
    show OwnGo p e below s _ _ _ T0 (mkF m 296 #[.val (.long p1), .second, .val (.long p2), .second, .val (.long p3), .second, .val (.long p4), .second, .val (.int p5), .val (.int kq), .val (.long tt), .second, .val (.long sa), .second, .val (.long sb), .second, .val (.long sc), .second, .val (.long sx), .second, .val (.int i20), .val (.int i21), .val (.int i22), .val (.int i23), .val (.ref ob), .val (.int i25), .val (.int i26), .val (.int i27), .val (.int i28), .val (.int i29), .val (.int i30), .val (.int i31), .val (.int i32), .val (.int i33)] [(.int i30)])
    refine OwnGo.st (fun _ kk => XS.iconst X0.here hx rfl (hb hby at_296) kk) ?_
    show OwnGo p e below s _ _ _ T0 (mkF m 297 #[.val (.long p1), .second, .val (.long p2), .second, .val (.long p3), .second, .val (.long p4), .second, .val (.int p5), .val (.int kq), .val (.long tt), .second, .val (.long sa), .second, .val (.long sb), .second, .val (.long sc), .second, .val (.long sx), .second, .val (.int i20), .val (.int i21), .val (.int i22), .val (.int i23), .val (.ref ob), .val (.int i25), .val (.int i26), .val (.int i27), .val (.int i28), .val (.int i29), .val (.int i30), .val (.int i31), .val (.int i32), .val (.int i33)] [(.int (1 : Int32)), (.int i30)])
    refine OwnGo.st (fun _ kk => XS.goto X0.here hx rfl (pc0 := 297) (pc' := 301) rfl (hb hby at_297) (by decide) (by decide) kk) ?_
    show OwnGo p e below s _ _ _ T0 (mkF m 301 #[.val (.long p1), .second, .val (.long p2), .second, .val (.long p3), .second, .val (.long p4), .second, .val (.int p5), .val (.int kq), .val (.long tt), .second, .val (.long sa), .second, .val (.long sb), .second, .val (.long sc), .second, .val (.long sx), .second, .val (.int i20), .val (.int i21), .val (.int i22), .val (.int i23), .val (.ref ob), .val (.int i25), .val (.int i26), .val (.int i27), .val (.int i28), .val (.int i29), .val (.int i30), .val (.int i31), .val (.int i32), .val (.int i33)] [(.int (1 : Int32)), (.int i30)])
    refine OwnGo.st (fun _ kk => XS.icmpNo X0.here hx rfl (hb hby at_301) rfl (teq ((hxa.trans (own_bit1 e1)) : i30 = (1 : Int32))).2 kk) ?_
    show OwnGo p e below s _ _ _ T0 (mkF m 304 #[.val (.long p1), .second, .val (.long p2), .second, .val (.long p3), .second, .val (.long p4), .second, .val (.int p5), .val (.int kq), .val (.long tt), .second, .val (.long sa), .second, .val (.long sb), .second, .val (.long sc), .second, .val (.long sx), .second, .val (.int i20), .val (.int i21), .val (.int i22), .val (.int i23), .val (.ref ob), .val (.int i25), .val (.int i26), .val (.int i27), .val (.int i28), .val (.int i29), .val (.int i30), .val (.int i31), .val (.int i32), .val (.int i33)] [])
    exact sg304 p1 p2 p3 p4 p5 tt sa sb sc sx kq i20 i21 i22 i23 ob i25 i26 i27 i28 i29 i30 i31 i32 i33 h1 h0 n0 hw X0 hx hby hml hret hlk hown hnm hZ e0 N0 hxb hxc h33
set_option maxRecDepth 65536 in
set_option maxHeartbeats 40000000 in
theorem sg242 {p : Program} {l : Launch} {e : Env} {s : State} {m : MethodId} {below : List Frame} {meth : Method} {c : Code} {Z : State} {a0 : Array Value} {T0 : State} {locs : List Loc} (p1 : Int64) (p2 : Int64) (p3 : Int64) (p4 : Int64) (p5 : Int32) (tt : Int64) (sa : Int64) (sb : Int64) (sc : Int64) (sx : Int64) (kq : Int32) (i20 : Int32) (i21 : Int32) (i22 : Int32) (i23 : Int32) (ob : Addr) (i25 : Int32) (i26 : Int32) (i27 : Int32) (i28 : Int32) (i29 : Int32) (i30 : Int32) (i31 : Int32) (i32 : Int32) (i33 : Int32) (h1 : Heap) (h0 : Heap) (n0 : Nat) (hw : ∀ d ∈ tables_1, d.before a0 Z = true)
    (X0 : Stand p l e room_1 s m #[(.long p1), (.long p2), (.long p3), (.long p4), (.int p5)] below meth c T0 locs 2 18) (hx : p.tables.exec = Jvm.exec) (hby : c.code = code) (hml : c.maxLocals = 34) (hret : meth.sig.returnType = ret) (hlk : meth.locks = false) (hown : s.vm.findClass "com/example/utsatt/utsatt/KeyHashesRemovePinLaw" = some m.cls) (hnm : meth.name = "law") (hZ : Z.Warmed39 s.vm) (e0 : T0.heap = h1) (N0 : Fr n0 locs) (h25 : i25 = (1 : Int32)) (h26 : i26 = i20) (h27 : i27 = i21) (h28 : i28 = i23) (h23 : i23 = (0 : Int32) ∨ i23 = (1 : Int32)) (h29 : i29 = i22 - i23) (hxa : i30 = own_bit (¬ sa = sx)) (hxb : i31 = own_bit (¬ sb = sx ∧ ¬ sb = sa)) (hxc : i32 = own_bit (¬ sc = sx ∧ ¬ sc = sa ∧ ¬ sc = sb)) (h33 : i33 = (0 : Int32)) :
    OwnGo p e below s room_1.cells room_1.slots (Q0 Z p1 p2 p3 p4 p5 h0 n0) T0 (mkF m 242 #[.val (.long p1), .second, .val (.long p2), .second, .val (.long p3), .second, .val (.long p4), .second, .val (.int p5), .val (.int kq), .val (.long tt), .second, .val (.long sa), .second, .val (.long sb), .second, .val (.long sc), .second, .val (.long sx), .second, .val (.int i20), .val (.int i21), .val (.int i22), .val (.int i23), .val (.ref ob), .val (.int i25), .val (.int i26), .val (.int i27), .val (.int i28), .val (.int i29), .val (.int i30), .val (.int i31), .val (.int i32), .val (.int i33)] []) := by
  refine OwnGo.st (fun _ kk => XS.iload X0.here hx rfl (hb hby at_242) rfl  kk) ?_
  show OwnGo p e below s _ _ _ T0 (mkF m 244 #[.val (.long p1), .second, .val (.long p2), .second, .val (.long p3), .second, .val (.long p4), .second, .val (.int p5), .val (.int kq), .val (.long tt), .second, .val (.long sa), .second, .val (.long sb), .second, .val (.long sc), .second, .val (.long sx), .second, .val (.int i20), .val (.int i21), .val (.int i22), .val (.int i23), .val (.ref ob), .val (.int i25), .val (.int i26), .val (.int i27), .val (.int i28), .val (.int i29), .val (.int i30), .val (.int i31), .val (.int i32), .val (.int i33)] [(.int i25)])
  refine OwnGo.st (fun _ kk => XS.ifNo X0.here hx rfl (hb hby at_244) rfl ((if0 _ _).trans (feq ((fun q => absurd (h25.symm.trans q) (by decide)) : ¬ (i25 = (0 : Int32)))).1) kk) ?_
  show OwnGo p e below s _ _ _ T0 (mkF m 247 #[.val (.long p1), .second, .val (.long p2), .second, .val (.long p3), .second, .val (.long p4), .second, .val (.int p5), .val (.int kq), .val (.long tt), .second, .val (.long sa), .second, .val (.long sb), .second, .val (.long sc), .second, .val (.long sx), .second, .val (.int i20), .val (.int i21), .val (.int i22), .val (.int i23), .val (.ref ob), .val (.int i25), .val (.int i26), .val (.int i27), .val (.int i28), .val (.int i29), .val (.int i30), .val (.int i31), .val (.int i32), .val (.int i33)] [])
  refine OwnGo.st (fun _ kk => XS.iload X0.here hx rfl (hb hby at_247) rfl  kk) ?_
  show OwnGo p e below s _ _ _ T0 (mkF m 249 #[.val (.long p1), .second, .val (.long p2), .second, .val (.long p3), .second, .val (.long p4), .second, .val (.int p5), .val (.int kq), .val (.long tt), .second, .val (.long sa), .second, .val (.long sb), .second, .val (.long sc), .second, .val (.long sx), .second, .val (.int i20), .val (.int i21), .val (.int i22), .val (.int i23), .val (.ref ob), .val (.int i25), .val (.int i26), .val (.int i27), .val (.int i28), .val (.int i29), .val (.int i30), .val (.int i31), .val (.int i32), .val (.int i33)] [(.int i26)])
  refine OwnGo.st (fun _ kk => XS.iload X0.here hx rfl (hb hby at_249) rfl  kk) ?_
  show OwnGo p e below s _ _ _ T0 (mkF m 251 #[.val (.long p1), .second, .val (.long p2), .second, .val (.long p3), .second, .val (.long p4), .second, .val (.int p5), .val (.int kq), .val (.long tt), .second, .val (.long sa), .second, .val (.long sb), .second, .val (.long sc), .second, .val (.long sx), .second, .val (.int i20), .val (.int i21), .val (.int i22), .val (.int i23), .val (.ref ob), .val (.int i25), .val (.int i26), .val (.int i27), .val (.int i28), .val (.int i29), .val (.int i30), .val (.int i31), .val (.int i32), .val (.int i33)] [(.int i20), (.int i26)])
  refine OwnGo.st (fun _ kk => XS.icmpNo X0.here hx rfl (hb hby at_251) rfl (teq (h26 : i26 = i20)).2 kk) ?_
  show OwnGo p e below s _ _ _ T0 (mkF m 254 #[.val (.long p1), .second, .val (.long p2), .second, .val (.long p3), .second, .val (.long p4), .second, .val (.int p5), .val (.int kq), .val (.long tt), .second, .val (.long sa), .second, .val (.long sb), .second, .val (.long sc), .second, .val (.long sx), .second, .val (.int i20), .val (.int i21), .val (.int i22), .val (.int i23), .val (.ref ob), .val (.int i25), .val (.int i26), .val (.int i27), .val (.int i28), .val (.int i29), .val (.int i30), .val (.int i31), .val (.int i32), .val (.int i33)] [])
  refine OwnGo.st (fun _ kk => XS.iload X0.here hx rfl (hb hby at_254) rfl  kk) ?_
  show OwnGo p e below s _ _ _ T0 (mkF m 256 #[.val (.long p1), .second, .val (.long p2), .second, .val (.long p3), .second, .val (.long p4), .second, .val (.int p5), .val (.int kq), .val (.long tt), .second, .val (.long sa), .second, .val (.long sb), .second, .val (.long sc), .second, .val (.long sx), .second, .val (.int i20), .val (.int i21), .val (.int i22), .val (.int i23), .val (.ref ob), .val (.int i25), .val (.int i26), .val (.int i27), .val (.int i28), .val (.int i29), .val (.int i30), .val (.int i31), .val (.int i32), .val (.int i33)] [(.int i27)])
  refine OwnGo.st (fun _ kk => XS.iload X0.here hx rfl (hb hby at_256) rfl  kk) ?_
  show OwnGo p e below s _ _ _ T0 (mkF m 258 #[.val (.long p1), .second, .val (.long p2), .second, .val (.long p3), .second, .val (.long p4), .second, .val (.int p5), .val (.int kq), .val (.long tt), .second, .val (.long sa), .second, .val (.long sb), .second, .val (.long sc), .second, .val (.long sx), .second, .val (.int i20), .val (.int i21), .val (.int i22), .val (.int i23), .val (.ref ob), .val (.int i25), .val (.int i26), .val (.int i27), .val (.int i28), .val (.int i29), .val (.int i30), .val (.int i31), .val (.int i32), .val (.int i33)] [(.int i21), (.int i27)])
  refine OwnGo.st (fun _ kk => XS.icmpNo X0.here hx rfl (hb hby at_258) rfl (teq (h27 : i27 = i21)).2 kk) ?_
  show OwnGo p e below s _ _ _ T0 (mkF m 261 #[.val (.long p1), .second, .val (.long p2), .second, .val (.long p3), .second, .val (.long p4), .second, .val (.int p5), .val (.int kq), .val (.long tt), .second, .val (.long sa), .second, .val (.long sb), .second, .val (.long sc), .second, .val (.long sx), .second, .val (.int i20), .val (.int i21), .val (.int i22), .val (.int i23), .val (.ref ob), .val (.int i25), .val (.int i26), .val (.int i27), .val (.int i28), .val (.int i29), .val (.int i30), .val (.int i31), .val (.int i32), .val (.int i33)] [])
  refine OwnGo.st (fun _ kk => XS.iload X0.here hx rfl (hb hby at_261) rfl  kk) ?_
  show OwnGo p e below s _ _ _ T0 (mkF m 263 #[.val (.long p1), .second, .val (.long p2), .second, .val (.long p3), .second, .val (.long p4), .second, .val (.int p5), .val (.int kq), .val (.long tt), .second, .val (.long sa), .second, .val (.long sb), .second, .val (.long sc), .second, .val (.long sx), .second, .val (.int i20), .val (.int i21), .val (.int i22), .val (.int i23), .val (.ref ob), .val (.int i25), .val (.int i26), .val (.int i27), .val (.int i28), .val (.int i29), .val (.int i30), .val (.int i31), .val (.int i32), .val (.int i33)] [(.int i28)])
  refine OwnGo.st (fun _ kk => XS.iload X0.here hx rfl (hb hby at_263) rfl  kk) ?_
  show OwnGo p e below s _ _ _ T0 (mkF m 265 #[.val (.long p1), .second, .val (.long p2), .second, .val (.long p3), .second, .val (.long p4), .second, .val (.int p5), .val (.int kq), .val (.long tt), .second, .val (.long sa), .second, .val (.long sb), .second, .val (.long sc), .second, .val (.long sx), .second, .val (.int i20), .val (.int i21), .val (.int i22), .val (.int i23), .val (.ref ob), .val (.int i25), .val (.int i26), .val (.int i27), .val (.int i28), .val (.int i29), .val (.int i30), .val (.int i31), .val (.int i32), .val (.int i33)] [(.int i23), (.int i28)])
  refine OwnGo.st (fun _ kk => XS.icmpNo X0.here hx rfl (hb hby at_265) rfl (teq (h28 : i28 = i23)).2 kk) ?_
  show OwnGo p e below s _ _ _ T0 (mkF m 268 #[.val (.long p1), .second, .val (.long p2), .second, .val (.long p3), .second, .val (.long p4), .second, .val (.int p5), .val (.int kq), .val (.long tt), .second, .val (.long sa), .second, .val (.long sb), .second, .val (.long sc), .second, .val (.long sx), .second, .val (.int i20), .val (.int i21), .val (.int i22), .val (.int i23), .val (.ref ob), .val (.int i25), .val (.int i26), .val (.int i27), .val (.int i28), .val (.int i29), .val (.int i30), .val (.int i31), .val (.int i32), .val (.int i33)] [])
  refine OwnGo.st (fun _ kk => XS.iload X0.here hx rfl (hb hby at_268) rfl  kk) ?_
  show OwnGo p e below s _ _ _ T0 (mkF m 270 #[.val (.long p1), .second, .val (.long p2), .second, .val (.long p3), .second, .val (.long p4), .second, .val (.int p5), .val (.int kq), .val (.long tt), .second, .val (.long sa), .second, .val (.long sb), .second, .val (.long sc), .second, .val (.long sx), .second, .val (.int i20), .val (.int i21), .val (.int i22), .val (.int i23), .val (.ref ob), .val (.int i25), .val (.int i26), .val (.int i27), .val (.int i28), .val (.int i29), .val (.int i30), .val (.int i31), .val (.int i32), .val (.int i33)] [(.int i29)])
  refine OwnGo.st (fun _ kk => XS.iload X0.here hx rfl (hb hby at_270) rfl  kk) ?_
  show OwnGo p e below s _ _ _ T0 (mkF m 272 #[.val (.long p1), .second, .val (.long p2), .second, .val (.long p3), .second, .val (.long p4), .second, .val (.int p5), .val (.int kq), .val (.long tt), .second, .val (.long sa), .second, .val (.long sb), .second, .val (.long sc), .second, .val (.long sx), .second, .val (.int i20), .val (.int i21), .val (.int i22), .val (.int i23), .val (.ref ob), .val (.int i25), .val (.int i26), .val (.int i27), .val (.int i28), .val (.int i29), .val (.int i30), .val (.int i31), .val (.int i32), .val (.int i33)] [(.int i22), (.int i29)])
  refine OwnGo.st (fun _ kk => XS.iload X0.here hx rfl (hb hby at_272) rfl  kk) ?_
  show OwnGo p e below s _ _ _ T0 (mkF m 274 #[.val (.long p1), .second, .val (.long p2), .second, .val (.long p3), .second, .val (.long p4), .second, .val (.int p5), .val (.int kq), .val (.long tt), .second, .val (.long sa), .second, .val (.long sb), .second, .val (.long sc), .second, .val (.long sx), .second, .val (.int i20), .val (.int i21), .val (.int i22), .val (.int i23), .val (.ref ob), .val (.int i25), .val (.int i26), .val (.int i27), .val (.int i28), .val (.int i29), .val (.int i30), .val (.int i31), .val (.int i32), .val (.int i33)] [(.int i23), (.int i22), (.int i29)])
  rcases h23 with b23 | b23
  · refine OwnGo.st (fun _ kk => XS.ifYes X0.here hx rfl (pc0 := 274) (pc' := 281) rfl (hb hby at_274) rfl ((if0 _ _).trans (teq (b23 : i23 = (0 : Int32))).1) (by decide) (by decide) kk) ?_
    show OwnGo p e below s _ _ _ T0 (mkF m 281 #[.val (.long p1), .second, .val (.long p2), .second, .val (.long p3), .second, .val (.long p4), .second, .val (.int p5), .val (.int kq), .val (.long tt), .second, .val (.long sa), .second, .val (.long sb), .second, .val (.long sc), .second, .val (.long sx), .second, .val (.int i20), .val (.int i21), .val (.int i22), .val (.int i23), .val (.ref ob), .val (.int i25), .val (.int i26), .val (.int i27), .val (.int i28), .val (.int i29), .val (.int i30), .val (.int i31), .val (.int i32), .val (.int i33)] [(.int i22), (.int i29)])
    refine OwnGo.st (fun _ kk => XS.iconst X0.here hx rfl (hb hby at_281) kk) ?_
    show OwnGo p e below s _ _ _ T0 (mkF m 282 #[.val (.long p1), .second, .val (.long p2), .second, .val (.long p3), .second, .val (.long p4), .second, .val (.int p5), .val (.int kq), .val (.long tt), .second, .val (.long sa), .second, .val (.long sb), .second, .val (.long sc), .second, .val (.long sx), .second, .val (.int i20), .val (.int i21), .val (.int i22), .val (.int i23), .val (.ref ob), .val (.int i25), .val (.int i26), .val (.int i27), .val (.int i28), .val (.int i29), .val (.int i30), .val (.int i31), .val (.int i32), .val (.int i33)] [(.int (0 : Int32)), (.int i22), (.int i29)])
    refine OwnGo.st (fun _ kk => XS.isub X0.here hx rfl (hb hby at_282) rfl kk) ?_
    show OwnGo p e below s _ _ _ T0 (mkF m 283 #[.val (.long p1), .second, .val (.long p2), .second, .val (.long p3), .second, .val (.long p4), .second, .val (.int p5), .val (.int kq), .val (.long tt), .second, .val (.long sa), .second, .val (.long sb), .second, .val (.long sc), .second, .val (.long sx), .second, .val (.int i20), .val (.int i21), .val (.int i22), .val (.int i23), .val (.ref ob), .val (.int i25), .val (.int i26), .val (.int i27), .val (.int i28), .val (.int i29), .val (.int i30), .val (.int i31), .val (.int i32), .val (.int i33)] [(.int (i22 - (0 : Int32))), (.int i29)])
    refine OwnGo.st (fun _ kk => XS.icmpNo X0.here hx rfl (hb hby at_283) rfl (teq ((by rw [h29, b23]) : i29 = (i22 - (0 : Int32)))).2 kk) ?_
    show OwnGo p e below s _ _ _ T0 (mkF m 286 #[.val (.long p1), .second, .val (.long p2), .second, .val (.long p3), .second, .val (.long p4), .second, .val (.int p5), .val (.int kq), .val (.long tt), .second, .val (.long sa), .second, .val (.long sb), .second, .val (.long sc), .second, .val (.long sx), .second, .val (.int i20), .val (.int i21), .val (.int i22), .val (.int i23), .val (.ref ob), .val (.int i25), .val (.int i26), .val (.int i27), .val (.int i28), .val (.int i29), .val (.int i30), .val (.int i31), .val (.int i32), .val (.int i33)] [])
    exact sg286 p1 p2 p3 p4 p5 tt sa sb sc sx kq i20 i21 i22 i23 ob i25 i26 i27 i28 i29 i30 i31 i32 i33 h1 h0 n0 hw X0 hx hby hml hret hlk hown hnm hZ e0 N0 hxa hxb hxc h33
  · refine OwnGo.st (fun _ kk => XS.ifNo X0.here hx rfl (hb hby at_274) rfl ((if0 _ _).trans (feq ((fun q => absurd (b23.symm.trans q) (by decide)) : ¬ (i23 = (0 : Int32)))).1) kk) ?_
    show OwnGo p e below s _ _ _ T0 (mkF m 277 #[.val (.long p1), .second, .val (.long p2), .second, .val (.long p3), .second, .val (.long p4), .second, .val (.int p5), .val (.int kq), .val (.long tt), .second, .val (.long sa), .second, .val (.long sb), .second, .val (.long sc), .second, .val (.long sx), .second, .val (.int i20), .val (.int i21), .val (.int i22), .val (.int i23), .val (.ref ob), .val (.int i25), .val (.int i26), .val (.int i27), .val (.int i28), .val (.int i29), .val (.int i30), .val (.int i31), .val (.int i32), .val (.int i33)] [(.int i22), (.int i29)])
    refine OwnGo.st (fun _ kk => XS.iconst X0.here hx rfl (hb hby at_277) kk) ?_
    show OwnGo p e below s _ _ _ T0 (mkF m 278 #[.val (.long p1), .second, .val (.long p2), .second, .val (.long p3), .second, .val (.long p4), .second, .val (.int p5), .val (.int kq), .val (.long tt), .second, .val (.long sa), .second, .val (.long sb), .second, .val (.long sc), .second, .val (.long sx), .second, .val (.int i20), .val (.int i21), .val (.int i22), .val (.int i23), .val (.ref ob), .val (.int i25), .val (.int i26), .val (.int i27), .val (.int i28), .val (.int i29), .val (.int i30), .val (.int i31), .val (.int i32), .val (.int i33)] [(.int (1 : Int32)), (.int i22), (.int i29)])
    refine OwnGo.st (fun _ kk => XS.goto X0.here hx rfl (pc0 := 278) (pc' := 282) rfl (hb hby at_278) (by decide) (by decide) kk) ?_
    show OwnGo p e below s _ _ _ T0 (mkF m 282 #[.val (.long p1), .second, .val (.long p2), .second, .val (.long p3), .second, .val (.long p4), .second, .val (.int p5), .val (.int kq), .val (.long tt), .second, .val (.long sa), .second, .val (.long sb), .second, .val (.long sc), .second, .val (.long sx), .second, .val (.int i20), .val (.int i21), .val (.int i22), .val (.int i23), .val (.ref ob), .val (.int i25), .val (.int i26), .val (.int i27), .val (.int i28), .val (.int i29), .val (.int i30), .val (.int i31), .val (.int i32), .val (.int i33)] [(.int (1 : Int32)), (.int i22), (.int i29)])
    refine OwnGo.st (fun _ kk => XS.isub X0.here hx rfl (hb hby at_282) rfl kk) ?_
    show OwnGo p e below s _ _ _ T0 (mkF m 283 #[.val (.long p1), .second, .val (.long p2), .second, .val (.long p3), .second, .val (.long p4), .second, .val (.int p5), .val (.int kq), .val (.long tt), .second, .val (.long sa), .second, .val (.long sb), .second, .val (.long sc), .second, .val (.long sx), .second, .val (.int i20), .val (.int i21), .val (.int i22), .val (.int i23), .val (.ref ob), .val (.int i25), .val (.int i26), .val (.int i27), .val (.int i28), .val (.int i29), .val (.int i30), .val (.int i31), .val (.int i32), .val (.int i33)] [(.int (i22 - (1 : Int32))), (.int i29)])
    refine OwnGo.st (fun _ kk => XS.icmpNo X0.here hx rfl (hb hby at_283) rfl (teq ((by rw [h29, b23]) : i29 = (i22 - (1 : Int32)))).2 kk) ?_
    show OwnGo p e below s _ _ _ T0 (mkF m 286 #[.val (.long p1), .second, .val (.long p2), .second, .val (.long p3), .second, .val (.long p4), .second, .val (.int p5), .val (.int kq), .val (.long tt), .second, .val (.long sa), .second, .val (.long sb), .second, .val (.long sc), .second, .val (.long sx), .second, .val (.int i20), .val (.int i21), .val (.int i22), .val (.int i23), .val (.ref ob), .val (.int i25), .val (.int i26), .val (.int i27), .val (.int i28), .val (.int i29), .val (.int i30), .val (.int i31), .val (.int i32), .val (.int i33)] [])
    exact sg286 p1 p2 p3 p4 p5 tt sa sb sc sx kq i20 i21 i22 i23 ob i25 i26 i27 i28 i29 i30 i31 i32 i33 h1 h0 n0 hw X0 hx hby hml hret hlk hown hnm hZ e0 N0 hxa hxb hxc h33
set_option maxRecDepth 65536 in
set_option maxHeartbeats 40000000 in
theorem sg160 {p : Program} {l : Launch} {e : Env} {s : State} {m : MethodId} {below : List Frame} {meth : Method} {c : Code} {Z : State} {a0 : Array Value} {T0 : State} {locs : List Loc} (p1 : Int64) (p2 : Int64) (p3 : Int64) (p4 : Int64) (p5 : Int32) (tt : Int64) (sa : Int64) (sb : Int64) (sc : Int64) (sx : Int64) (kq : Int32) (i20 : Int32) (i21 : Int32) (i22 : Int32) (i23 : Int32) (h0 : Heap) (n0 : Nat) (hw : ∀ d ∈ tables_1, d.before a0 Z = true)
    (X0 : Stand p l e room_1 s m #[(.long p1), (.long p2), (.long p3), (.long p4), (.int p5)] below meth c T0 locs 0 0) (hx : p.tables.exec = Jvm.exec) (hby : c.code = code) (hml : c.maxLocals = 34) (hret : meth.sig.returnType = ret) (hlk : meth.locks = false) (hown : s.vm.findClass "com/example/utsatt/utsatt/KeyHashesRemovePinLaw" = some m.cls) (hnm : meth.name = "law") (hZ : Z.Warmed39 s.vm) (e0 : T0.heap = h0) (N0 : Fr n0 locs) (Z_ : n0 ≤ h0.size) (ga_ : sa = own_st p1) (gb_ : sb = own_st p2) (gc_ : sc = own_st p3) (gx_ : sx = own_st tt) (h20 : i20 = own_bit (¬ sb = sa)) (h21 : i21 = own_bit (¬ (sc = sa ∨ sc = sb))) (h22 : i22 = (1 : Int32) + i20 + i21) (h23 : i23 = own_bit (sx = sa ∨ sx = sb ∨ sx = sc)) :
    OwnGo p e below s room_1.cells room_1.slots (Q0 Z p1 p2 p3 p4 p5 h0 n0) T0 (mkF m 160 #[.val (.long p1), .second, .val (.long p2), .second, .val (.long p3), .second, .val (.long p4), .second, .val (.int p5), .val (.int kq), .val (.long tt), .second, .val (.long sa), .second, .val (.long sb), .second, .val (.long sc), .second, .val (.long sx), .second, .val (.int i20), .val (.int i21), .val (.int i22), .val (.int i23), .unset, .unset, .unset, .unset, .unset, .unset, .unset, .unset, .unset, .unset] []) := by
  obtain ⟨T230, h230, X230, e230, E230, A230, D230, -, st230⟩ := newO X0 hx hZ hown (hw _ (List.mem_of_getElem? (i := 4) rfl)) (hw _ (List.mem_of_getElem? (i := 5) rfl)) (hw _ (List.mem_of_getElem? (i := 6) rfl)) e0 (g := (mkF m 160 #[.val (.long p1), .second, .val (.long p2), .second, .val (.long p3), .second, .val (.long p4), .second, .val (.int p5), .val (.int kq), .val (.long tt), .second, .val (.long sa), .second, .val (.long sb), .second, .val (.long sc), .second, .val (.long sx), .second, .val (.int i20), .val (.int i21), .val (.int i22), .val (.int i23), .unset, .unset, .unset, .unset, .unset, .unset, .unset, .unset, .unset, .unset] [])) rfl (hb hby at_160) (by decide) (by decide)
  obtain ⟨b230, g230⟩ : ∃ z, z = h0.size := ⟨_, rfl⟩
  rw [← g230] at A230 D230 st230
  have g_b230 : n0 ≤ b230 := Nat.le_trans Z_ (Nat.le_of_eq g230.symm)
  have Z_ : n0 ≤ h230.size := Nat.le_trans Z_ E230.1
  have E_b230 := A230
  have F_slots_b230 : Fld Z h230 b230 "com/example/utsatt/utsatt/KeyHashes" "slots" "[J" .null := D230 (Or.inl (hw _ (List.mem_of_getElem? (i := 15) rfl))) (ty := (.array .long)) (by decide)
  have F_size_b230 : Fld Z h230 b230 "com/example/utsatt/utsatt/KeyHashes" "size" "I" (.int (0 : Int32)) := D230 (Or.inl (hw _ (List.mem_of_getElem? (i := 32) rfl))) (ty := .int) (by decide)
  refine OwnGo.st st230 ?_
  show OwnGo p e below s _ _ _ T230 (mkF m 163 #[.val (.long p1), .second, .val (.long p2), .second, .val (.long p3), .second, .val (.long p4), .second, .val (.int p5), .val (.int kq), .val (.long tt), .second, .val (.long sa), .second, .val (.long sb), .second, .val (.long sc), .second, .val (.long sx), .second, .val (.int i20), .val (.int i21), .val (.int i22), .val (.int i23), .unset, .unset, .unset, .unset, .unset, .unset, .unset, .unset, .unset, .unset] [(.ref b230)])
  refine OwnGo.st (fun _ kk => XS.dup X230.here hx rfl (hb hby at_163) rfl rfl kk) ?_
  show OwnGo p e below s _ _ _ T230 (mkF m 164 #[.val (.long p1), .second, .val (.long p2), .second, .val (.long p3), .second, .val (.long p4), .second, .val (.int p5), .val (.int kq), .val (.long tt), .second, .val (.long sa), .second, .val (.long sb), .second, .val (.long sc), .second, .val (.long sx), .second, .val (.int i20), .val (.int i21), .val (.int i22), .val (.int i23), .unset, .unset, .unset, .unset, .unset, .unset, .unset, .unset, .unset, .unset] [(.ref b230), (.ref b230)])
  obtain ⟨_, _, ⟨T231, L231, k231, n231⟩, -, X231, ⟨Lc231, hQ231, l231, y231, z231⟩, st231⟩ := X230.specialBack hx (y := (⟨"com/example/utsatt/utsatt/KeyHashes", "<init>", "()V"⟩ : MethodName)) rfl hown (mvT hZ (hw _ (List.mem_of_getElem? (i := 7) rfl))) (mvT hZ (hw _ (List.mem_of_getElem? (i := 8) rfl))) (mvT hZ (hw _ (List.mem_of_getElem? (i := 9) rfl))) (by decide) (backOf (W := 1) (rmini l Z a0 hw [] b230 h230 n0 Z_ E_b230 F_slots_b230 F_size_b230 g_b230) hZ (hw _ (List.mem_of_getElem? (i := 9) rfl)) (hw _ (List.mem_of_getElem? (i := 6) rfl)) (by decide) (by decide)) (g := (mkF m 164 #[.val (.long p1), .second, .val (.long p2), .second, .val (.long p3), .second, .val (.long p4), .second, .val (.int p5), .val (.int kq), .val (.long tt), .second, .val (.long sa), .second, .val (.long sb), .second, .val (.long sc), .second, .val (.long sx), .second, .val (.int i20), .val (.int i21), .val (.int i22), .val (.int i23), .unset, .unset, .unset, .unset, .unset, .unset, .unset, .unset, .unset, .unset] [(.ref b230), (.ref b230)])) rfl (by rw [hml]; rfl) (Steps.refl _) (a := b230) (argsL := []) (rest := [(.ref b230)]) (lenOf pd_4 rfl) rfl (by show 2 * 0 + _ ≤ _; exact Nat.le_of_eq rfl) (hb hby at_164) (fun _ _ => ⟨rfl, e230, (by decide : 1 + 1 ≤ _), (by decide : 2 + 16 ≤ _)⟩)
  dsimp only [Pt.U, Pt.locs, Pt.cells, Pt.slots] at X231 l231 y231 z231 st231 hQ231
  subst l231 y231 z231
  obtain ⟨rfl, N231q, K231, Eo231, Fz231, t231, kc231, Fs231, V231, zt231⟩ := hQ231
  have N231 := Fr.app N0 N231q
  have ne_b230_t231 : b230 ≠ t231 := Nat.ne_of_lt (Nat.lt_of_lt_of_le E_b230.lt zt231)
  have g_t231 : n0 ≤ t231 := Nat.le_trans Z_ zt231
  have Z_ : n0 ≤ T231.heap.size := Nat.le_trans Z_ K231.1
  have E_b230 := E_b230.keep K231
  refine OwnGo.st (fun _ kk => st231.trans kk) ?_
  show OwnGo p e below s _ _ _ T231 (mkF m 167 #[.val (.long p1), .second, .val (.long p2), .second, .val (.long p3), .second, .val (.long p4), .second, .val (.int p5), .val (.int kq), .val (.long tt), .second, .val (.long sa), .second, .val (.long sb), .second, .val (.long sc), .second, .val (.long sx), .second, .val (.int i20), .val (.int i21), .val (.int i22), .val (.int i23), .unset, .unset, .unset, .unset, .unset, .unset, .unset, .unset, .unset, .unset] [(.ref b230)])
  have Fz231 : Fld Z T231.heap b230 "com/example/utsatt/utsatt/KeyHashes" "size" "I" (.int (Int32.ofNat 0)) := Fz231
  refine OwnGo.st (fun _ kk => XS.astore X231.here hx rfl (hb hby at_167) rfl rfl (l' := #[.val (.long p1), .second, .val (.long p2), .second, .val (.long p3), .second, .val (.long p4), .second, .val (.int p5), .val (.int kq), .val (.long tt), .second, .val (.long sa), .second, .val (.long sb), .second, .val (.long sc), .second, .val (.long sx), .second, .val (.int i20), .val (.int i21), .val (.int i22), .val (.int i23), .val (.ref b230), .unset, .unset, .unset, .unset, .unset, .unset, .unset, .unset, .unset]) rfl kk) ?_
  show OwnGo p e below s _ _ _ T231 (mkF m 169 #[.val (.long p1), .second, .val (.long p2), .second, .val (.long p3), .second, .val (.long p4), .second, .val (.int p5), .val (.int kq), .val (.long tt), .second, .val (.long sa), .second, .val (.long sb), .second, .val (.long sc), .second, .val (.long sx), .second, .val (.int i20), .val (.int i21), .val (.int i22), .val (.int i23), .val (.ref b230), .unset, .unset, .unset, .unset, .unset, .unset, .unset, .unset, .unset] [])
  refine OwnGo.st (fun _ kk => XS.aload X231.here hx rfl (hb hby at_169) rfl rfl  kk) ?_
  show OwnGo p e below s _ _ _ T231 (mkF m 171 #[.val (.long p1), .second, .val (.long p2), .second, .val (.long p3), .second, .val (.long p4), .second, .val (.int p5), .val (.int kq), .val (.long tt), .second, .val (.long sa), .second, .val (.long sb), .second, .val (.long sc), .second, .val (.long sx), .second, .val (.int i20), .val (.int i21), .val (.int i22), .val (.int i23), .val (.ref b230), .unset, .unset, .unset, .unset, .unset, .unset, .unset, .unset, .unset] [(.ref b230)])
  refine OwnGo.st (fun _ kk => XS.lloadN X231.here hx rfl (hb hby at_171) rfl  kk) ?_
  show OwnGo p e below s _ _ _ T231 (mkF m 172 #[.val (.long p1), .second, .val (.long p2), .second, .val (.long p3), .second, .val (.long p4), .second, .val (.int p5), .val (.int kq), .val (.long tt), .second, .val (.long sa), .second, .val (.long sb), .second, .val (.long sc), .second, .val (.long sx), .second, .val (.int i20), .val (.int i21), .val (.int i22), .val (.int i23), .val (.ref b230), .unset, .unset, .unset, .unset, .unset, .unset, .unset, .unset, .unset] [(.long p1), (.ref b230)])
  obtain ⟨cq232, kq232, q232a, q232b, q232c⟩ := isOf hZ rfl E_b230
  obtain ⟨_, _, ⟨T232, L232, k232, n232⟩, -, X232, ⟨Lc232, hQ232, l232, y232, z232⟩, st232⟩ := X231.virtualBack hx (y := (⟨"com/example/utsatt/utsatt/KeyHashes", "add", "(J)Z"⟩ : MethodName)) (z := (⟨"com/example/utsatt/utsatt/KeyHashes", "add", "(J)Z"⟩ : MethodName)) hown (mvT hZ (hw _ (List.mem_of_getElem? (i := 16) rfl))) (mvT hZ (hw _ (List.mem_of_getElem? (i := 17) rfl))) (notFace_of_selects (args := #[]) (mvT hZ (hw _ (List.mem_of_getElem? (i := 19) rfl)))) (mvT hZ (hw _ (List.mem_of_getElem? (i := 19) rfl))) (mvT hZ (hw _ (List.mem_of_getElem? (i := 18) rfl))) (by decide) (backOf (W := 0) (rmaddG l Z a0 hw [] b230 t231 kc231 own_emp 0 p1 T231.heap n0 Z_ E_b230 Fs231 V231 Fz231 g_b230 g_t231 (Ne.symm ne_b230_t231) own_T_emp (by decide)) hZ (hw _ (List.mem_of_getElem? (i := 20) rfl)) (hw _ (List.mem_of_getElem? (i := 6) rfl)) (by decide) (by decide)) q232a q232c (g := (mkF m 172 #[.val (.long p1), .second, .val (.long p2), .second, .val (.long p3), .second, .val (.long p4), .second, .val (.int p5), .val (.int kq), .val (.long tt), .second, .val (.long sa), .second, .val (.long sb), .second, .val (.long sc), .second, .val (.long sx), .second, .val (.int i20), .val (.int i21), .val (.int i22), .val (.int i23), .val (.ref b230), .unset, .unset, .unset, .unset, .unset, .unset, .unset, .unset, .unset] [(.long p1), (.ref b230)])) rfl (by rw [hml]; rfl) (Steps.refl _) (argsL := [(.long p1)]) (rest := []) (lenOf pd_5 rfl) rfl (by show 2 * 0 + _ ≤ _; exact Nat.le_of_eq rfl) (hb hby at_172) (fun _ _ => ⟨rfl, rfl, (by decide : 2 + 0 ≤ _), (by decide : 18 + 0 ≤ _)⟩)
  dsimp only [Pt.U, Pt.locs, Pt.cells, Pt.slots] at X232 l232 y232 z232 st232 hQ232
  subst l232 y232 z232
  obtain ⟨w232, k232, rfl, N232q, K232, Eo232, Fs232, Fz232, V232, Tt232, c232, hs232⟩ := hQ232
  have N232 := Fr.app N231 N232q
  have Z_ : n0 ≤ T232.heap.size := Nat.le_trans Z_ K232.1
  have E_b230 := E_b230.keep K232
  refine OwnGo.st (fun _ kk => st232.trans kk) ?_
  show OwnGo p e below s _ _ _ T232 (mkF m 175 #[.val (.long p1), .second, .val (.long p2), .second, .val (.long p3), .second, .val (.long p4), .second, .val (.int p5), .val (.int kq), .val (.long tt), .second, .val (.long sa), .second, .val (.long sb), .second, .val (.long sc), .second, .val (.long sx), .second, .val (.int i20), .val (.int i21), .val (.int i22), .val (.int i23), .val (.ref b230), .unset, .unset, .unset, .unset, .unset, .unset, .unset, .unset, .unset] [(.int (own_bit (¬ own_has own_emp (own_st p1))))])
  obtain ⟨r25, hr25⟩ : ∃ z : Int32, z = (own_bit (¬ own_has own_emp (own_st p1))) := ⟨_, rfl⟩
  rw [← hr25]
  show OwnGo p e below s _ _ _ T232 (mkF m 175 #[.val (.long p1), .second, .val (.long p2), .second, .val (.long p3), .second, .val (.long p4), .second, .val (.int p5), .val (.int kq), .val (.long tt), .second, .val (.long sa), .second, .val (.long sb), .second, .val (.long sc), .second, .val (.long sx), .second, .val (.int i20), .val (.int i21), .val (.int i22), .val (.int i23), .val (.ref b230), .unset, .unset, .unset, .unset, .unset, .unset, .unset, .unset, .unset] [(.int r25)])
  rw [← ga_] at hr25 c232 hs232
  refine OwnGo.st (fun _ kk => XS.istore X232.here hx rfl (hb hby at_175) rfl (l' := #[.val (.long p1), .second, .val (.long p2), .second, .val (.long p3), .second, .val (.long p4), .second, .val (.int p5), .val (.int kq), .val (.long tt), .second, .val (.long sa), .second, .val (.long sb), .second, .val (.long sc), .second, .val (.long sx), .second, .val (.int i20), .val (.int i21), .val (.int i22), .val (.int i23), .val (.ref b230), .val (.int r25), .unset, .unset, .unset, .unset, .unset, .unset, .unset, .unset]) rfl kk) ?_
  show OwnGo p e below s _ _ _ T232 (mkF m 177 #[.val (.long p1), .second, .val (.long p2), .second, .val (.long p3), .second, .val (.long p4), .second, .val (.int p5), .val (.int kq), .val (.long tt), .second, .val (.long sa), .second, .val (.long sb), .second, .val (.long sc), .second, .val (.long sx), .second, .val (.int i20), .val (.int i21), .val (.int i22), .val (.int i23), .val (.ref b230), .val (.int r25), .unset, .unset, .unset, .unset, .unset, .unset, .unset, .unset] [])
  refine OwnGo.st (fun _ kk => XS.aload X232.here hx rfl (hb hby at_177) rfl rfl  kk) ?_
  show OwnGo p e below s _ _ _ T232 (mkF m 179 #[.val (.long p1), .second, .val (.long p2), .second, .val (.long p3), .second, .val (.long p4), .second, .val (.int p5), .val (.int kq), .val (.long tt), .second, .val (.long sa), .second, .val (.long sb), .second, .val (.long sc), .second, .val (.long sx), .second, .val (.int i20), .val (.int i21), .val (.int i22), .val (.int i23), .val (.ref b230), .val (.int r25), .unset, .unset, .unset, .unset, .unset, .unset, .unset, .unset] [(.ref b230)])
  refine OwnGo.st (fun _ kk => XS.lloadN X232.here hx rfl (hb hby at_179) rfl  kk) ?_
  show OwnGo p e below s _ _ _ T232 (mkF m 180 #[.val (.long p1), .second, .val (.long p2), .second, .val (.long p3), .second, .val (.long p4), .second, .val (.int p5), .val (.int kq), .val (.long tt), .second, .val (.long sa), .second, .val (.long sb), .second, .val (.long sc), .second, .val (.long sx), .second, .val (.int i20), .val (.int i21), .val (.int i22), .val (.int i23), .val (.ref b230), .val (.int r25), .unset, .unset, .unset, .unset, .unset, .unset, .unset, .unset] [(.long p2), (.ref b230)])
  have le232 : k232 ≤ 1 := by rw [c232]; have := own_bn_le (¬ own_has own_emp sa); omega
  obtain ⟨cq233, kq233, q233a, q233b, q233c⟩ := isOf hZ rfl E_b230
  obtain ⟨_, _, ⟨T233, L233, k233, n233⟩, -, X233, ⟨Lc233, hQ233, l233, y233, z233⟩, st233⟩ := X232.virtualBack hx (y := (⟨"com/example/utsatt/utsatt/KeyHashes", "add", "(J)Z"⟩ : MethodName)) (z := (⟨"com/example/utsatt/utsatt/KeyHashes", "add", "(J)Z"⟩ : MethodName)) hown (mvT hZ (hw _ (List.mem_of_getElem? (i := 16) rfl))) (mvT hZ (hw _ (List.mem_of_getElem? (i := 17) rfl))) (notFace_of_selects (args := #[]) (mvT hZ (hw _ (List.mem_of_getElem? (i := 19) rfl)))) (mvT hZ (hw _ (List.mem_of_getElem? (i := 19) rfl))) (mvT hZ (hw _ (List.mem_of_getElem? (i := 18) rfl))) (by decide) (backOf (W := 0) (rmaddG l Z a0 hw [] b230 t231 kc231 w232 k232 p2 T232.heap n0 Z_ E_b230 Fs232 V232 Fz232 g_b230 g_t231 (Ne.symm ne_b230_t231) Tt232 (Nat.le_trans le232 (by decide))) hZ (hw _ (List.mem_of_getElem? (i := 20) rfl)) (hw _ (List.mem_of_getElem? (i := 6) rfl)) (by decide) (by decide)) q233a q233c (g := (mkF m 180 #[.val (.long p1), .second, .val (.long p2), .second, .val (.long p3), .second, .val (.long p4), .second, .val (.int p5), .val (.int kq), .val (.long tt), .second, .val (.long sa), .second, .val (.long sb), .second, .val (.long sc), .second, .val (.long sx), .second, .val (.int i20), .val (.int i21), .val (.int i22), .val (.int i23), .val (.ref b230), .val (.int r25), .unset, .unset, .unset, .unset, .unset, .unset, .unset, .unset] [(.long p2), (.ref b230)])) rfl (by rw [hml]; rfl) (Steps.refl _) (argsL := [(.long p2)]) (rest := []) (lenOf pd_5 rfl) rfl (by show 2 * 0 + _ ≤ _; exact Nat.le_of_eq rfl) (hb hby at_180) (fun _ _ => ⟨rfl, rfl, (by decide : 2 + 0 ≤ _), (by decide : 18 + 0 ≤ _)⟩)
  dsimp only [Pt.U, Pt.locs, Pt.cells, Pt.slots] at X233 l233 y233 z233 st233 hQ233
  subst l233 y233 z233
  obtain ⟨w233, k233, rfl, N233q, K233, Eo233, Fs233, Fz233, V233, Tt233, c233, hs233⟩ := hQ233
  have N233 := Fr.app N232 N233q
  have Z_ : n0 ≤ T233.heap.size := Nat.le_trans Z_ K233.1
  have E_b230 := E_b230.keep K233
  refine OwnGo.st (fun _ kk => st233.trans kk) ?_
  show OwnGo p e below s _ _ _ T233 (mkF m 183 #[.val (.long p1), .second, .val (.long p2), .second, .val (.long p3), .second, .val (.long p4), .second, .val (.int p5), .val (.int kq), .val (.long tt), .second, .val (.long sa), .second, .val (.long sb), .second, .val (.long sc), .second, .val (.long sx), .second, .val (.int i20), .val (.int i21), .val (.int i22), .val (.int i23), .val (.ref b230), .val (.int r25), .unset, .unset, .unset, .unset, .unset, .unset, .unset, .unset] [(.int (own_bit (¬ own_has w232 (own_st p2))))])
  obtain ⟨r26, hr26⟩ : ∃ z : Int32, z = (own_bit (¬ own_has w232 (own_st p2))) := ⟨_, rfl⟩
  rw [← hr26]
  show OwnGo p e below s _ _ _ T233 (mkF m 183 #[.val (.long p1), .second, .val (.long p2), .second, .val (.long p3), .second, .val (.long p4), .second, .val (.int p5), .val (.int kq), .val (.long tt), .second, .val (.long sa), .second, .val (.long sb), .second, .val (.long sc), .second, .val (.long sx), .second, .val (.int i20), .val (.int i21), .val (.int i22), .val (.int i23), .val (.ref b230), .val (.int r25), .unset, .unset, .unset, .unset, .unset, .unset, .unset, .unset] [(.int r26)])
  rw [← gb_] at hr26 c233 hs233
  refine OwnGo.st (fun _ kk => XS.istore X233.here hx rfl (hb hby at_183) rfl (l' := #[.val (.long p1), .second, .val (.long p2), .second, .val (.long p3), .second, .val (.long p4), .second, .val (.int p5), .val (.int kq), .val (.long tt), .second, .val (.long sa), .second, .val (.long sb), .second, .val (.long sc), .second, .val (.long sx), .second, .val (.int i20), .val (.int i21), .val (.int i22), .val (.int i23), .val (.ref b230), .val (.int r25), .val (.int r26), .unset, .unset, .unset, .unset, .unset, .unset, .unset]) rfl kk) ?_
  show OwnGo p e below s _ _ _ T233 (mkF m 185 #[.val (.long p1), .second, .val (.long p2), .second, .val (.long p3), .second, .val (.long p4), .second, .val (.int p5), .val (.int kq), .val (.long tt), .second, .val (.long sa), .second, .val (.long sb), .second, .val (.long sc), .second, .val (.long sx), .second, .val (.int i20), .val (.int i21), .val (.int i22), .val (.int i23), .val (.ref b230), .val (.int r25), .val (.int r26), .unset, .unset, .unset, .unset, .unset, .unset, .unset] [])
  refine OwnGo.st (fun _ kk => XS.aload X233.here hx rfl (hb hby at_185) rfl rfl  kk) ?_
  show OwnGo p e below s _ _ _ T233 (mkF m 187 #[.val (.long p1), .second, .val (.long p2), .second, .val (.long p3), .second, .val (.long p4), .second, .val (.int p5), .val (.int kq), .val (.long tt), .second, .val (.long sa), .second, .val (.long sb), .second, .val (.long sc), .second, .val (.long sx), .second, .val (.int i20), .val (.int i21), .val (.int i22), .val (.int i23), .val (.ref b230), .val (.int r25), .val (.int r26), .unset, .unset, .unset, .unset, .unset, .unset, .unset] [(.ref b230)])
  refine OwnGo.st (fun _ kk => XS.lload X233.here hx rfl (hb hby at_187) rfl  kk) ?_
  show OwnGo p e below s _ _ _ T233 (mkF m 189 #[.val (.long p1), .second, .val (.long p2), .second, .val (.long p3), .second, .val (.long p4), .second, .val (.int p5), .val (.int kq), .val (.long tt), .second, .val (.long sa), .second, .val (.long sb), .second, .val (.long sc), .second, .val (.long sx), .second, .val (.int i20), .val (.int i21), .val (.int i22), .val (.int i23), .val (.ref b230), .val (.int r25), .val (.int r26), .unset, .unset, .unset, .unset, .unset, .unset, .unset] [(.long p3), (.ref b230)])
  have le233 : k233 ≤ 2 := by rw [c233]; have := own_bn_le (¬ own_has w232 sb); omega
  obtain ⟨cq234, kq234, q234a, q234b, q234c⟩ := isOf hZ rfl E_b230
  obtain ⟨_, _, ⟨T234, L234, k234, n234⟩, -, X234, ⟨Lc234, hQ234, l234, y234, z234⟩, st234⟩ := X233.virtualBack hx (y := (⟨"com/example/utsatt/utsatt/KeyHashes", "add", "(J)Z"⟩ : MethodName)) (z := (⟨"com/example/utsatt/utsatt/KeyHashes", "add", "(J)Z"⟩ : MethodName)) hown (mvT hZ (hw _ (List.mem_of_getElem? (i := 16) rfl))) (mvT hZ (hw _ (List.mem_of_getElem? (i := 17) rfl))) (notFace_of_selects (args := #[]) (mvT hZ (hw _ (List.mem_of_getElem? (i := 19) rfl)))) (mvT hZ (hw _ (List.mem_of_getElem? (i := 19) rfl))) (mvT hZ (hw _ (List.mem_of_getElem? (i := 18) rfl))) (by decide) (backOf (W := 0) (rmaddG l Z a0 hw [] b230 t231 kc231 w233 k233 p3 T233.heap n0 Z_ E_b230 Fs233 V233 Fz233 g_b230 g_t231 (Ne.symm ne_b230_t231) Tt233 (Nat.le_trans le233 (by decide))) hZ (hw _ (List.mem_of_getElem? (i := 20) rfl)) (hw _ (List.mem_of_getElem? (i := 6) rfl)) (by decide) (by decide)) q234a q234c (g := (mkF m 189 #[.val (.long p1), .second, .val (.long p2), .second, .val (.long p3), .second, .val (.long p4), .second, .val (.int p5), .val (.int kq), .val (.long tt), .second, .val (.long sa), .second, .val (.long sb), .second, .val (.long sc), .second, .val (.long sx), .second, .val (.int i20), .val (.int i21), .val (.int i22), .val (.int i23), .val (.ref b230), .val (.int r25), .val (.int r26), .unset, .unset, .unset, .unset, .unset, .unset, .unset] [(.long p3), (.ref b230)])) rfl (by rw [hml]; rfl) (Steps.refl _) (argsL := [(.long p3)]) (rest := []) (lenOf pd_5 rfl) rfl (by show 2 * 0 + _ ≤ _; exact Nat.le_of_eq rfl) (hb hby at_189) (fun _ _ => ⟨rfl, rfl, (by decide : 2 + 0 ≤ _), (by decide : 18 + 0 ≤ _)⟩)
  dsimp only [Pt.U, Pt.locs, Pt.cells, Pt.slots] at X234 l234 y234 z234 st234 hQ234
  subst l234 y234 z234
  obtain ⟨w234, k234, rfl, N234q, K234, Eo234, Fs234, Fz234, V234, Tt234, c234, hs234⟩ := hQ234
  have N234 := Fr.app N233 N234q
  have Z_ : n0 ≤ T234.heap.size := Nat.le_trans Z_ K234.1
  have E_b230 := E_b230.keep K234
  refine OwnGo.st (fun _ kk => st234.trans kk) ?_
  show OwnGo p e below s _ _ _ T234 (mkF m 192 #[.val (.long p1), .second, .val (.long p2), .second, .val (.long p3), .second, .val (.long p4), .second, .val (.int p5), .val (.int kq), .val (.long tt), .second, .val (.long sa), .second, .val (.long sb), .second, .val (.long sc), .second, .val (.long sx), .second, .val (.int i20), .val (.int i21), .val (.int i22), .val (.int i23), .val (.ref b230), .val (.int r25), .val (.int r26), .unset, .unset, .unset, .unset, .unset, .unset, .unset] [(.int (own_bit (¬ own_has w233 (own_st p3))))])
  obtain ⟨r27, hr27⟩ : ∃ z : Int32, z = (own_bit (¬ own_has w233 (own_st p3))) := ⟨_, rfl⟩
  rw [← hr27]
  show OwnGo p e below s _ _ _ T234 (mkF m 192 #[.val (.long p1), .second, .val (.long p2), .second, .val (.long p3), .second, .val (.long p4), .second, .val (.int p5), .val (.int kq), .val (.long tt), .second, .val (.long sa), .second, .val (.long sb), .second, .val (.long sc), .second, .val (.long sx), .second, .val (.int i20), .val (.int i21), .val (.int i22), .val (.int i23), .val (.ref b230), .val (.int r25), .val (.int r26), .unset, .unset, .unset, .unset, .unset, .unset, .unset] [(.int r27)])
  rw [← gc_] at hr27 c234 hs234
  refine OwnGo.st (fun _ kk => XS.istore X234.here hx rfl (hb hby at_192) rfl (l' := #[.val (.long p1), .second, .val (.long p2), .second, .val (.long p3), .second, .val (.long p4), .second, .val (.int p5), .val (.int kq), .val (.long tt), .second, .val (.long sa), .second, .val (.long sb), .second, .val (.long sc), .second, .val (.long sx), .second, .val (.int i20), .val (.int i21), .val (.int i22), .val (.int i23), .val (.ref b230), .val (.int r25), .val (.int r26), .val (.int r27), .unset, .unset, .unset, .unset, .unset, .unset]) rfl kk) ?_
  show OwnGo p e below s _ _ _ T234 (mkF m 194 #[.val (.long p1), .second, .val (.long p2), .second, .val (.long p3), .second, .val (.long p4), .second, .val (.int p5), .val (.int kq), .val (.long tt), .second, .val (.long sa), .second, .val (.long sb), .second, .val (.long sc), .second, .val (.long sx), .second, .val (.int i20), .val (.int i21), .val (.int i22), .val (.int i23), .val (.ref b230), .val (.int r25), .val (.int r26), .val (.int r27), .unset, .unset, .unset, .unset, .unset, .unset] [])
  refine OwnGo.st (fun _ kk => XS.aload X234.here hx rfl (hb hby at_194) rfl rfl  kk) ?_
  show OwnGo p e below s _ _ _ T234 (mkF m 196 #[.val (.long p1), .second, .val (.long p2), .second, .val (.long p3), .second, .val (.long p4), .second, .val (.int p5), .val (.int kq), .val (.long tt), .second, .val (.long sa), .second, .val (.long sb), .second, .val (.long sc), .second, .val (.long sx), .second, .val (.int i20), .val (.int i21), .val (.int i22), .val (.int i23), .val (.ref b230), .val (.int r25), .val (.int r26), .val (.int r27), .unset, .unset, .unset, .unset, .unset, .unset] [(.ref b230)])
  refine OwnGo.st (fun _ kk => XS.lload X234.here hx rfl (hb hby at_196) rfl  kk) ?_
  show OwnGo p e below s _ _ _ T234 (mkF m 198 #[.val (.long p1), .second, .val (.long p2), .second, .val (.long p3), .second, .val (.long p4), .second, .val (.int p5), .val (.int kq), .val (.long tt), .second, .val (.long sa), .second, .val (.long sb), .second, .val (.long sc), .second, .val (.long sx), .second, .val (.int i20), .val (.int i21), .val (.int i22), .val (.int i23), .val (.ref b230), .val (.int r25), .val (.int r26), .val (.int r27), .unset, .unset, .unset, .unset, .unset, .unset] [(.long tt), (.ref b230)])
  have le234 : k234 ≤ 3 := by rw [c234]; have := own_bn_le (¬ own_has w233 sc); omega
  obtain ⟨cq235, kq235, q235a, q235b, q235c⟩ := isOf hZ rfl E_b230
  obtain ⟨_, _, ⟨T235, L235, k235, n235⟩, -, X235, ⟨Lc235, hQ235, l235, y235, z235⟩, st235⟩ := X234.virtualBack hx (y := (⟨"com/example/utsatt/utsatt/KeyHashes", "remove", "(J)Z"⟩ : MethodName)) (z := (⟨"com/example/utsatt/utsatt/KeyHashes", "remove", "(J)Z"⟩ : MethodName)) hown (mvT hZ (hw _ (List.mem_of_getElem? (i := 38) rfl))) (mvT hZ (hw _ (List.mem_of_getElem? (i := 39) rfl))) (notFace_of_selects (args := #[]) (mvT hZ (hw _ (List.mem_of_getElem? (i := 41) rfl)))) (mvT hZ (hw _ (List.mem_of_getElem? (i := 41) rfl))) (mvT hZ (hw _ (List.mem_of_getElem? (i := 40) rfl))) (by decide) (backOf (W := 0) (rmremG l Z a0 hw [] b230 t231 kc231 w234 k234 tt T234.heap n0 Z_ E_b230 Fs234 V234 Fz234 g_b230 g_t231 (Ne.symm ne_b230_t231) Tt234 le234) hZ (hw _ (List.mem_of_getElem? (i := 42) rfl)) (hw _ (List.mem_of_getElem? (i := 6) rfl)) (by decide) (by decide)) q235a q235c (g := (mkF m 198 #[.val (.long p1), .second, .val (.long p2), .second, .val (.long p3), .second, .val (.long p4), .second, .val (.int p5), .val (.int kq), .val (.long tt), .second, .val (.long sa), .second, .val (.long sb), .second, .val (.long sc), .second, .val (.long sx), .second, .val (.int i20), .val (.int i21), .val (.int i22), .val (.int i23), .val (.ref b230), .val (.int r25), .val (.int r26), .val (.int r27), .unset, .unset, .unset, .unset, .unset, .unset] [(.long tt), (.ref b230)])) rfl (by rw [hml]; rfl) (Steps.refl _) (argsL := [(.long tt)]) (rest := []) (lenOf pd_5 rfl) rfl (by show 2 * 0 + _ ≤ _; exact Nat.le_of_eq rfl) (hb hby at_198) (fun _ _ => ⟨rfl, rfl, (by decide : 2 + 0 ≤ _), (by decide : 18 + 0 ≤ _)⟩)
  dsimp only [Pt.U, Pt.locs, Pt.cells, Pt.slots] at X235 l235 y235 z235 st235 hQ235
  subst l235 y235 z235
  obtain ⟨w235, k235, rfl, N235q, K235, Eo235, Fs235, Fz235, V235, Tt235, c235, hs235⟩ := hQ235
  have N235 := Fr.app N234 N235q
  have Z_ : n0 ≤ T235.heap.size := Nat.le_trans Z_ K235.1
  have E_b230 := E_b230.keep K235
  refine OwnGo.st (fun _ kk => st235.trans kk) ?_
  show OwnGo p e below s _ _ _ T235 (mkF m 201 #[.val (.long p1), .second, .val (.long p2), .second, .val (.long p3), .second, .val (.long p4), .second, .val (.int p5), .val (.int kq), .val (.long tt), .second, .val (.long sa), .second, .val (.long sb), .second, .val (.long sc), .second, .val (.long sx), .second, .val (.int i20), .val (.int i21), .val (.int i22), .val (.int i23), .val (.ref b230), .val (.int r25), .val (.int r26), .val (.int r27), .unset, .unset, .unset, .unset, .unset, .unset] [(.int (own_bit (own_has w234 (own_st tt))))])
  obtain ⟨r28, hr28⟩ : ∃ z : Int32, z = (own_bit (own_has w234 (own_st tt))) := ⟨_, rfl⟩
  rw [← hr28]
  show OwnGo p e below s _ _ _ T235 (mkF m 201 #[.val (.long p1), .second, .val (.long p2), .second, .val (.long p3), .second, .val (.long p4), .second, .val (.int p5), .val (.int kq), .val (.long tt), .second, .val (.long sa), .second, .val (.long sb), .second, .val (.long sc), .second, .val (.long sx), .second, .val (.int i20), .val (.int i21), .val (.int i22), .val (.int i23), .val (.ref b230), .val (.int r25), .val (.int r26), .val (.int r27), .unset, .unset, .unset, .unset, .unset, .unset] [(.int r28)])
  rw [← gx_] at hr28 c235 hs235
  refine OwnGo.st (fun _ kk => XS.istore X235.here hx rfl (hb hby at_201) rfl (l' := #[.val (.long p1), .second, .val (.long p2), .second, .val (.long p3), .second, .val (.long p4), .second, .val (.int p5), .val (.int kq), .val (.long tt), .second, .val (.long sa), .second, .val (.long sb), .second, .val (.long sc), .second, .val (.long sx), .second, .val (.int i20), .val (.int i21), .val (.int i22), .val (.int i23), .val (.ref b230), .val (.int r25), .val (.int r26), .val (.int r27), .val (.int r28), .unset, .unset, .unset, .unset, .unset]) rfl kk) ?_
  show OwnGo p e below s _ _ _ T235 (mkF m 203 #[.val (.long p1), .second, .val (.long p2), .second, .val (.long p3), .second, .val (.long p4), .second, .val (.int p5), .val (.int kq), .val (.long tt), .second, .val (.long sa), .second, .val (.long sb), .second, .val (.long sc), .second, .val (.long sx), .second, .val (.int i20), .val (.int i21), .val (.int i22), .val (.int i23), .val (.ref b230), .val (.int r25), .val (.int r26), .val (.int r27), .val (.int r28), .unset, .unset, .unset, .unset, .unset] [])
  refine OwnGo.st (fun _ kk => XS.aload X235.here hx rfl (hb hby at_203) rfl rfl  kk) ?_
  show OwnGo p e below s _ _ _ T235 (mkF m 205 #[.val (.long p1), .second, .val (.long p2), .second, .val (.long p3), .second, .val (.long p4), .second, .val (.int p5), .val (.int kq), .val (.long tt), .second, .val (.long sa), .second, .val (.long sb), .second, .val (.long sc), .second, .val (.long sx), .second, .val (.int i20), .val (.int i21), .val (.int i22), .val (.int i23), .val (.ref b230), .val (.int r25), .val (.int r26), .val (.int r27), .val (.int r28), .unset, .unset, .unset, .unset, .unset] [(.ref b230)])
  have le235 : k235 ≤ 3 := by omega
  obtain ⟨cq236, kq236, q236a, q236b, q236c⟩ := isOf hZ rfl E_b230
  obtain ⟨_, _, ⟨T236, L236, k236, n236⟩, -, X236, ⟨Lc236, hQ236, l236, y236, z236⟩, st236⟩ := X235.virtualBack hx (y := (⟨"com/example/utsatt/utsatt/KeyHashes", "size", "()I"⟩ : MethodName)) (z := (⟨"com/example/utsatt/utsatt/KeyHashes", "size", "()I"⟩ : MethodName)) hown (mvT hZ (hw _ (List.mem_of_getElem? (i := 44) rfl))) (mvT hZ (hw _ (List.mem_of_getElem? (i := 45) rfl))) (notFace_of_selects (args := #[]) (mvT hZ (hw _ (List.mem_of_getElem? (i := 47) rfl)))) (mvT hZ (hw _ (List.mem_of_getElem? (i := 47) rfl))) (mvT hZ (hw _ (List.mem_of_getElem? (i := 46) rfl))) (by decide) (backOf (W := 0) (rmsiz l Z a0 hw [] b230 (Int32.ofNat k235) T235.heap n0 Z_ Fz235) hZ (hw _ (List.mem_of_getElem? (i := 48) rfl)) (hw _ (List.mem_of_getElem? (i := 6) rfl)) (by decide) (by decide)) q236a q236c (g := (mkF m 205 #[.val (.long p1), .second, .val (.long p2), .second, .val (.long p3), .second, .val (.long p4), .second, .val (.int p5), .val (.int kq), .val (.long tt), .second, .val (.long sa), .second, .val (.long sb), .second, .val (.long sc), .second, .val (.long sx), .second, .val (.int i20), .val (.int i21), .val (.int i22), .val (.int i23), .val (.ref b230), .val (.int r25), .val (.int r26), .val (.int r27), .val (.int r28), .unset, .unset, .unset, .unset, .unset] [(.ref b230)])) rfl (by rw [hml]; rfl) (Steps.refl _) (argsL := []) (rest := []) (lenOf pd_6 rfl) rfl (by show 2 * 0 + _ ≤ _; exact Nat.le_of_eq rfl) (hb hby at_205) (fun _ _ => ⟨rfl, rfl, (by decide : 2 + 0 ≤ _), (by decide : 18 + 0 ≤ _)⟩)
  dsimp only [Pt.U, Pt.locs, Pt.cells, Pt.slots] at X236 l236 y236 z236 st236 hQ236
  subst l236 y236 z236
  obtain ⟨rfl, N236q, e236⟩ := hQ236
  have N236 := Fr.app N235 N236q
  refine OwnGo.st (fun _ kk => st236.trans kk) ?_
  show OwnGo p e below s _ _ _ T236 (mkF m 208 #[.val (.long p1), .second, .val (.long p2), .second, .val (.long p3), .second, .val (.long p4), .second, .val (.int p5), .val (.int kq), .val (.long tt), .second, .val (.long sa), .second, .val (.long sb), .second, .val (.long sc), .second, .val (.long sx), .second, .val (.int i20), .val (.int i21), .val (.int i22), .val (.int i23), .val (.ref b230), .val (.int r25), .val (.int r26), .val (.int r27), .val (.int r28), .unset, .unset, .unset, .unset, .unset] [(.int (Int32.ofNat k235))])
  refine OwnGo.st (fun _ kk => XS.istore X236.here hx rfl (hb hby at_208) rfl (l' := #[.val (.long p1), .second, .val (.long p2), .second, .val (.long p3), .second, .val (.long p4), .second, .val (.int p5), .val (.int kq), .val (.long tt), .second, .val (.long sa), .second, .val (.long sb), .second, .val (.long sc), .second, .val (.long sx), .second, .val (.int i20), .val (.int i21), .val (.int i22), .val (.int i23), .val (.ref b230), .val (.int r25), .val (.int r26), .val (.int r27), .val (.int r28), .val (.int (Int32.ofNat k235)), .unset, .unset, .unset, .unset]) rfl kk) ?_
  show OwnGo p e below s _ _ _ T236 (mkF m 210 #[.val (.long p1), .second, .val (.long p2), .second, .val (.long p3), .second, .val (.long p4), .second, .val (.int p5), .val (.int kq), .val (.long tt), .second, .val (.long sa), .second, .val (.long sb), .second, .val (.long sc), .second, .val (.long sx), .second, .val (.int i20), .val (.int i21), .val (.int i22), .val (.int i23), .val (.ref b230), .val (.int r25), .val (.int r26), .val (.int r27), .val (.int r28), .val (.int (Int32.ofNat k235)), .unset, .unset, .unset, .unset] [])
  refine OwnGo.st (fun _ kk => XS.aload X236.here hx rfl (hb hby at_210) rfl rfl  kk) ?_
  show OwnGo p e below s _ _ _ T236 (mkF m 212 #[.val (.long p1), .second, .val (.long p2), .second, .val (.long p3), .second, .val (.long p4), .second, .val (.int p5), .val (.int kq), .val (.long tt), .second, .val (.long sa), .second, .val (.long sb), .second, .val (.long sc), .second, .val (.long sx), .second, .val (.int i20), .val (.int i21), .val (.int i22), .val (.int i23), .val (.ref b230), .val (.int r25), .val (.int r26), .val (.int r27), .val (.int r28), .val (.int (Int32.ofNat k235)), .unset, .unset, .unset, .unset] [(.ref b230)])
  refine OwnGo.st (fun _ kk => XS.lloadN X236.here hx rfl (hb hby at_212) rfl  kk) ?_
  show OwnGo p e below s _ _ _ T236 (mkF m 213 #[.val (.long p1), .second, .val (.long p2), .second, .val (.long p3), .second, .val (.long p4), .second, .val (.int p5), .val (.int kq), .val (.long tt), .second, .val (.long sa), .second, .val (.long sb), .second, .val (.long sc), .second, .val (.long sx), .second, .val (.int i20), .val (.int i21), .val (.int i22), .val (.int i23), .val (.ref b230), .val (.int r25), .val (.int r26), .val (.int r27), .val (.int r28), .val (.int (Int32.ofNat k235)), .unset, .unset, .unset, .unset] [(.long p1), (.ref b230)])
  obtain ⟨cq237, kq237, q237a, q237b, q237c⟩ := isOf hZ e236 E_b230
  obtain ⟨_, _, ⟨T237, L237, k237, n237⟩, -, X237, ⟨Lc237, hQ237, l237, y237, z237⟩, st237⟩ := X236.virtualBack hx (y := (⟨"com/example/utsatt/utsatt/KeyHashes", "remove", "(J)Z"⟩ : MethodName)) (z := (⟨"com/example/utsatt/utsatt/KeyHashes", "remove", "(J)Z"⟩ : MethodName)) hown (mvT hZ (hw _ (List.mem_of_getElem? (i := 38) rfl))) (mvT hZ (hw _ (List.mem_of_getElem? (i := 39) rfl))) (notFace_of_selects (args := #[]) (mvT hZ (hw _ (List.mem_of_getElem? (i := 41) rfl)))) (mvT hZ (hw _ (List.mem_of_getElem? (i := 41) rfl))) (mvT hZ (hw _ (List.mem_of_getElem? (i := 40) rfl))) (by decide) (backOf (W := 0) (rmremG l Z a0 hw [] b230 t231 kc231 w235 k235 p1 T235.heap n0 Z_ E_b230 Fs235 V235 Fz235 g_b230 g_t231 (Ne.symm ne_b230_t231) Tt235 le235) hZ (hw _ (List.mem_of_getElem? (i := 42) rfl)) (hw _ (List.mem_of_getElem? (i := 6) rfl)) (by decide) (by decide)) q237a q237c (g := (mkF m 213 #[.val (.long p1), .second, .val (.long p2), .second, .val (.long p3), .second, .val (.long p4), .second, .val (.int p5), .val (.int kq), .val (.long tt), .second, .val (.long sa), .second, .val (.long sb), .second, .val (.long sc), .second, .val (.long sx), .second, .val (.int i20), .val (.int i21), .val (.int i22), .val (.int i23), .val (.ref b230), .val (.int r25), .val (.int r26), .val (.int r27), .val (.int r28), .val (.int (Int32.ofNat k235)), .unset, .unset, .unset, .unset] [(.long p1), (.ref b230)])) rfl (by rw [hml]; rfl) (Steps.refl _) (argsL := [(.long p1)]) (rest := []) (lenOf pd_5 rfl) rfl (by show 2 * 0 + _ ≤ _; exact Nat.le_of_eq rfl) (hb hby at_213) (fun _ _ => ⟨rfl, e236, (by decide : 2 + 0 ≤ _), (by decide : 18 + 0 ≤ _)⟩)
  dsimp only [Pt.U, Pt.locs, Pt.cells, Pt.slots] at X237 l237 y237 z237 st237 hQ237
  subst l237 y237 z237
  obtain ⟨w237, k237, rfl, N237q, K237, Eo237, Fs237, Fz237, V237, Tt237, c237, hs237⟩ := hQ237
  have N237 := Fr.app N236 N237q
  have Z_ : n0 ≤ T237.heap.size := Nat.le_trans Z_ K237.1
  have E_b230 := E_b230.keep K237
  refine OwnGo.st (fun _ kk => st237.trans kk) ?_
  show OwnGo p e below s _ _ _ T237 (mkF m 216 #[.val (.long p1), .second, .val (.long p2), .second, .val (.long p3), .second, .val (.long p4), .second, .val (.int p5), .val (.int kq), .val (.long tt), .second, .val (.long sa), .second, .val (.long sb), .second, .val (.long sc), .second, .val (.long sx), .second, .val (.int i20), .val (.int i21), .val (.int i22), .val (.int i23), .val (.ref b230), .val (.int r25), .val (.int r26), .val (.int r27), .val (.int r28), .val (.int (Int32.ofNat k235)), .unset, .unset, .unset, .unset] [(.int (own_bit (own_has w235 (own_st p1))))])
  obtain ⟨r30, hr30⟩ : ∃ z : Int32, z = (own_bit (own_has w235 (own_st p1))) := ⟨_, rfl⟩
  rw [← hr30]
  show OwnGo p e below s _ _ _ T237 (mkF m 216 #[.val (.long p1), .second, .val (.long p2), .second, .val (.long p3), .second, .val (.long p4), .second, .val (.int p5), .val (.int kq), .val (.long tt), .second, .val (.long sa), .second, .val (.long sb), .second, .val (.long sc), .second, .val (.long sx), .second, .val (.int i20), .val (.int i21), .val (.int i22), .val (.int i23), .val (.ref b230), .val (.int r25), .val (.int r26), .val (.int r27), .val (.int r28), .val (.int (Int32.ofNat k235)), .unset, .unset, .unset, .unset] [(.int r30)])
  rw [← ga_] at hr30 c237 hs237
  refine OwnGo.st (fun _ kk => XS.istore X237.here hx rfl (hb hby at_216) rfl (l' := #[.val (.long p1), .second, .val (.long p2), .second, .val (.long p3), .second, .val (.long p4), .second, .val (.int p5), .val (.int kq), .val (.long tt), .second, .val (.long sa), .second, .val (.long sb), .second, .val (.long sc), .second, .val (.long sx), .second, .val (.int i20), .val (.int i21), .val (.int i22), .val (.int i23), .val (.ref b230), .val (.int r25), .val (.int r26), .val (.int r27), .val (.int r28), .val (.int (Int32.ofNat k235)), .val (.int r30), .unset, .unset, .unset]) rfl kk) ?_
  show OwnGo p e below s _ _ _ T237 (mkF m 218 #[.val (.long p1), .second, .val (.long p2), .second, .val (.long p3), .second, .val (.long p4), .second, .val (.int p5), .val (.int kq), .val (.long tt), .second, .val (.long sa), .second, .val (.long sb), .second, .val (.long sc), .second, .val (.long sx), .second, .val (.int i20), .val (.int i21), .val (.int i22), .val (.int i23), .val (.ref b230), .val (.int r25), .val (.int r26), .val (.int r27), .val (.int r28), .val (.int (Int32.ofNat k235)), .val (.int r30), .unset, .unset, .unset] [])
  refine OwnGo.st (fun _ kk => XS.aload X237.here hx rfl (hb hby at_218) rfl rfl  kk) ?_
  show OwnGo p e below s _ _ _ T237 (mkF m 220 #[.val (.long p1), .second, .val (.long p2), .second, .val (.long p3), .second, .val (.long p4), .second, .val (.int p5), .val (.int kq), .val (.long tt), .second, .val (.long sa), .second, .val (.long sb), .second, .val (.long sc), .second, .val (.long sx), .second, .val (.int i20), .val (.int i21), .val (.int i22), .val (.int i23), .val (.ref b230), .val (.int r25), .val (.int r26), .val (.int r27), .val (.int r28), .val (.int (Int32.ofNat k235)), .val (.int r30), .unset, .unset, .unset] [(.ref b230)])
  refine OwnGo.st (fun _ kk => XS.lloadN X237.here hx rfl (hb hby at_220) rfl  kk) ?_
  show OwnGo p e below s _ _ _ T237 (mkF m 221 #[.val (.long p1), .second, .val (.long p2), .second, .val (.long p3), .second, .val (.long p4), .second, .val (.int p5), .val (.int kq), .val (.long tt), .second, .val (.long sa), .second, .val (.long sb), .second, .val (.long sc), .second, .val (.long sx), .second, .val (.int i20), .val (.int i21), .val (.int i22), .val (.int i23), .val (.ref b230), .val (.int r25), .val (.int r26), .val (.int r27), .val (.int r28), .val (.int (Int32.ofNat k235)), .val (.int r30), .unset, .unset, .unset] [(.long p2), (.ref b230)])
  have le237 : k237 ≤ 3 := by omega
  obtain ⟨cq238, kq238, q238a, q238b, q238c⟩ := isOf hZ rfl E_b230
  obtain ⟨_, _, ⟨T238, L238, k238, n238⟩, -, X238, ⟨Lc238, hQ238, l238, y238, z238⟩, st238⟩ := X237.virtualBack hx (y := (⟨"com/example/utsatt/utsatt/KeyHashes", "remove", "(J)Z"⟩ : MethodName)) (z := (⟨"com/example/utsatt/utsatt/KeyHashes", "remove", "(J)Z"⟩ : MethodName)) hown (mvT hZ (hw _ (List.mem_of_getElem? (i := 38) rfl))) (mvT hZ (hw _ (List.mem_of_getElem? (i := 39) rfl))) (notFace_of_selects (args := #[]) (mvT hZ (hw _ (List.mem_of_getElem? (i := 41) rfl)))) (mvT hZ (hw _ (List.mem_of_getElem? (i := 41) rfl))) (mvT hZ (hw _ (List.mem_of_getElem? (i := 40) rfl))) (by decide) (backOf (W := 0) (rmremG l Z a0 hw [] b230 t231 kc231 w237 k237 p2 T237.heap n0 Z_ E_b230 Fs237 V237 Fz237 g_b230 g_t231 (Ne.symm ne_b230_t231) Tt237 le237) hZ (hw _ (List.mem_of_getElem? (i := 42) rfl)) (hw _ (List.mem_of_getElem? (i := 6) rfl)) (by decide) (by decide)) q238a q238c (g := (mkF m 221 #[.val (.long p1), .second, .val (.long p2), .second, .val (.long p3), .second, .val (.long p4), .second, .val (.int p5), .val (.int kq), .val (.long tt), .second, .val (.long sa), .second, .val (.long sb), .second, .val (.long sc), .second, .val (.long sx), .second, .val (.int i20), .val (.int i21), .val (.int i22), .val (.int i23), .val (.ref b230), .val (.int r25), .val (.int r26), .val (.int r27), .val (.int r28), .val (.int (Int32.ofNat k235)), .val (.int r30), .unset, .unset, .unset] [(.long p2), (.ref b230)])) rfl (by rw [hml]; rfl) (Steps.refl _) (argsL := [(.long p2)]) (rest := []) (lenOf pd_5 rfl) rfl (by show 2 * 0 + _ ≤ _; exact Nat.le_of_eq rfl) (hb hby at_221) (fun _ _ => ⟨rfl, rfl, (by decide : 2 + 0 ≤ _), (by decide : 18 + 0 ≤ _)⟩)
  dsimp only [Pt.U, Pt.locs, Pt.cells, Pt.slots] at X238 l238 y238 z238 st238 hQ238
  subst l238 y238 z238
  obtain ⟨w238, k238, rfl, N238q, K238, Eo238, Fs238, Fz238, V238, Tt238, c238, hs238⟩ := hQ238
  have N238 := Fr.app N237 N238q
  have Z_ : n0 ≤ T238.heap.size := Nat.le_trans Z_ K238.1
  have E_b230 := E_b230.keep K238
  refine OwnGo.st (fun _ kk => st238.trans kk) ?_
  show OwnGo p e below s _ _ _ T238 (mkF m 224 #[.val (.long p1), .second, .val (.long p2), .second, .val (.long p3), .second, .val (.long p4), .second, .val (.int p5), .val (.int kq), .val (.long tt), .second, .val (.long sa), .second, .val (.long sb), .second, .val (.long sc), .second, .val (.long sx), .second, .val (.int i20), .val (.int i21), .val (.int i22), .val (.int i23), .val (.ref b230), .val (.int r25), .val (.int r26), .val (.int r27), .val (.int r28), .val (.int (Int32.ofNat k235)), .val (.int r30), .unset, .unset, .unset] [(.int (own_bit (own_has w237 (own_st p2))))])
  obtain ⟨r31, hr31⟩ : ∃ z : Int32, z = (own_bit (own_has w237 (own_st p2))) := ⟨_, rfl⟩
  rw [← hr31]
  show OwnGo p e below s _ _ _ T238 (mkF m 224 #[.val (.long p1), .second, .val (.long p2), .second, .val (.long p3), .second, .val (.long p4), .second, .val (.int p5), .val (.int kq), .val (.long tt), .second, .val (.long sa), .second, .val (.long sb), .second, .val (.long sc), .second, .val (.long sx), .second, .val (.int i20), .val (.int i21), .val (.int i22), .val (.int i23), .val (.ref b230), .val (.int r25), .val (.int r26), .val (.int r27), .val (.int r28), .val (.int (Int32.ofNat k235)), .val (.int r30), .unset, .unset, .unset] [(.int r31)])
  rw [← gb_] at hr31 c238 hs238
  refine OwnGo.st (fun _ kk => XS.istore X238.here hx rfl (hb hby at_224) rfl (l' := #[.val (.long p1), .second, .val (.long p2), .second, .val (.long p3), .second, .val (.long p4), .second, .val (.int p5), .val (.int kq), .val (.long tt), .second, .val (.long sa), .second, .val (.long sb), .second, .val (.long sc), .second, .val (.long sx), .second, .val (.int i20), .val (.int i21), .val (.int i22), .val (.int i23), .val (.ref b230), .val (.int r25), .val (.int r26), .val (.int r27), .val (.int r28), .val (.int (Int32.ofNat k235)), .val (.int r30), .val (.int r31), .unset, .unset]) rfl kk) ?_
  show OwnGo p e below s _ _ _ T238 (mkF m 226 #[.val (.long p1), .second, .val (.long p2), .second, .val (.long p3), .second, .val (.long p4), .second, .val (.int p5), .val (.int kq), .val (.long tt), .second, .val (.long sa), .second, .val (.long sb), .second, .val (.long sc), .second, .val (.long sx), .second, .val (.int i20), .val (.int i21), .val (.int i22), .val (.int i23), .val (.ref b230), .val (.int r25), .val (.int r26), .val (.int r27), .val (.int r28), .val (.int (Int32.ofNat k235)), .val (.int r30), .val (.int r31), .unset, .unset] [])
  refine OwnGo.st (fun _ kk => XS.aload X238.here hx rfl (hb hby at_226) rfl rfl  kk) ?_
  show OwnGo p e below s _ _ _ T238 (mkF m 228 #[.val (.long p1), .second, .val (.long p2), .second, .val (.long p3), .second, .val (.long p4), .second, .val (.int p5), .val (.int kq), .val (.long tt), .second, .val (.long sa), .second, .val (.long sb), .second, .val (.long sc), .second, .val (.long sx), .second, .val (.int i20), .val (.int i21), .val (.int i22), .val (.int i23), .val (.ref b230), .val (.int r25), .val (.int r26), .val (.int r27), .val (.int r28), .val (.int (Int32.ofNat k235)), .val (.int r30), .val (.int r31), .unset, .unset] [(.ref b230)])
  refine OwnGo.st (fun _ kk => XS.lload X238.here hx rfl (hb hby at_228) rfl  kk) ?_
  show OwnGo p e below s _ _ _ T238 (mkF m 230 #[.val (.long p1), .second, .val (.long p2), .second, .val (.long p3), .second, .val (.long p4), .second, .val (.int p5), .val (.int kq), .val (.long tt), .second, .val (.long sa), .second, .val (.long sb), .second, .val (.long sc), .second, .val (.long sx), .second, .val (.int i20), .val (.int i21), .val (.int i22), .val (.int i23), .val (.ref b230), .val (.int r25), .val (.int r26), .val (.int r27), .val (.int r28), .val (.int (Int32.ofNat k235)), .val (.int r30), .val (.int r31), .unset, .unset] [(.long p3), (.ref b230)])
  have le238 : k238 ≤ 3 := by omega
  obtain ⟨cq239, kq239, q239a, q239b, q239c⟩ := isOf hZ rfl E_b230
  obtain ⟨_, _, ⟨T239, L239, k239, n239⟩, -, X239, ⟨Lc239, hQ239, l239, y239, z239⟩, st239⟩ := X238.virtualBack hx (y := (⟨"com/example/utsatt/utsatt/KeyHashes", "remove", "(J)Z"⟩ : MethodName)) (z := (⟨"com/example/utsatt/utsatt/KeyHashes", "remove", "(J)Z"⟩ : MethodName)) hown (mvT hZ (hw _ (List.mem_of_getElem? (i := 38) rfl))) (mvT hZ (hw _ (List.mem_of_getElem? (i := 39) rfl))) (notFace_of_selects (args := #[]) (mvT hZ (hw _ (List.mem_of_getElem? (i := 41) rfl)))) (mvT hZ (hw _ (List.mem_of_getElem? (i := 41) rfl))) (mvT hZ (hw _ (List.mem_of_getElem? (i := 40) rfl))) (by decide) (backOf (W := 0) (rmremG l Z a0 hw [] b230 t231 kc231 w238 k238 p3 T238.heap n0 Z_ E_b230 Fs238 V238 Fz238 g_b230 g_t231 (Ne.symm ne_b230_t231) Tt238 le238) hZ (hw _ (List.mem_of_getElem? (i := 42) rfl)) (hw _ (List.mem_of_getElem? (i := 6) rfl)) (by decide) (by decide)) q239a q239c (g := (mkF m 230 #[.val (.long p1), .second, .val (.long p2), .second, .val (.long p3), .second, .val (.long p4), .second, .val (.int p5), .val (.int kq), .val (.long tt), .second, .val (.long sa), .second, .val (.long sb), .second, .val (.long sc), .second, .val (.long sx), .second, .val (.int i20), .val (.int i21), .val (.int i22), .val (.int i23), .val (.ref b230), .val (.int r25), .val (.int r26), .val (.int r27), .val (.int r28), .val (.int (Int32.ofNat k235)), .val (.int r30), .val (.int r31), .unset, .unset] [(.long p3), (.ref b230)])) rfl (by rw [hml]; rfl) (Steps.refl _) (argsL := [(.long p3)]) (rest := []) (lenOf pd_5 rfl) rfl (by show 2 * 0 + _ ≤ _; exact Nat.le_of_eq rfl) (hb hby at_230) (fun _ _ => ⟨rfl, rfl, (by decide : 2 + 0 ≤ _), (by decide : 18 + 0 ≤ _)⟩)
  dsimp only [Pt.U, Pt.locs, Pt.cells, Pt.slots] at X239 l239 y239 z239 st239 hQ239
  subst l239 y239 z239
  obtain ⟨w239, k239, rfl, N239q, K239, Eo239, Fs239, Fz239, V239, Tt239, c239, hs239⟩ := hQ239
  have N239 := Fr.app N238 N239q
  have Z_ : n0 ≤ T239.heap.size := Nat.le_trans Z_ K239.1
  have E_b230 := E_b230.keep K239
  refine OwnGo.st (fun _ kk => st239.trans kk) ?_
  show OwnGo p e below s _ _ _ T239 (mkF m 233 #[.val (.long p1), .second, .val (.long p2), .second, .val (.long p3), .second, .val (.long p4), .second, .val (.int p5), .val (.int kq), .val (.long tt), .second, .val (.long sa), .second, .val (.long sb), .second, .val (.long sc), .second, .val (.long sx), .second, .val (.int i20), .val (.int i21), .val (.int i22), .val (.int i23), .val (.ref b230), .val (.int r25), .val (.int r26), .val (.int r27), .val (.int r28), .val (.int (Int32.ofNat k235)), .val (.int r30), .val (.int r31), .unset, .unset] [(.int (own_bit (own_has w238 (own_st p3))))])
  obtain ⟨r32, hr32⟩ : ∃ z : Int32, z = (own_bit (own_has w238 (own_st p3))) := ⟨_, rfl⟩
  rw [← hr32]
  show OwnGo p e below s _ _ _ T239 (mkF m 233 #[.val (.long p1), .second, .val (.long p2), .second, .val (.long p3), .second, .val (.long p4), .second, .val (.int p5), .val (.int kq), .val (.long tt), .second, .val (.long sa), .second, .val (.long sb), .second, .val (.long sc), .second, .val (.long sx), .second, .val (.int i20), .val (.int i21), .val (.int i22), .val (.int i23), .val (.ref b230), .val (.int r25), .val (.int r26), .val (.int r27), .val (.int r28), .val (.int (Int32.ofNat k235)), .val (.int r30), .val (.int r31), .unset, .unset] [(.int r32)])
  rw [← gc_] at hr32 c239 hs239
  refine OwnGo.st (fun _ kk => XS.istore X239.here hx rfl (hb hby at_233) rfl (l' := #[.val (.long p1), .second, .val (.long p2), .second, .val (.long p3), .second, .val (.long p4), .second, .val (.int p5), .val (.int kq), .val (.long tt), .second, .val (.long sa), .second, .val (.long sb), .second, .val (.long sc), .second, .val (.long sx), .second, .val (.int i20), .val (.int i21), .val (.int i22), .val (.int i23), .val (.ref b230), .val (.int r25), .val (.int r26), .val (.int r27), .val (.int r28), .val (.int (Int32.ofNat k235)), .val (.int r30), .val (.int r31), .val (.int r32), .unset]) rfl kk) ?_
  show OwnGo p e below s _ _ _ T239 (mkF m 235 #[.val (.long p1), .second, .val (.long p2), .second, .val (.long p3), .second, .val (.long p4), .second, .val (.int p5), .val (.int kq), .val (.long tt), .second, .val (.long sa), .second, .val (.long sb), .second, .val (.long sc), .second, .val (.long sx), .second, .val (.int i20), .val (.int i21), .val (.int i22), .val (.int i23), .val (.ref b230), .val (.int r25), .val (.int r26), .val (.int r27), .val (.int r28), .val (.int (Int32.ofNat k235)), .val (.int r30), .val (.int r31), .val (.int r32), .unset] [])
  refine OwnGo.st (fun _ kk => XS.aload X239.here hx rfl (hb hby at_235) rfl rfl  kk) ?_
  show OwnGo p e below s _ _ _ T239 (mkF m 237 #[.val (.long p1), .second, .val (.long p2), .second, .val (.long p3), .second, .val (.long p4), .second, .val (.int p5), .val (.int kq), .val (.long tt), .second, .val (.long sa), .second, .val (.long sb), .second, .val (.long sc), .second, .val (.long sx), .second, .val (.int i20), .val (.int i21), .val (.int i22), .val (.int i23), .val (.ref b230), .val (.int r25), .val (.int r26), .val (.int r27), .val (.int r28), .val (.int (Int32.ofNat k235)), .val (.int r30), .val (.int r31), .val (.int r32), .unset] [(.ref b230)])
  have le239 : k239 ≤ 3 := by omega
  obtain ⟨cq240, kq240, q240a, q240b, q240c⟩ := isOf hZ rfl E_b230
  obtain ⟨_, _, ⟨T240, L240, k240, n240⟩, -, X240, ⟨Lc240, hQ240, l240, y240, z240⟩, st240⟩ := X239.virtualBack hx (y := (⟨"com/example/utsatt/utsatt/KeyHashes", "size", "()I"⟩ : MethodName)) (z := (⟨"com/example/utsatt/utsatt/KeyHashes", "size", "()I"⟩ : MethodName)) hown (mvT hZ (hw _ (List.mem_of_getElem? (i := 44) rfl))) (mvT hZ (hw _ (List.mem_of_getElem? (i := 45) rfl))) (notFace_of_selects (args := #[]) (mvT hZ (hw _ (List.mem_of_getElem? (i := 47) rfl)))) (mvT hZ (hw _ (List.mem_of_getElem? (i := 47) rfl))) (mvT hZ (hw _ (List.mem_of_getElem? (i := 46) rfl))) (by decide) (backOf (W := 0) (rmsiz l Z a0 hw [] b230 (Int32.ofNat k239) T239.heap n0 Z_ Fz239) hZ (hw _ (List.mem_of_getElem? (i := 48) rfl)) (hw _ (List.mem_of_getElem? (i := 6) rfl)) (by decide) (by decide)) q240a q240c (g := (mkF m 237 #[.val (.long p1), .second, .val (.long p2), .second, .val (.long p3), .second, .val (.long p4), .second, .val (.int p5), .val (.int kq), .val (.long tt), .second, .val (.long sa), .second, .val (.long sb), .second, .val (.long sc), .second, .val (.long sx), .second, .val (.int i20), .val (.int i21), .val (.int i22), .val (.int i23), .val (.ref b230), .val (.int r25), .val (.int r26), .val (.int r27), .val (.int r28), .val (.int (Int32.ofNat k235)), .val (.int r30), .val (.int r31), .val (.int r32), .unset] [(.ref b230)])) rfl (by rw [hml]; rfl) (Steps.refl _) (argsL := []) (rest := []) (lenOf pd_6 rfl) rfl (by show 2 * 0 + _ ≤ _; exact Nat.le_of_eq rfl) (hb hby at_237) (fun _ _ => ⟨rfl, rfl, (by decide : 2 + 0 ≤ _), (by decide : 18 + 0 ≤ _)⟩)
  dsimp only [Pt.U, Pt.locs, Pt.cells, Pt.slots] at X240 l240 y240 z240 st240 hQ240
  subst l240 y240 z240
  obtain ⟨rfl, N240q, e240⟩ := hQ240
  have N240 := Fr.app N239 N240q
  refine OwnGo.st (fun _ kk => st240.trans kk) ?_
  show OwnGo p e below s _ _ _ T240 (mkF m 240 #[.val (.long p1), .second, .val (.long p2), .second, .val (.long p3), .second, .val (.long p4), .second, .val (.int p5), .val (.int kq), .val (.long tt), .second, .val (.long sa), .second, .val (.long sb), .second, .val (.long sc), .second, .val (.long sx), .second, .val (.int i20), .val (.int i21), .val (.int i22), .val (.int i23), .val (.ref b230), .val (.int r25), .val (.int r26), .val (.int r27), .val (.int r28), .val (.int (Int32.ofNat k235)), .val (.int r30), .val (.int r31), .val (.int r32), .unset] [(.int (Int32.ofNat k239))])
  refine OwnGo.st (fun _ kk => XS.istore X240.here hx rfl (hb hby at_240) rfl (l' := #[.val (.long p1), .second, .val (.long p2), .second, .val (.long p3), .second, .val (.long p4), .second, .val (.int p5), .val (.int kq), .val (.long tt), .second, .val (.long sa), .second, .val (.long sb), .second, .val (.long sc), .second, .val (.long sx), .second, .val (.int i20), .val (.int i21), .val (.int i22), .val (.int i23), .val (.ref b230), .val (.int r25), .val (.int r26), .val (.int r27), .val (.int r28), .val (.int (Int32.ofNat k235)), .val (.int r30), .val (.int r31), .val (.int r32), .val (.int (Int32.ofNat k239))]) rfl kk) ?_
  show OwnGo p e below s _ _ _ T240 (mkF m 242 #[.val (.long p1), .second, .val (.long p2), .second, .val (.long p3), .second, .val (.long p4), .second, .val (.int p5), .val (.int kq), .val (.long tt), .second, .val (.long sa), .second, .val (.long sb), .second, .val (.long sc), .second, .val (.long sx), .second, .val (.int i20), .val (.int i21), .val (.int i22), .val (.int i23), .val (.ref b230), .val (.int r25), .val (.int r26), .val (.int r27), .val (.int r28), .val (.int (Int32.ofNat k235)), .val (.int r30), .val (.int r31), .val (.int r32), .val (.int (Int32.ofNat k239))] [])
  obtain ⟨q1, q2, q3, q4, q5, q6, q7, q8, q9⟩ := own_law (ga_ ▸ own_stn _) (gb_ ▸ own_stn _) (gc_ ▸ own_stn _) (gx_ ▸ own_stn _) hs232 hs233 hs234 hs235 hs237 hs238 hs239 c232 c233 c234 c235 Tt239 h20 h21 h22 h23
  exact sg242 p1 p2 p3 p4 p5 tt sa sb sc sx kq i20 i21 i22 i23 b230 r25 r26 r27 r28 (Int32.ofNat k235) r30 r31 r32 (Int32.ofNat k239) T239.heap h0 n0 hw X240 hx hby hml hret hlk hown hnm hZ e240 N240 (hr25.trans q1) (hr26.trans q2) (hr27.trans q3) (hr28.trans q4) (h23 ▸ own_bit01 _) q5 (hr30.trans q6) (hr31.trans q7) (hr32.trans q8) q9
set_option maxRecDepth 65536 in
set_option maxHeartbeats 40000000 in
theorem sg129 {p : Program} {l : Launch} {e : Env} {s : State} {m : MethodId} {below : List Frame} {meth : Method} {c : Code} {Z : State} {a0 : Array Value} {T0 : State} {locs : List Loc} (p1 : Int64) (p2 : Int64) (p3 : Int64) (p4 : Int64) (p5 : Int32) (tt : Int64) (sa : Int64) (sb : Int64) (sc : Int64) (sx : Int64) (kq : Int32) (i20 : Int32) (i21 : Int32) (i22 : Int32) (h0 : Heap) (n0 : Nat) (hw : ∀ d ∈ tables_1, d.before a0 Z = true)
    (X0 : Stand p l e room_1 s m #[(.long p1), (.long p2), (.long p3), (.long p4), (.int p5)] below meth c T0 locs 0 0) (hx : p.tables.exec = Jvm.exec) (hby : c.code = code) (hml : c.maxLocals = 34) (hret : meth.sig.returnType = ret) (hlk : meth.locks = false) (hown : s.vm.findClass "com/example/utsatt/utsatt/KeyHashesRemovePinLaw" = some m.cls) (hnm : meth.name = "law") (hZ : Z.Warmed39 s.vm) (e0 : T0.heap = h0) (N0 : Fr n0 locs) (Z_ : n0 ≤ h0.size) (ga_ : sa = own_st p1) (gb_ : sb = own_st p2) (gc_ : sc = own_st p3) (gx_ : sx = own_st tt) (h20 : i20 = own_bit (¬ sb = sa)) (h21 : i21 = own_bit (¬ (sc = sa ∨ sc = sb))) (h22 : i22 = (1 : Int32) + i20 + i21) :
    OwnGo p e below s room_1.cells room_1.slots (Q0 Z p1 p2 p3 p4 p5 h0 n0) T0 (mkF m 129 #[.val (.long p1), .second, .val (.long p2), .second, .val (.long p3), .second, .val (.long p4), .second, .val (.int p5), .val (.int kq), .val (.long tt), .second, .val (.long sa), .second, .val (.long sb), .second, .val (.long sc), .second, .val (.long sx), .second, .val (.int i20), .val (.int i21), .val (.int i22), .unset, .unset, .unset, .unset, .unset, .unset, .unset, .unset, .unset, .unset, .unset] []) := by
  refine OwnGo.st (fun _ kk => XS.lload X0.here hx rfl (hb hby at_129) rfl  kk) ?_
  show OwnGo p e below s _ _ _ T0 (mkF m 131 #[.val (.long p1), .second, .val (.long p2), .second, .val (.long p3), .second, .val (.long p4), .second, .val (.int p5), .val (.int kq), .val (.long tt), .second, .val (.long sa), .second, .val (.long sb), .second, .val (.long sc), .second, .val (.long sx), .second, .val (.int i20), .val (.int i21), .val (.int i22), .unset, .unset, .unset, .unset, .unset, .unset, .unset, .unset, .unset, .unset, .unset] [(.long sx)])
  refine OwnGo.st (fun _ kk => XS.lload X0.here hx rfl (hb hby at_131) rfl  kk) ?_
  show OwnGo p e below s _ _ _ T0 (mkF m 133 #[.val (.long p1), .second, .val (.long p2), .second, .val (.long p3), .second, .val (.long p4), .second, .val (.int p5), .val (.int kq), .val (.long tt), .second, .val (.long sa), .second, .val (.long sb), .second, .val (.long sc), .second, .val (.long sx), .second, .val (.int i20), .val (.int i21), .val (.int i22), .unset, .unset, .unset, .unset, .unset, .unset, .unset, .unset, .unset, .unset, .unset] [(.long sa), (.long sx)])
  refine OwnGo.st (fun _ kk => XS.lcmp X0.here hx rfl (hb hby at_133) rfl kk) ?_
  show OwnGo p e below s _ _ _ T0 (mkF m 134 #[.val (.long p1), .second, .val (.long p2), .second, .val (.long p3), .second, .val (.long p4), .second, .val (.int p5), .val (.int kq), .val (.long tt), .second, .val (.long sa), .second, .val (.long sb), .second, .val (.long sc), .second, .val (.long sx), .second, .val (.int i20), .val (.int i21), .val (.int i22), .unset, .unset, .unset, .unset, .unset, .unset, .unset, .unset, .unset, .unset, .unset] [(.int (lcmpW sx sa))])
  by_cases e1 : sx = sa
  · refine OwnGo.st (fun _ kk => XS.ifYes X0.here hx rfl (pc0 := 134) (pc' := 153) rfl (hb hby at_134) rfl ((if0 _ _).trans (teq (((lw_eq _ _).2 e1) : (lcmpW sx sa) = (0 : Int32))).1) (by decide) (by decide) kk) ?_
    show OwnGo p e below s _ _ _ T0 (mkF m 153 #[.val (.long p1), .second, .val (.long p2), .second, .val (.long p3), .second, .val (.long p4), .second, .val (.int p5), .val (.int kq), .val (.long tt), .second, .val (.long sa), .second, .val (.long sb), .second, .val (.long sc), .second, .val (.long sx), .second, .val (.int i20), .val (.int i21), .val (.int i22), .unset, .unset, .unset, .unset, .unset, .unset, .unset, .unset, .unset, .unset, .unset] [])
    refine OwnGo.st (fun _ kk => XS.iconst X0.here hx rfl (hb hby at_153) kk) ?_
    show OwnGo p e below s _ _ _ T0 (mkF m 154 #[.val (.long p1), .second, .val (.long p2), .second, .val (.long p3), .second, .val (.long p4), .second, .val (.int p5), .val (.int kq), .val (.long tt), .second, .val (.long sa), .second, .val (.long sb), .second, .val (.long sc), .second, .val (.long sx), .second, .val (.int i20), .val (.int i21), .val (.int i22), .unset, .unset, .unset, .unset, .unset, .unset, .unset, .unset, .unset, .unset, .unset] [(.int (1 : Int32))])
    refine OwnGo.st (fun _ kk => XS.goto X0.here hx rfl (pc0 := 154) (pc' := 158) rfl (hb hby at_154) (by decide) (by decide) kk) ?_
    show OwnGo p e below s _ _ _ T0 (mkF m 158 #[.val (.long p1), .second, .val (.long p2), .second, .val (.long p3), .second, .val (.long p4), .second, .val (.int p5), .val (.int kq), .val (.long tt), .second, .val (.long sa), .second, .val (.long sb), .second, .val (.long sc), .second, .val (.long sx), .second, .val (.int i20), .val (.int i21), .val (.int i22), .unset, .unset, .unset, .unset, .unset, .unset, .unset, .unset, .unset, .unset, .unset] [(.int (1 : Int32))])
    refine OwnGo.st (fun _ kk => XS.istore X0.here hx rfl (hb hby at_158) rfl (l' := #[.val (.long p1), .second, .val (.long p2), .second, .val (.long p3), .second, .val (.long p4), .second, .val (.int p5), .val (.int kq), .val (.long tt), .second, .val (.long sa), .second, .val (.long sb), .second, .val (.long sc), .second, .val (.long sx), .second, .val (.int i20), .val (.int i21), .val (.int i22), .val (.int (1 : Int32)), .unset, .unset, .unset, .unset, .unset, .unset, .unset, .unset, .unset, .unset]) rfl kk) ?_
    show OwnGo p e below s _ _ _ T0 (mkF m 160 #[.val (.long p1), .second, .val (.long p2), .second, .val (.long p3), .second, .val (.long p4), .second, .val (.int p5), .val (.int kq), .val (.long tt), .second, .val (.long sa), .second, .val (.long sb), .second, .val (.long sc), .second, .val (.long sx), .second, .val (.int i20), .val (.int i21), .val (.int i22), .val (.int (1 : Int32)), .unset, .unset, .unset, .unset, .unset, .unset, .unset, .unset, .unset, .unset] [])
    exact sg160 p1 p2 p3 p4 p5 tt sa sb sc sx kq i20 i21 i22 _ h0 n0 hw X0 hx hby hml hret hlk hown hnm hZ e0 N0 Z_ ga_ gb_ gc_ gx_ h20 h21 h22 (own_bit1 (Or.inl e1)).symm
  · refine OwnGo.st (fun _ kk => XS.ifNo X0.here hx rfl (hb hby at_134) rfl ((if0 _ _).trans (feq ((fun q => e1 ((lw_eq _ _).1 q)) : ¬ ((lcmpW sx sa) = (0 : Int32)))).1) kk) ?_
    show OwnGo p e below s _ _ _ T0 (mkF m 137 #[.val (.long p1), .second, .val (.long p2), .second, .val (.long p3), .second, .val (.long p4), .second, .val (.int p5), .val (.int kq), .val (.long tt), .second, .val (.long sa), .second, .val (.long sb), .second, .val (.long sc), .second, .val (.long sx), .second, .val (.int i20), .val (.int i21), .val (.int i22), .unset, .unset, .unset, .unset, .unset, .unset, .unset, .unset, .unset, .unset, .unset] [])
    refine OwnGo.st (fun _ kk => XS.lload X0.here hx rfl (hb hby at_137) rfl  kk) ?_
    show OwnGo p e below s _ _ _ T0 (mkF m 139 #[.val (.long p1), .second, .val (.long p2), .second, .val (.long p3), .second, .val (.long p4), .second, .val (.int p5), .val (.int kq), .val (.long tt), .second, .val (.long sa), .second, .val (.long sb), .second, .val (.long sc), .second, .val (.long sx), .second, .val (.int i20), .val (.int i21), .val (.int i22), .unset, .unset, .unset, .unset, .unset, .unset, .unset, .unset, .unset, .unset, .unset] [(.long sx)])
    refine OwnGo.st (fun _ kk => XS.lload X0.here hx rfl (hb hby at_139) rfl  kk) ?_
    show OwnGo p e below s _ _ _ T0 (mkF m 141 #[.val (.long p1), .second, .val (.long p2), .second, .val (.long p3), .second, .val (.long p4), .second, .val (.int p5), .val (.int kq), .val (.long tt), .second, .val (.long sa), .second, .val (.long sb), .second, .val (.long sc), .second, .val (.long sx), .second, .val (.int i20), .val (.int i21), .val (.int i22), .unset, .unset, .unset, .unset, .unset, .unset, .unset, .unset, .unset, .unset, .unset] [(.long sb), (.long sx)])
    refine OwnGo.st (fun _ kk => XS.lcmp X0.here hx rfl (hb hby at_141) rfl kk) ?_
    show OwnGo p e below s _ _ _ T0 (mkF m 142 #[.val (.long p1), .second, .val (.long p2), .second, .val (.long p3), .second, .val (.long p4), .second, .val (.int p5), .val (.int kq), .val (.long tt), .second, .val (.long sa), .second, .val (.long sb), .second, .val (.long sc), .second, .val (.long sx), .second, .val (.int i20), .val (.int i21), .val (.int i22), .unset, .unset, .unset, .unset, .unset, .unset, .unset, .unset, .unset, .unset, .unset] [(.int (lcmpW sx sb))])
    by_cases e2 : sx = sb
    · refine OwnGo.st (fun _ kk => XS.ifYes X0.here hx rfl (pc0 := 142) (pc' := 153) rfl (hb hby at_142) rfl ((if0 _ _).trans (teq (((lw_eq _ _).2 e2) : (lcmpW sx sb) = (0 : Int32))).1) (by decide) (by decide) kk) ?_
      show OwnGo p e below s _ _ _ T0 (mkF m 153 #[.val (.long p1), .second, .val (.long p2), .second, .val (.long p3), .second, .val (.long p4), .second, .val (.int p5), .val (.int kq), .val (.long tt), .second, .val (.long sa), .second, .val (.long sb), .second, .val (.long sc), .second, .val (.long sx), .second, .val (.int i20), .val (.int i21), .val (.int i22), .unset, .unset, .unset, .unset, .unset, .unset, .unset, .unset, .unset, .unset, .unset] [])
      refine OwnGo.st (fun _ kk => XS.iconst X0.here hx rfl (hb hby at_153) kk) ?_
      show OwnGo p e below s _ _ _ T0 (mkF m 154 #[.val (.long p1), .second, .val (.long p2), .second, .val (.long p3), .second, .val (.long p4), .second, .val (.int p5), .val (.int kq), .val (.long tt), .second, .val (.long sa), .second, .val (.long sb), .second, .val (.long sc), .second, .val (.long sx), .second, .val (.int i20), .val (.int i21), .val (.int i22), .unset, .unset, .unset, .unset, .unset, .unset, .unset, .unset, .unset, .unset, .unset] [(.int (1 : Int32))])
      refine OwnGo.st (fun _ kk => XS.goto X0.here hx rfl (pc0 := 154) (pc' := 158) rfl (hb hby at_154) (by decide) (by decide) kk) ?_
      show OwnGo p e below s _ _ _ T0 (mkF m 158 #[.val (.long p1), .second, .val (.long p2), .second, .val (.long p3), .second, .val (.long p4), .second, .val (.int p5), .val (.int kq), .val (.long tt), .second, .val (.long sa), .second, .val (.long sb), .second, .val (.long sc), .second, .val (.long sx), .second, .val (.int i20), .val (.int i21), .val (.int i22), .unset, .unset, .unset, .unset, .unset, .unset, .unset, .unset, .unset, .unset, .unset] [(.int (1 : Int32))])
      refine OwnGo.st (fun _ kk => XS.istore X0.here hx rfl (hb hby at_158) rfl (l' := #[.val (.long p1), .second, .val (.long p2), .second, .val (.long p3), .second, .val (.long p4), .second, .val (.int p5), .val (.int kq), .val (.long tt), .second, .val (.long sa), .second, .val (.long sb), .second, .val (.long sc), .second, .val (.long sx), .second, .val (.int i20), .val (.int i21), .val (.int i22), .val (.int (1 : Int32)), .unset, .unset, .unset, .unset, .unset, .unset, .unset, .unset, .unset, .unset]) rfl kk) ?_
      show OwnGo p e below s _ _ _ T0 (mkF m 160 #[.val (.long p1), .second, .val (.long p2), .second, .val (.long p3), .second, .val (.long p4), .second, .val (.int p5), .val (.int kq), .val (.long tt), .second, .val (.long sa), .second, .val (.long sb), .second, .val (.long sc), .second, .val (.long sx), .second, .val (.int i20), .val (.int i21), .val (.int i22), .val (.int (1 : Int32)), .unset, .unset, .unset, .unset, .unset, .unset, .unset, .unset, .unset, .unset] [])
      exact sg160 p1 p2 p3 p4 p5 tt sa sb sc sx kq i20 i21 i22 _ h0 n0 hw X0 hx hby hml hret hlk hown hnm hZ e0 N0 Z_ ga_ gb_ gc_ gx_ h20 h21 h22 (own_bit1 (Or.inr (Or.inl e2))).symm
    · refine OwnGo.st (fun _ kk => XS.ifNo X0.here hx rfl (hb hby at_142) rfl ((if0 _ _).trans (feq ((fun q => e2 ((lw_eq _ _).1 q)) : ¬ ((lcmpW sx sb) = (0 : Int32)))).1) kk) ?_
      show OwnGo p e below s _ _ _ T0 (mkF m 145 #[.val (.long p1), .second, .val (.long p2), .second, .val (.long p3), .second, .val (.long p4), .second, .val (.int p5), .val (.int kq), .val (.long tt), .second, .val (.long sa), .second, .val (.long sb), .second, .val (.long sc), .second, .val (.long sx), .second, .val (.int i20), .val (.int i21), .val (.int i22), .unset, .unset, .unset, .unset, .unset, .unset, .unset, .unset, .unset, .unset, .unset] [])
      refine OwnGo.st (fun _ kk => XS.lload X0.here hx rfl (hb hby at_145) rfl  kk) ?_
      show OwnGo p e below s _ _ _ T0 (mkF m 147 #[.val (.long p1), .second, .val (.long p2), .second, .val (.long p3), .second, .val (.long p4), .second, .val (.int p5), .val (.int kq), .val (.long tt), .second, .val (.long sa), .second, .val (.long sb), .second, .val (.long sc), .second, .val (.long sx), .second, .val (.int i20), .val (.int i21), .val (.int i22), .unset, .unset, .unset, .unset, .unset, .unset, .unset, .unset, .unset, .unset, .unset] [(.long sx)])
      refine OwnGo.st (fun _ kk => XS.lload X0.here hx rfl (hb hby at_147) rfl  kk) ?_
      show OwnGo p e below s _ _ _ T0 (mkF m 149 #[.val (.long p1), .second, .val (.long p2), .second, .val (.long p3), .second, .val (.long p4), .second, .val (.int p5), .val (.int kq), .val (.long tt), .second, .val (.long sa), .second, .val (.long sb), .second, .val (.long sc), .second, .val (.long sx), .second, .val (.int i20), .val (.int i21), .val (.int i22), .unset, .unset, .unset, .unset, .unset, .unset, .unset, .unset, .unset, .unset, .unset] [(.long sc), (.long sx)])
      refine OwnGo.st (fun _ kk => XS.lcmp X0.here hx rfl (hb hby at_149) rfl kk) ?_
      show OwnGo p e below s _ _ _ T0 (mkF m 150 #[.val (.long p1), .second, .val (.long p2), .second, .val (.long p3), .second, .val (.long p4), .second, .val (.int p5), .val (.int kq), .val (.long tt), .second, .val (.long sa), .second, .val (.long sb), .second, .val (.long sc), .second, .val (.long sx), .second, .val (.int i20), .val (.int i21), .val (.int i22), .unset, .unset, .unset, .unset, .unset, .unset, .unset, .unset, .unset, .unset, .unset] [(.int (lcmpW sx sc))])
      by_cases e3 : sx = sc
      · refine OwnGo.st (fun _ kk => XS.ifNo X0.here hx rfl (hb hby at_150) rfl ((if0 _ _).trans (teq (((lw_eq _ _).2 e3) : (lcmpW sx sc) = (0 : Int32))).2) kk) ?_
        show OwnGo p e below s _ _ _ T0 (mkF m 153 #[.val (.long p1), .second, .val (.long p2), .second, .val (.long p3), .second, .val (.long p4), .second, .val (.int p5), .val (.int kq), .val (.long tt), .second, .val (.long sa), .second, .val (.long sb), .second, .val (.long sc), .second, .val (.long sx), .second, .val (.int i20), .val (.int i21), .val (.int i22), .unset, .unset, .unset, .unset, .unset, .unset, .unset, .unset, .unset, .unset, .unset] [])
        refine OwnGo.st (fun _ kk => XS.iconst X0.here hx rfl (hb hby at_153) kk) ?_
        show OwnGo p e below s _ _ _ T0 (mkF m 154 #[.val (.long p1), .second, .val (.long p2), .second, .val (.long p3), .second, .val (.long p4), .second, .val (.int p5), .val (.int kq), .val (.long tt), .second, .val (.long sa), .second, .val (.long sb), .second, .val (.long sc), .second, .val (.long sx), .second, .val (.int i20), .val (.int i21), .val (.int i22), .unset, .unset, .unset, .unset, .unset, .unset, .unset, .unset, .unset, .unset, .unset] [(.int (1 : Int32))])
        refine OwnGo.st (fun _ kk => XS.goto X0.here hx rfl (pc0 := 154) (pc' := 158) rfl (hb hby at_154) (by decide) (by decide) kk) ?_
        show OwnGo p e below s _ _ _ T0 (mkF m 158 #[.val (.long p1), .second, .val (.long p2), .second, .val (.long p3), .second, .val (.long p4), .second, .val (.int p5), .val (.int kq), .val (.long tt), .second, .val (.long sa), .second, .val (.long sb), .second, .val (.long sc), .second, .val (.long sx), .second, .val (.int i20), .val (.int i21), .val (.int i22), .unset, .unset, .unset, .unset, .unset, .unset, .unset, .unset, .unset, .unset, .unset] [(.int (1 : Int32))])
        refine OwnGo.st (fun _ kk => XS.istore X0.here hx rfl (hb hby at_158) rfl (l' := #[.val (.long p1), .second, .val (.long p2), .second, .val (.long p3), .second, .val (.long p4), .second, .val (.int p5), .val (.int kq), .val (.long tt), .second, .val (.long sa), .second, .val (.long sb), .second, .val (.long sc), .second, .val (.long sx), .second, .val (.int i20), .val (.int i21), .val (.int i22), .val (.int (1 : Int32)), .unset, .unset, .unset, .unset, .unset, .unset, .unset, .unset, .unset, .unset]) rfl kk) ?_
        show OwnGo p e below s _ _ _ T0 (mkF m 160 #[.val (.long p1), .second, .val (.long p2), .second, .val (.long p3), .second, .val (.long p4), .second, .val (.int p5), .val (.int kq), .val (.long tt), .second, .val (.long sa), .second, .val (.long sb), .second, .val (.long sc), .second, .val (.long sx), .second, .val (.int i20), .val (.int i21), .val (.int i22), .val (.int (1 : Int32)), .unset, .unset, .unset, .unset, .unset, .unset, .unset, .unset, .unset, .unset] [])
        exact sg160 p1 p2 p3 p4 p5 tt sa sb sc sx kq i20 i21 i22 _ h0 n0 hw X0 hx hby hml hret hlk hown hnm hZ e0 N0 Z_ ga_ gb_ gc_ gx_ h20 h21 h22 (own_bit1 (Or.inr (Or.inr e3))).symm
      · refine OwnGo.st (fun _ kk => XS.ifYes X0.here hx rfl (pc0 := 150) (pc' := 157) rfl (hb hby at_150) rfl ((if0 _ _).trans (feq ((fun q => e3 ((lw_eq _ _).1 q)) : ¬ ((lcmpW sx sc) = (0 : Int32)))).2) (by decide) (by decide) kk) ?_
        show OwnGo p e below s _ _ _ T0 (mkF m 157 #[.val (.long p1), .second, .val (.long p2), .second, .val (.long p3), .second, .val (.long p4), .second, .val (.int p5), .val (.int kq), .val (.long tt), .second, .val (.long sa), .second, .val (.long sb), .second, .val (.long sc), .second, .val (.long sx), .second, .val (.int i20), .val (.int i21), .val (.int i22), .unset, .unset, .unset, .unset, .unset, .unset, .unset, .unset, .unset, .unset, .unset] [])
        refine OwnGo.st (fun _ kk => XS.iconst X0.here hx rfl (hb hby at_157) kk) ?_
        show OwnGo p e below s _ _ _ T0 (mkF m 158 #[.val (.long p1), .second, .val (.long p2), .second, .val (.long p3), .second, .val (.long p4), .second, .val (.int p5), .val (.int kq), .val (.long tt), .second, .val (.long sa), .second, .val (.long sb), .second, .val (.long sc), .second, .val (.long sx), .second, .val (.int i20), .val (.int i21), .val (.int i22), .unset, .unset, .unset, .unset, .unset, .unset, .unset, .unset, .unset, .unset, .unset] [(.int (0 : Int32))])
        refine OwnGo.st (fun _ kk => XS.istore X0.here hx rfl (hb hby at_158) rfl (l' := #[.val (.long p1), .second, .val (.long p2), .second, .val (.long p3), .second, .val (.long p4), .second, .val (.int p5), .val (.int kq), .val (.long tt), .second, .val (.long sa), .second, .val (.long sb), .second, .val (.long sc), .second, .val (.long sx), .second, .val (.int i20), .val (.int i21), .val (.int i22), .val (.int (0 : Int32)), .unset, .unset, .unset, .unset, .unset, .unset, .unset, .unset, .unset, .unset]) rfl kk) ?_
        show OwnGo p e below s _ _ _ T0 (mkF m 160 #[.val (.long p1), .second, .val (.long p2), .second, .val (.long p3), .second, .val (.long p4), .second, .val (.int p5), .val (.int kq), .val (.long tt), .second, .val (.long sa), .second, .val (.long sb), .second, .val (.long sc), .second, .val (.long sx), .second, .val (.int i20), .val (.int i21), .val (.int i22), .val (.int (0 : Int32)), .unset, .unset, .unset, .unset, .unset, .unset, .unset, .unset, .unset, .unset] [])
        exact sg160 p1 p2 p3 p4 p5 tt sa sb sc sx kq i20 i21 i22 _ h0 n0 hw X0 hx hby hml hret hlk hown hnm hZ e0 N0 Z_ ga_ gb_ gc_ gx_ h20 h21 h22 (own_bit0 (fun q => q.elim e1 (fun q => q.elim e2 e3))).symm
set_option maxRecDepth 65536 in
set_option maxHeartbeats 40000000 in
theorem sg104 {p : Program} {l : Launch} {e : Env} {s : State} {m : MethodId} {below : List Frame} {meth : Method} {c : Code} {Z : State} {a0 : Array Value} {T0 : State} {locs : List Loc} (p1 : Int64) (p2 : Int64) (p3 : Int64) (p4 : Int64) (p5 : Int32) (tt : Int64) (sa : Int64) (sb : Int64) (sc : Int64) (sx : Int64) (kq : Int32) (i20 : Int32) (i21 : Int32) (h0 : Heap) (n0 : Nat) (hw : ∀ d ∈ tables_1, d.before a0 Z = true)
    (X0 : Stand p l e room_1 s m #[(.long p1), (.long p2), (.long p3), (.long p4), (.int p5)] below meth c T0 locs 0 0) (hx : p.tables.exec = Jvm.exec) (hby : c.code = code) (hml : c.maxLocals = 34) (hret : meth.sig.returnType = ret) (hlk : meth.locks = false) (hown : s.vm.findClass "com/example/utsatt/utsatt/KeyHashesRemovePinLaw" = some m.cls) (hnm : meth.name = "law") (hZ : Z.Warmed39 s.vm) (e0 : T0.heap = h0) (N0 : Fr n0 locs) (Z_ : n0 ≤ h0.size) (ga_ : sa = own_st p1) (gb_ : sb = own_st p2) (gc_ : sc = own_st p3) (gx_ : sx = own_st tt) (h20 : i20 = own_bit (¬ sb = sa)) (h21 : i21 = own_bit (¬ (sc = sa ∨ sc = sb))) :
    OwnGo p e below s room_1.cells room_1.slots (Q0 Z p1 p2 p3 p4 p5 h0 n0) T0 (mkF m 104 #[.val (.long p1), .second, .val (.long p2), .second, .val (.long p3), .second, .val (.long p4), .second, .val (.int p5), .val (.int kq), .val (.long tt), .second, .val (.long sa), .second, .val (.long sb), .second, .val (.long sc), .second, .val (.long sx), .second, .val (.int i20), .val (.int i21), .unset, .unset, .unset, .unset, .unset, .unset, .unset, .unset, .unset, .unset, .unset, .unset] []) := by
  rcases (show i20 = (0 : Int32) ∨ i20 = (1 : Int32) from h20 ▸ own_bit01 _) with b20 | b20
  · rcases (show i21 = (0 : Int32) ∨ i21 = (1 : Int32) from h21 ▸ own_bit01 _) with b21 | b21
    · refine OwnGo.st (fun _ kk => XS.iconst X0.here hx rfl (hb hby at_104) kk) ?_
      show OwnGo p e below s _ _ _ T0 (mkF m 105 #[.val (.long p1), .second, .val (.long p2), .second, .val (.long p3), .second, .val (.long p4), .second, .val (.int p5), .val (.int kq), .val (.long tt), .second, .val (.long sa), .second, .val (.long sb), .second, .val (.long sc), .second, .val (.long sx), .second, .val (.int i20), .val (.int i21), .unset, .unset, .unset, .unset, .unset, .unset, .unset, .unset, .unset, .unset, .unset, .unset] [(.int (1 : Int32))])
      refine OwnGo.st (fun _ kk => XS.iload X0.here hx rfl (hb hby at_105) rfl  kk) ?_
      show OwnGo p e below s _ _ _ T0 (mkF m 107 #[.val (.long p1), .second, .val (.long p2), .second, .val (.long p3), .second, .val (.long p4), .second, .val (.int p5), .val (.int kq), .val (.long tt), .second, .val (.long sa), .second, .val (.long sb), .second, .val (.long sc), .second, .val (.long sx), .second, .val (.int i20), .val (.int i21), .unset, .unset, .unset, .unset, .unset, .unset, .unset, .unset, .unset, .unset, .unset, .unset] [(.int i20), (.int (1 : Int32))])
      refine OwnGo.st (fun _ kk => XS.ifYes X0.here hx rfl (pc0 := 107) (pc' := 114) rfl (hb hby at_107) rfl ((if0 _ _).trans (teq (b20 : i20 = (0 : Int32))).1) (by decide) (by decide) kk) ?_
      show OwnGo p e below s _ _ _ T0 (mkF m 114 #[.val (.long p1), .second, .val (.long p2), .second, .val (.long p3), .second, .val (.long p4), .second, .val (.int p5), .val (.int kq), .val (.long tt), .second, .val (.long sa), .second, .val (.long sb), .second, .val (.long sc), .second, .val (.long sx), .second, .val (.int i20), .val (.int i21), .unset, .unset, .unset, .unset, .unset, .unset, .unset, .unset, .unset, .unset, .unset, .unset] [(.int (1 : Int32))])
      refine OwnGo.st (fun _ kk => XS.iconst X0.here hx rfl (hb hby at_114) kk) ?_
      show OwnGo p e below s _ _ _ T0 (mkF m 115 #[.val (.long p1), .second, .val (.long p2), .second, .val (.long p3), .second, .val (.long p4), .second, .val (.int p5), .val (.int kq), .val (.long tt), .second, .val (.long sa), .second, .val (.long sb), .second, .val (.long sc), .second, .val (.long sx), .second, .val (.int i20), .val (.int i21), .unset, .unset, .unset, .unset, .unset, .unset, .unset, .unset, .unset, .unset, .unset, .unset] [(.int (0 : Int32)), (.int (1 : Int32))])
      refine OwnGo.st (fun _ kk => XS.iadd X0.here hx rfl (hb hby at_115) rfl kk) ?_
      show OwnGo p e below s _ _ _ T0 (mkF m 116 #[.val (.long p1), .second, .val (.long p2), .second, .val (.long p3), .second, .val (.long p4), .second, .val (.int p5), .val (.int kq), .val (.long tt), .second, .val (.long sa), .second, .val (.long sb), .second, .val (.long sc), .second, .val (.long sx), .second, .val (.int i20), .val (.int i21), .unset, .unset, .unset, .unset, .unset, .unset, .unset, .unset, .unset, .unset, .unset, .unset] [(.int (1 : Int32))])
      refine OwnGo.st (fun _ kk => XS.iload X0.here hx rfl (hb hby at_116) rfl  kk) ?_
      show OwnGo p e below s _ _ _ T0 (mkF m 118 #[.val (.long p1), .second, .val (.long p2), .second, .val (.long p3), .second, .val (.long p4), .second, .val (.int p5), .val (.int kq), .val (.long tt), .second, .val (.long sa), .second, .val (.long sb), .second, .val (.long sc), .second, .val (.long sx), .second, .val (.int i20), .val (.int i21), .unset, .unset, .unset, .unset, .unset, .unset, .unset, .unset, .unset, .unset, .unset, .unset] [(.int i21), (.int (1 : Int32))])
      refine OwnGo.st (fun _ kk => XS.ifYes X0.here hx rfl (pc0 := 118) (pc' := 125) rfl (hb hby at_118) rfl ((if0 _ _).trans (teq (b21 : i21 = (0 : Int32))).1) (by decide) (by decide) kk) ?_
      show OwnGo p e below s _ _ _ T0 (mkF m 125 #[.val (.long p1), .second, .val (.long p2), .second, .val (.long p3), .second, .val (.long p4), .second, .val (.int p5), .val (.int kq), .val (.long tt), .second, .val (.long sa), .second, .val (.long sb), .second, .val (.long sc), .second, .val (.long sx), .second, .val (.int i20), .val (.int i21), .unset, .unset, .unset, .unset, .unset, .unset, .unset, .unset, .unset, .unset, .unset, .unset] [(.int (1 : Int32))])
      refine OwnGo.st (fun _ kk => XS.iconst X0.here hx rfl (hb hby at_125) kk) ?_
      show OwnGo p e below s _ _ _ T0 (mkF m 126 #[.val (.long p1), .second, .val (.long p2), .second, .val (.long p3), .second, .val (.long p4), .second, .val (.int p5), .val (.int kq), .val (.long tt), .second, .val (.long sa), .second, .val (.long sb), .second, .val (.long sc), .second, .val (.long sx), .second, .val (.int i20), .val (.int i21), .unset, .unset, .unset, .unset, .unset, .unset, .unset, .unset, .unset, .unset, .unset, .unset] [(.int (0 : Int32)), (.int (1 : Int32))])
      refine OwnGo.st (fun _ kk => XS.iadd X0.here hx rfl (hb hby at_126) rfl kk) ?_
      show OwnGo p e below s _ _ _ T0 (mkF m 127 #[.val (.long p1), .second, .val (.long p2), .second, .val (.long p3), .second, .val (.long p4), .second, .val (.int p5), .val (.int kq), .val (.long tt), .second, .val (.long sa), .second, .val (.long sb), .second, .val (.long sc), .second, .val (.long sx), .second, .val (.int i20), .val (.int i21), .unset, .unset, .unset, .unset, .unset, .unset, .unset, .unset, .unset, .unset, .unset, .unset] [(.int (1 : Int32))])
      refine OwnGo.st (fun _ kk => XS.istore X0.here hx rfl (hb hby at_127) rfl (l' := #[.val (.long p1), .second, .val (.long p2), .second, .val (.long p3), .second, .val (.long p4), .second, .val (.int p5), .val (.int kq), .val (.long tt), .second, .val (.long sa), .second, .val (.long sb), .second, .val (.long sc), .second, .val (.long sx), .second, .val (.int i20), .val (.int i21), .val (.int (1 : Int32)), .unset, .unset, .unset, .unset, .unset, .unset, .unset, .unset, .unset, .unset, .unset]) rfl kk) ?_
      show OwnGo p e below s _ _ _ T0 (mkF m 129 #[.val (.long p1), .second, .val (.long p2), .second, .val (.long p3), .second, .val (.long p4), .second, .val (.int p5), .val (.int kq), .val (.long tt), .second, .val (.long sa), .second, .val (.long sb), .second, .val (.long sc), .second, .val (.long sx), .second, .val (.int i20), .val (.int i21), .val (.int (1 : Int32)), .unset, .unset, .unset, .unset, .unset, .unset, .unset, .unset, .unset, .unset, .unset] [])
      exact sg129 p1 p2 p3 p4 p5 tt sa sb sc sx kq i20 i21 _ h0 n0 hw X0 hx hby hml hret hlk hown hnm hZ e0 N0 Z_ ga_ gb_ gc_ gx_ h20 h21 (by rw [b20, b21]; decide)
    · refine OwnGo.st (fun _ kk => XS.iconst X0.here hx rfl (hb hby at_104) kk) ?_
      show OwnGo p e below s _ _ _ T0 (mkF m 105 #[.val (.long p1), .second, .val (.long p2), .second, .val (.long p3), .second, .val (.long p4), .second, .val (.int p5), .val (.int kq), .val (.long tt), .second, .val (.long sa), .second, .val (.long sb), .second, .val (.long sc), .second, .val (.long sx), .second, .val (.int i20), .val (.int i21), .unset, .unset, .unset, .unset, .unset, .unset, .unset, .unset, .unset, .unset, .unset, .unset] [(.int (1 : Int32))])
      refine OwnGo.st (fun _ kk => XS.iload X0.here hx rfl (hb hby at_105) rfl  kk) ?_
      show OwnGo p e below s _ _ _ T0 (mkF m 107 #[.val (.long p1), .second, .val (.long p2), .second, .val (.long p3), .second, .val (.long p4), .second, .val (.int p5), .val (.int kq), .val (.long tt), .second, .val (.long sa), .second, .val (.long sb), .second, .val (.long sc), .second, .val (.long sx), .second, .val (.int i20), .val (.int i21), .unset, .unset, .unset, .unset, .unset, .unset, .unset, .unset, .unset, .unset, .unset, .unset] [(.int i20), (.int (1 : Int32))])
      refine OwnGo.st (fun _ kk => XS.ifYes X0.here hx rfl (pc0 := 107) (pc' := 114) rfl (hb hby at_107) rfl ((if0 _ _).trans (teq (b20 : i20 = (0 : Int32))).1) (by decide) (by decide) kk) ?_
      show OwnGo p e below s _ _ _ T0 (mkF m 114 #[.val (.long p1), .second, .val (.long p2), .second, .val (.long p3), .second, .val (.long p4), .second, .val (.int p5), .val (.int kq), .val (.long tt), .second, .val (.long sa), .second, .val (.long sb), .second, .val (.long sc), .second, .val (.long sx), .second, .val (.int i20), .val (.int i21), .unset, .unset, .unset, .unset, .unset, .unset, .unset, .unset, .unset, .unset, .unset, .unset] [(.int (1 : Int32))])
      refine OwnGo.st (fun _ kk => XS.iconst X0.here hx rfl (hb hby at_114) kk) ?_
      show OwnGo p e below s _ _ _ T0 (mkF m 115 #[.val (.long p1), .second, .val (.long p2), .second, .val (.long p3), .second, .val (.long p4), .second, .val (.int p5), .val (.int kq), .val (.long tt), .second, .val (.long sa), .second, .val (.long sb), .second, .val (.long sc), .second, .val (.long sx), .second, .val (.int i20), .val (.int i21), .unset, .unset, .unset, .unset, .unset, .unset, .unset, .unset, .unset, .unset, .unset, .unset] [(.int (0 : Int32)), (.int (1 : Int32))])
      refine OwnGo.st (fun _ kk => XS.iadd X0.here hx rfl (hb hby at_115) rfl kk) ?_
      show OwnGo p e below s _ _ _ T0 (mkF m 116 #[.val (.long p1), .second, .val (.long p2), .second, .val (.long p3), .second, .val (.long p4), .second, .val (.int p5), .val (.int kq), .val (.long tt), .second, .val (.long sa), .second, .val (.long sb), .second, .val (.long sc), .second, .val (.long sx), .second, .val (.int i20), .val (.int i21), .unset, .unset, .unset, .unset, .unset, .unset, .unset, .unset, .unset, .unset, .unset, .unset] [(.int (1 : Int32))])
      refine OwnGo.st (fun _ kk => XS.iload X0.here hx rfl (hb hby at_116) rfl  kk) ?_
      show OwnGo p e below s _ _ _ T0 (mkF m 118 #[.val (.long p1), .second, .val (.long p2), .second, .val (.long p3), .second, .val (.long p4), .second, .val (.int p5), .val (.int kq), .val (.long tt), .second, .val (.long sa), .second, .val (.long sb), .second, .val (.long sc), .second, .val (.long sx), .second, .val (.int i20), .val (.int i21), .unset, .unset, .unset, .unset, .unset, .unset, .unset, .unset, .unset, .unset, .unset, .unset] [(.int i21), (.int (1 : Int32))])
      refine OwnGo.st (fun _ kk => XS.ifNo X0.here hx rfl (hb hby at_118) rfl ((if0 _ _).trans (feq ((fun q => absurd (b21.symm.trans q) (by decide)) : ¬ (i21 = (0 : Int32)))).1) kk) ?_
      show OwnGo p e below s _ _ _ T0 (mkF m 121 #[.val (.long p1), .second, .val (.long p2), .second, .val (.long p3), .second, .val (.long p4), .second, .val (.int p5), .val (.int kq), .val (.long tt), .second, .val (.long sa), .second, .val (.long sb), .second, .val (.long sc), .second, .val (.long sx), .second, .val (.int i20), .val (.int i21), .unset, .unset, .unset, .unset, .unset, .unset, .unset, .unset, .unset, .unset, .unset, .unset] [(.int (1 : Int32))])
      refine OwnGo.st (fun _ kk => XS.iconst X0.here hx rfl (hb hby at_121) kk) ?_
      show OwnGo p e below s _ _ _ T0 (mkF m 122 #[.val (.long p1), .second, .val (.long p2), .second, .val (.long p3), .second, .val (.long p4), .second, .val (.int p5), .val (.int kq), .val (.long tt), .second, .val (.long sa), .second, .val (.long sb), .second, .val (.long sc), .second, .val (.long sx), .second, .val (.int i20), .val (.int i21), .unset, .unset, .unset, .unset, .unset, .unset, .unset, .unset, .unset, .unset, .unset, .unset] [(.int (1 : Int32)), (.int (1 : Int32))])
      refine OwnGo.st (fun _ kk => XS.goto X0.here hx rfl (pc0 := 122) (pc' := 126) rfl (hb hby at_122) (by decide) (by decide) kk) ?_
      show OwnGo p e below s _ _ _ T0 (mkF m 126 #[.val (.long p1), .second, .val (.long p2), .second, .val (.long p3), .second, .val (.long p4), .second, .val (.int p5), .val (.int kq), .val (.long tt), .second, .val (.long sa), .second, .val (.long sb), .second, .val (.long sc), .second, .val (.long sx), .second, .val (.int i20), .val (.int i21), .unset, .unset, .unset, .unset, .unset, .unset, .unset, .unset, .unset, .unset, .unset, .unset] [(.int (1 : Int32)), (.int (1 : Int32))])
      refine OwnGo.st (fun _ kk => XS.iadd X0.here hx rfl (hb hby at_126) rfl kk) ?_
      show OwnGo p e below s _ _ _ T0 (mkF m 127 #[.val (.long p1), .second, .val (.long p2), .second, .val (.long p3), .second, .val (.long p4), .second, .val (.int p5), .val (.int kq), .val (.long tt), .second, .val (.long sa), .second, .val (.long sb), .second, .val (.long sc), .second, .val (.long sx), .second, .val (.int i20), .val (.int i21), .unset, .unset, .unset, .unset, .unset, .unset, .unset, .unset, .unset, .unset, .unset, .unset] [(.int (2 : Int32))])
      refine OwnGo.st (fun _ kk => XS.istore X0.here hx rfl (hb hby at_127) rfl (l' := #[.val (.long p1), .second, .val (.long p2), .second, .val (.long p3), .second, .val (.long p4), .second, .val (.int p5), .val (.int kq), .val (.long tt), .second, .val (.long sa), .second, .val (.long sb), .second, .val (.long sc), .second, .val (.long sx), .second, .val (.int i20), .val (.int i21), .val (.int (2 : Int32)), .unset, .unset, .unset, .unset, .unset, .unset, .unset, .unset, .unset, .unset, .unset]) rfl kk) ?_
      show OwnGo p e below s _ _ _ T0 (mkF m 129 #[.val (.long p1), .second, .val (.long p2), .second, .val (.long p3), .second, .val (.long p4), .second, .val (.int p5), .val (.int kq), .val (.long tt), .second, .val (.long sa), .second, .val (.long sb), .second, .val (.long sc), .second, .val (.long sx), .second, .val (.int i20), .val (.int i21), .val (.int (2 : Int32)), .unset, .unset, .unset, .unset, .unset, .unset, .unset, .unset, .unset, .unset, .unset] [])
      exact sg129 p1 p2 p3 p4 p5 tt sa sb sc sx kq i20 i21 _ h0 n0 hw X0 hx hby hml hret hlk hown hnm hZ e0 N0 Z_ ga_ gb_ gc_ gx_ h20 h21 (by rw [b20, b21]; decide)
  · rcases (show i21 = (0 : Int32) ∨ i21 = (1 : Int32) from h21 ▸ own_bit01 _) with b21 | b21
    · refine OwnGo.st (fun _ kk => XS.iconst X0.here hx rfl (hb hby at_104) kk) ?_
      show OwnGo p e below s _ _ _ T0 (mkF m 105 #[.val (.long p1), .second, .val (.long p2), .second, .val (.long p3), .second, .val (.long p4), .second, .val (.int p5), .val (.int kq), .val (.long tt), .second, .val (.long sa), .second, .val (.long sb), .second, .val (.long sc), .second, .val (.long sx), .second, .val (.int i20), .val (.int i21), .unset, .unset, .unset, .unset, .unset, .unset, .unset, .unset, .unset, .unset, .unset, .unset] [(.int (1 : Int32))])
      refine OwnGo.st (fun _ kk => XS.iload X0.here hx rfl (hb hby at_105) rfl  kk) ?_
      show OwnGo p e below s _ _ _ T0 (mkF m 107 #[.val (.long p1), .second, .val (.long p2), .second, .val (.long p3), .second, .val (.long p4), .second, .val (.int p5), .val (.int kq), .val (.long tt), .second, .val (.long sa), .second, .val (.long sb), .second, .val (.long sc), .second, .val (.long sx), .second, .val (.int i20), .val (.int i21), .unset, .unset, .unset, .unset, .unset, .unset, .unset, .unset, .unset, .unset, .unset, .unset] [(.int i20), (.int (1 : Int32))])
      refine OwnGo.st (fun _ kk => XS.ifNo X0.here hx rfl (hb hby at_107) rfl ((if0 _ _).trans (feq ((fun q => absurd (b20.symm.trans q) (by decide)) : ¬ (i20 = (0 : Int32)))).1) kk) ?_
      show OwnGo p e below s _ _ _ T0 (mkF m 110 #[.val (.long p1), .second, .val (.long p2), .second, .val (.long p3), .second, .val (.long p4), .second, .val (.int p5), .val (.int kq), .val (.long tt), .second, .val (.long sa), .second, .val (.long sb), .second, .val (.long sc), .second, .val (.long sx), .second, .val (.int i20), .val (.int i21), .unset, .unset, .unset, .unset, .unset, .unset, .unset, .unset, .unset, .unset, .unset, .unset] [(.int (1 : Int32))])
      refine OwnGo.st (fun _ kk => XS.iconst X0.here hx rfl (hb hby at_110) kk) ?_
      show OwnGo p e below s _ _ _ T0 (mkF m 111 #[.val (.long p1), .second, .val (.long p2), .second, .val (.long p3), .second, .val (.long p4), .second, .val (.int p5), .val (.int kq), .val (.long tt), .second, .val (.long sa), .second, .val (.long sb), .second, .val (.long sc), .second, .val (.long sx), .second, .val (.int i20), .val (.int i21), .unset, .unset, .unset, .unset, .unset, .unset, .unset, .unset, .unset, .unset, .unset, .unset] [(.int (1 : Int32)), (.int (1 : Int32))])
      refine OwnGo.st (fun _ kk => XS.goto X0.here hx rfl (pc0 := 111) (pc' := 115) rfl (hb hby at_111) (by decide) (by decide) kk) ?_
      show OwnGo p e below s _ _ _ T0 (mkF m 115 #[.val (.long p1), .second, .val (.long p2), .second, .val (.long p3), .second, .val (.long p4), .second, .val (.int p5), .val (.int kq), .val (.long tt), .second, .val (.long sa), .second, .val (.long sb), .second, .val (.long sc), .second, .val (.long sx), .second, .val (.int i20), .val (.int i21), .unset, .unset, .unset, .unset, .unset, .unset, .unset, .unset, .unset, .unset, .unset, .unset] [(.int (1 : Int32)), (.int (1 : Int32))])
      refine OwnGo.st (fun _ kk => XS.iadd X0.here hx rfl (hb hby at_115) rfl kk) ?_
      show OwnGo p e below s _ _ _ T0 (mkF m 116 #[.val (.long p1), .second, .val (.long p2), .second, .val (.long p3), .second, .val (.long p4), .second, .val (.int p5), .val (.int kq), .val (.long tt), .second, .val (.long sa), .second, .val (.long sb), .second, .val (.long sc), .second, .val (.long sx), .second, .val (.int i20), .val (.int i21), .unset, .unset, .unset, .unset, .unset, .unset, .unset, .unset, .unset, .unset, .unset, .unset] [(.int (2 : Int32))])
      refine OwnGo.st (fun _ kk => XS.iload X0.here hx rfl (hb hby at_116) rfl  kk) ?_
      show OwnGo p e below s _ _ _ T0 (mkF m 118 #[.val (.long p1), .second, .val (.long p2), .second, .val (.long p3), .second, .val (.long p4), .second, .val (.int p5), .val (.int kq), .val (.long tt), .second, .val (.long sa), .second, .val (.long sb), .second, .val (.long sc), .second, .val (.long sx), .second, .val (.int i20), .val (.int i21), .unset, .unset, .unset, .unset, .unset, .unset, .unset, .unset, .unset, .unset, .unset, .unset] [(.int i21), (.int (2 : Int32))])
      refine OwnGo.st (fun _ kk => XS.ifYes X0.here hx rfl (pc0 := 118) (pc' := 125) rfl (hb hby at_118) rfl ((if0 _ _).trans (teq (b21 : i21 = (0 : Int32))).1) (by decide) (by decide) kk) ?_
      show OwnGo p e below s _ _ _ T0 (mkF m 125 #[.val (.long p1), .second, .val (.long p2), .second, .val (.long p3), .second, .val (.long p4), .second, .val (.int p5), .val (.int kq), .val (.long tt), .second, .val (.long sa), .second, .val (.long sb), .second, .val (.long sc), .second, .val (.long sx), .second, .val (.int i20), .val (.int i21), .unset, .unset, .unset, .unset, .unset, .unset, .unset, .unset, .unset, .unset, .unset, .unset] [(.int (2 : Int32))])
      refine OwnGo.st (fun _ kk => XS.iconst X0.here hx rfl (hb hby at_125) kk) ?_
      show OwnGo p e below s _ _ _ T0 (mkF m 126 #[.val (.long p1), .second, .val (.long p2), .second, .val (.long p3), .second, .val (.long p4), .second, .val (.int p5), .val (.int kq), .val (.long tt), .second, .val (.long sa), .second, .val (.long sb), .second, .val (.long sc), .second, .val (.long sx), .second, .val (.int i20), .val (.int i21), .unset, .unset, .unset, .unset, .unset, .unset, .unset, .unset, .unset, .unset, .unset, .unset] [(.int (0 : Int32)), (.int (2 : Int32))])
      refine OwnGo.st (fun _ kk => XS.iadd X0.here hx rfl (hb hby at_126) rfl kk) ?_
      show OwnGo p e below s _ _ _ T0 (mkF m 127 #[.val (.long p1), .second, .val (.long p2), .second, .val (.long p3), .second, .val (.long p4), .second, .val (.int p5), .val (.int kq), .val (.long tt), .second, .val (.long sa), .second, .val (.long sb), .second, .val (.long sc), .second, .val (.long sx), .second, .val (.int i20), .val (.int i21), .unset, .unset, .unset, .unset, .unset, .unset, .unset, .unset, .unset, .unset, .unset, .unset] [(.int (2 : Int32))])
      refine OwnGo.st (fun _ kk => XS.istore X0.here hx rfl (hb hby at_127) rfl (l' := #[.val (.long p1), .second, .val (.long p2), .second, .val (.long p3), .second, .val (.long p4), .second, .val (.int p5), .val (.int kq), .val (.long tt), .second, .val (.long sa), .second, .val (.long sb), .second, .val (.long sc), .second, .val (.long sx), .second, .val (.int i20), .val (.int i21), .val (.int (2 : Int32)), .unset, .unset, .unset, .unset, .unset, .unset, .unset, .unset, .unset, .unset, .unset]) rfl kk) ?_
      show OwnGo p e below s _ _ _ T0 (mkF m 129 #[.val (.long p1), .second, .val (.long p2), .second, .val (.long p3), .second, .val (.long p4), .second, .val (.int p5), .val (.int kq), .val (.long tt), .second, .val (.long sa), .second, .val (.long sb), .second, .val (.long sc), .second, .val (.long sx), .second, .val (.int i20), .val (.int i21), .val (.int (2 : Int32)), .unset, .unset, .unset, .unset, .unset, .unset, .unset, .unset, .unset, .unset, .unset] [])
      exact sg129 p1 p2 p3 p4 p5 tt sa sb sc sx kq i20 i21 _ h0 n0 hw X0 hx hby hml hret hlk hown hnm hZ e0 N0 Z_ ga_ gb_ gc_ gx_ h20 h21 (by rw [b20, b21]; decide)
    · refine OwnGo.st (fun _ kk => XS.iconst X0.here hx rfl (hb hby at_104) kk) ?_
      show OwnGo p e below s _ _ _ T0 (mkF m 105 #[.val (.long p1), .second, .val (.long p2), .second, .val (.long p3), .second, .val (.long p4), .second, .val (.int p5), .val (.int kq), .val (.long tt), .second, .val (.long sa), .second, .val (.long sb), .second, .val (.long sc), .second, .val (.long sx), .second, .val (.int i20), .val (.int i21), .unset, .unset, .unset, .unset, .unset, .unset, .unset, .unset, .unset, .unset, .unset, .unset] [(.int (1 : Int32))])
      refine OwnGo.st (fun _ kk => XS.iload X0.here hx rfl (hb hby at_105) rfl  kk) ?_
      show OwnGo p e below s _ _ _ T0 (mkF m 107 #[.val (.long p1), .second, .val (.long p2), .second, .val (.long p3), .second, .val (.long p4), .second, .val (.int p5), .val (.int kq), .val (.long tt), .second, .val (.long sa), .second, .val (.long sb), .second, .val (.long sc), .second, .val (.long sx), .second, .val (.int i20), .val (.int i21), .unset, .unset, .unset, .unset, .unset, .unset, .unset, .unset, .unset, .unset, .unset, .unset] [(.int i20), (.int (1 : Int32))])
      refine OwnGo.st (fun _ kk => XS.ifNo X0.here hx rfl (hb hby at_107) rfl ((if0 _ _).trans (feq ((fun q => absurd (b20.symm.trans q) (by decide)) : ¬ (i20 = (0 : Int32)))).1) kk) ?_
      show OwnGo p e below s _ _ _ T0 (mkF m 110 #[.val (.long p1), .second, .val (.long p2), .second, .val (.long p3), .second, .val (.long p4), .second, .val (.int p5), .val (.int kq), .val (.long tt), .second, .val (.long sa), .second, .val (.long sb), .second, .val (.long sc), .second, .val (.long sx), .second, .val (.int i20), .val (.int i21), .unset, .unset, .unset, .unset, .unset, .unset, .unset, .unset, .unset, .unset, .unset, .unset] [(.int (1 : Int32))])
      refine OwnGo.st (fun _ kk => XS.iconst X0.here hx rfl (hb hby at_110) kk) ?_
      show OwnGo p e below s _ _ _ T0 (mkF m 111 #[.val (.long p1), .second, .val (.long p2), .second, .val (.long p3), .second, .val (.long p4), .second, .val (.int p5), .val (.int kq), .val (.long tt), .second, .val (.long sa), .second, .val (.long sb), .second, .val (.long sc), .second, .val (.long sx), .second, .val (.int i20), .val (.int i21), .unset, .unset, .unset, .unset, .unset, .unset, .unset, .unset, .unset, .unset, .unset, .unset] [(.int (1 : Int32)), (.int (1 : Int32))])
      refine OwnGo.st (fun _ kk => XS.goto X0.here hx rfl (pc0 := 111) (pc' := 115) rfl (hb hby at_111) (by decide) (by decide) kk) ?_
      show OwnGo p e below s _ _ _ T0 (mkF m 115 #[.val (.long p1), .second, .val (.long p2), .second, .val (.long p3), .second, .val (.long p4), .second, .val (.int p5), .val (.int kq), .val (.long tt), .second, .val (.long sa), .second, .val (.long sb), .second, .val (.long sc), .second, .val (.long sx), .second, .val (.int i20), .val (.int i21), .unset, .unset, .unset, .unset, .unset, .unset, .unset, .unset, .unset, .unset, .unset, .unset] [(.int (1 : Int32)), (.int (1 : Int32))])
      refine OwnGo.st (fun _ kk => XS.iadd X0.here hx rfl (hb hby at_115) rfl kk) ?_
      show OwnGo p e below s _ _ _ T0 (mkF m 116 #[.val (.long p1), .second, .val (.long p2), .second, .val (.long p3), .second, .val (.long p4), .second, .val (.int p5), .val (.int kq), .val (.long tt), .second, .val (.long sa), .second, .val (.long sb), .second, .val (.long sc), .second, .val (.long sx), .second, .val (.int i20), .val (.int i21), .unset, .unset, .unset, .unset, .unset, .unset, .unset, .unset, .unset, .unset, .unset, .unset] [(.int (2 : Int32))])
      refine OwnGo.st (fun _ kk => XS.iload X0.here hx rfl (hb hby at_116) rfl  kk) ?_
      show OwnGo p e below s _ _ _ T0 (mkF m 118 #[.val (.long p1), .second, .val (.long p2), .second, .val (.long p3), .second, .val (.long p4), .second, .val (.int p5), .val (.int kq), .val (.long tt), .second, .val (.long sa), .second, .val (.long sb), .second, .val (.long sc), .second, .val (.long sx), .second, .val (.int i20), .val (.int i21), .unset, .unset, .unset, .unset, .unset, .unset, .unset, .unset, .unset, .unset, .unset, .unset] [(.int i21), (.int (2 : Int32))])
      refine OwnGo.st (fun _ kk => XS.ifNo X0.here hx rfl (hb hby at_118) rfl ((if0 _ _).trans (feq ((fun q => absurd (b21.symm.trans q) (by decide)) : ¬ (i21 = (0 : Int32)))).1) kk) ?_
      show OwnGo p e below s _ _ _ T0 (mkF m 121 #[.val (.long p1), .second, .val (.long p2), .second, .val (.long p3), .second, .val (.long p4), .second, .val (.int p5), .val (.int kq), .val (.long tt), .second, .val (.long sa), .second, .val (.long sb), .second, .val (.long sc), .second, .val (.long sx), .second, .val (.int i20), .val (.int i21), .unset, .unset, .unset, .unset, .unset, .unset, .unset, .unset, .unset, .unset, .unset, .unset] [(.int (2 : Int32))])
      refine OwnGo.st (fun _ kk => XS.iconst X0.here hx rfl (hb hby at_121) kk) ?_
      show OwnGo p e below s _ _ _ T0 (mkF m 122 #[.val (.long p1), .second, .val (.long p2), .second, .val (.long p3), .second, .val (.long p4), .second, .val (.int p5), .val (.int kq), .val (.long tt), .second, .val (.long sa), .second, .val (.long sb), .second, .val (.long sc), .second, .val (.long sx), .second, .val (.int i20), .val (.int i21), .unset, .unset, .unset, .unset, .unset, .unset, .unset, .unset, .unset, .unset, .unset, .unset] [(.int (1 : Int32)), (.int (2 : Int32))])
      refine OwnGo.st (fun _ kk => XS.goto X0.here hx rfl (pc0 := 122) (pc' := 126) rfl (hb hby at_122) (by decide) (by decide) kk) ?_
      show OwnGo p e below s _ _ _ T0 (mkF m 126 #[.val (.long p1), .second, .val (.long p2), .second, .val (.long p3), .second, .val (.long p4), .second, .val (.int p5), .val (.int kq), .val (.long tt), .second, .val (.long sa), .second, .val (.long sb), .second, .val (.long sc), .second, .val (.long sx), .second, .val (.int i20), .val (.int i21), .unset, .unset, .unset, .unset, .unset, .unset, .unset, .unset, .unset, .unset, .unset, .unset] [(.int (1 : Int32)), (.int (2 : Int32))])
      refine OwnGo.st (fun _ kk => XS.iadd X0.here hx rfl (hb hby at_126) rfl kk) ?_
      show OwnGo p e below s _ _ _ T0 (mkF m 127 #[.val (.long p1), .second, .val (.long p2), .second, .val (.long p3), .second, .val (.long p4), .second, .val (.int p5), .val (.int kq), .val (.long tt), .second, .val (.long sa), .second, .val (.long sb), .second, .val (.long sc), .second, .val (.long sx), .second, .val (.int i20), .val (.int i21), .unset, .unset, .unset, .unset, .unset, .unset, .unset, .unset, .unset, .unset, .unset, .unset] [(.int (3 : Int32))])
      refine OwnGo.st (fun _ kk => XS.istore X0.here hx rfl (hb hby at_127) rfl (l' := #[.val (.long p1), .second, .val (.long p2), .second, .val (.long p3), .second, .val (.long p4), .second, .val (.int p5), .val (.int kq), .val (.long tt), .second, .val (.long sa), .second, .val (.long sb), .second, .val (.long sc), .second, .val (.long sx), .second, .val (.int i20), .val (.int i21), .val (.int (3 : Int32)), .unset, .unset, .unset, .unset, .unset, .unset, .unset, .unset, .unset, .unset, .unset]) rfl kk) ?_
      show OwnGo p e below s _ _ _ T0 (mkF m 129 #[.val (.long p1), .second, .val (.long p2), .second, .val (.long p3), .second, .val (.long p4), .second, .val (.int p5), .val (.int kq), .val (.long tt), .second, .val (.long sa), .second, .val (.long sb), .second, .val (.long sc), .second, .val (.long sx), .second, .val (.int i20), .val (.int i21), .val (.int (3 : Int32)), .unset, .unset, .unset, .unset, .unset, .unset, .unset, .unset, .unset, .unset, .unset] [])
      exact sg129 p1 p2 p3 p4 p5 tt sa sb sc sx kq i20 i21 _ h0 n0 hw X0 hx hby hml hret hlk hown hnm hZ e0 N0 Z_ ga_ gb_ gc_ gx_ h20 h21 (by rw [b20, b21]; decide)
set_option maxRecDepth 65536 in
set_option maxHeartbeats 40000000 in
theorem sg81 {p : Program} {l : Launch} {e : Env} {s : State} {m : MethodId} {below : List Frame} {meth : Method} {c : Code} {Z : State} {a0 : Array Value} {T0 : State} {locs : List Loc} (p1 : Int64) (p2 : Int64) (p3 : Int64) (p4 : Int64) (p5 : Int32) (tt : Int64) (sa : Int64) (sb : Int64) (sc : Int64) (sx : Int64) (kq : Int32) (i20 : Int32) (h0 : Heap) (n0 : Nat) (hw : ∀ d ∈ tables_1, d.before a0 Z = true)
    (X0 : Stand p l e room_1 s m #[(.long p1), (.long p2), (.long p3), (.long p4), (.int p5)] below meth c T0 locs 0 0) (hx : p.tables.exec = Jvm.exec) (hby : c.code = code) (hml : c.maxLocals = 34) (hret : meth.sig.returnType = ret) (hlk : meth.locks = false) (hown : s.vm.findClass "com/example/utsatt/utsatt/KeyHashesRemovePinLaw" = some m.cls) (hnm : meth.name = "law") (hZ : Z.Warmed39 s.vm) (e0 : T0.heap = h0) (N0 : Fr n0 locs) (Z_ : n0 ≤ h0.size) (ga_ : sa = own_st p1) (gb_ : sb = own_st p2) (gc_ : sc = own_st p3) (gx_ : sx = own_st tt) (h20 : i20 = own_bit (¬ sb = sa)) :
    OwnGo p e below s room_1.cells room_1.slots (Q0 Z p1 p2 p3 p4 p5 h0 n0) T0 (mkF m 81 #[.val (.long p1), .second, .val (.long p2), .second, .val (.long p3), .second, .val (.long p4), .second, .val (.int p5), .val (.int kq), .val (.long tt), .second, .val (.long sa), .second, .val (.long sb), .second, .val (.long sc), .second, .val (.long sx), .second, .val (.int i20), .unset, .unset, .unset, .unset, .unset, .unset, .unset, .unset, .unset, .unset, .unset, .unset, .unset] []) := by
  refine OwnGo.st (fun _ kk => XS.lload X0.here hx rfl (hb hby at_81) rfl  kk) ?_
  show OwnGo p e below s _ _ _ T0 (mkF m 83 #[.val (.long p1), .second, .val (.long p2), .second, .val (.long p3), .second, .val (.long p4), .second, .val (.int p5), .val (.int kq), .val (.long tt), .second, .val (.long sa), .second, .val (.long sb), .second, .val (.long sc), .second, .val (.long sx), .second, .val (.int i20), .unset, .unset, .unset, .unset, .unset, .unset, .unset, .unset, .unset, .unset, .unset, .unset, .unset] [(.long sc)])
  refine OwnGo.st (fun _ kk => XS.lload X0.here hx rfl (hb hby at_83) rfl  kk) ?_
  show OwnGo p e below s _ _ _ T0 (mkF m 85 #[.val (.long p1), .second, .val (.long p2), .second, .val (.long p3), .second, .val (.long p4), .second, .val (.int p5), .val (.int kq), .val (.long tt), .second, .val (.long sa), .second, .val (.long sb), .second, .val (.long sc), .second, .val (.long sx), .second, .val (.int i20), .unset, .unset, .unset, .unset, .unset, .unset, .unset, .unset, .unset, .unset, .unset, .unset, .unset] [(.long sa), (.long sc)])
  refine OwnGo.st (fun _ kk => XS.lcmp X0.here hx rfl (hb hby at_85) rfl kk) ?_
  show OwnGo p e below s _ _ _ T0 (mkF m 86 #[.val (.long p1), .second, .val (.long p2), .second, .val (.long p3), .second, .val (.long p4), .second, .val (.int p5), .val (.int kq), .val (.long tt), .second, .val (.long sa), .second, .val (.long sb), .second, .val (.long sc), .second, .val (.long sx), .second, .val (.int i20), .unset, .unset, .unset, .unset, .unset, .unset, .unset, .unset, .unset, .unset, .unset, .unset, .unset] [(.int (lcmpW sc sa))])
  by_cases e1 : sc = sa
  · refine OwnGo.st (fun _ kk => XS.ifYes X0.here hx rfl (pc0 := 86) (pc' := 101) rfl (hb hby at_86) rfl ((if0 _ _).trans (teq (((lw_eq _ _).2 e1) : (lcmpW sc sa) = (0 : Int32))).1) (by decide) (by decide) kk) ?_
    show OwnGo p e below s _ _ _ T0 (mkF m 101 #[.val (.long p1), .second, .val (.long p2), .second, .val (.long p3), .second, .val (.long p4), .second, .val (.int p5), .val (.int kq), .val (.long tt), .second, .val (.long sa), .second, .val (.long sb), .second, .val (.long sc), .second, .val (.long sx), .second, .val (.int i20), .unset, .unset, .unset, .unset, .unset, .unset, .unset, .unset, .unset, .unset, .unset, .unset, .unset] [])
    refine OwnGo.st (fun _ kk => XS.iconst X0.here hx rfl (hb hby at_101) kk) ?_
    show OwnGo p e below s _ _ _ T0 (mkF m 102 #[.val (.long p1), .second, .val (.long p2), .second, .val (.long p3), .second, .val (.long p4), .second, .val (.int p5), .val (.int kq), .val (.long tt), .second, .val (.long sa), .second, .val (.long sb), .second, .val (.long sc), .second, .val (.long sx), .second, .val (.int i20), .unset, .unset, .unset, .unset, .unset, .unset, .unset, .unset, .unset, .unset, .unset, .unset, .unset] [(.int (0 : Int32))])
    refine OwnGo.st (fun _ kk => XS.istore X0.here hx rfl (hb hby at_102) rfl (l' := #[.val (.long p1), .second, .val (.long p2), .second, .val (.long p3), .second, .val (.long p4), .second, .val (.int p5), .val (.int kq), .val (.long tt), .second, .val (.long sa), .second, .val (.long sb), .second, .val (.long sc), .second, .val (.long sx), .second, .val (.int i20), .val (.int (0 : Int32)), .unset, .unset, .unset, .unset, .unset, .unset, .unset, .unset, .unset, .unset, .unset, .unset]) rfl kk) ?_
    show OwnGo p e below s _ _ _ T0 (mkF m 104 #[.val (.long p1), .second, .val (.long p2), .second, .val (.long p3), .second, .val (.long p4), .second, .val (.int p5), .val (.int kq), .val (.long tt), .second, .val (.long sa), .second, .val (.long sb), .second, .val (.long sc), .second, .val (.long sx), .second, .val (.int i20), .val (.int (0 : Int32)), .unset, .unset, .unset, .unset, .unset, .unset, .unset, .unset, .unset, .unset, .unset, .unset] [])
    exact sg104 p1 p2 p3 p4 p5 tt sa sb sc sx kq i20 _ h0 n0 hw X0 hx hby hml hret hlk hown hnm hZ e0 N0 Z_ ga_ gb_ gc_ gx_ h20 (own_bit0 (fun q => q (Or.inl e1))).symm
  · refine OwnGo.st (fun _ kk => XS.ifNo X0.here hx rfl (hb hby at_86) rfl ((if0 _ _).trans (feq ((fun q => e1 ((lw_eq _ _).1 q)) : ¬ ((lcmpW sc sa) = (0 : Int32)))).1) kk) ?_
    show OwnGo p e below s _ _ _ T0 (mkF m 89 #[.val (.long p1), .second, .val (.long p2), .second, .val (.long p3), .second, .val (.long p4), .second, .val (.int p5), .val (.int kq), .val (.long tt), .second, .val (.long sa), .second, .val (.long sb), .second, .val (.long sc), .second, .val (.long sx), .second, .val (.int i20), .unset, .unset, .unset, .unset, .unset, .unset, .unset, .unset, .unset, .unset, .unset, .unset, .unset] [])
    refine OwnGo.st (fun _ kk => XS.lload X0.here hx rfl (hb hby at_89) rfl  kk) ?_
    show OwnGo p e below s _ _ _ T0 (mkF m 91 #[.val (.long p1), .second, .val (.long p2), .second, .val (.long p3), .second, .val (.long p4), .second, .val (.int p5), .val (.int kq), .val (.long tt), .second, .val (.long sa), .second, .val (.long sb), .second, .val (.long sc), .second, .val (.long sx), .second, .val (.int i20), .unset, .unset, .unset, .unset, .unset, .unset, .unset, .unset, .unset, .unset, .unset, .unset, .unset] [(.long sc)])
    refine OwnGo.st (fun _ kk => XS.lload X0.here hx rfl (hb hby at_91) rfl  kk) ?_
    show OwnGo p e below s _ _ _ T0 (mkF m 93 #[.val (.long p1), .second, .val (.long p2), .second, .val (.long p3), .second, .val (.long p4), .second, .val (.int p5), .val (.int kq), .val (.long tt), .second, .val (.long sa), .second, .val (.long sb), .second, .val (.long sc), .second, .val (.long sx), .second, .val (.int i20), .unset, .unset, .unset, .unset, .unset, .unset, .unset, .unset, .unset, .unset, .unset, .unset, .unset] [(.long sb), (.long sc)])
    refine OwnGo.st (fun _ kk => XS.lcmp X0.here hx rfl (hb hby at_93) rfl kk) ?_
    show OwnGo p e below s _ _ _ T0 (mkF m 94 #[.val (.long p1), .second, .val (.long p2), .second, .val (.long p3), .second, .val (.long p4), .second, .val (.int p5), .val (.int kq), .val (.long tt), .second, .val (.long sa), .second, .val (.long sb), .second, .val (.long sc), .second, .val (.long sx), .second, .val (.int i20), .unset, .unset, .unset, .unset, .unset, .unset, .unset, .unset, .unset, .unset, .unset, .unset, .unset] [(.int (lcmpW sc sb))])
    by_cases e2 : sc = sb
    · refine OwnGo.st (fun _ kk => XS.ifYes X0.here hx rfl (pc0 := 94) (pc' := 101) rfl (hb hby at_94) rfl ((if0 _ _).trans (teq (((lw_eq _ _).2 e2) : (lcmpW sc sb) = (0 : Int32))).1) (by decide) (by decide) kk) ?_
      show OwnGo p e below s _ _ _ T0 (mkF m 101 #[.val (.long p1), .second, .val (.long p2), .second, .val (.long p3), .second, .val (.long p4), .second, .val (.int p5), .val (.int kq), .val (.long tt), .second, .val (.long sa), .second, .val (.long sb), .second, .val (.long sc), .second, .val (.long sx), .second, .val (.int i20), .unset, .unset, .unset, .unset, .unset, .unset, .unset, .unset, .unset, .unset, .unset, .unset, .unset] [])
      refine OwnGo.st (fun _ kk => XS.iconst X0.here hx rfl (hb hby at_101) kk) ?_
      show OwnGo p e below s _ _ _ T0 (mkF m 102 #[.val (.long p1), .second, .val (.long p2), .second, .val (.long p3), .second, .val (.long p4), .second, .val (.int p5), .val (.int kq), .val (.long tt), .second, .val (.long sa), .second, .val (.long sb), .second, .val (.long sc), .second, .val (.long sx), .second, .val (.int i20), .unset, .unset, .unset, .unset, .unset, .unset, .unset, .unset, .unset, .unset, .unset, .unset, .unset] [(.int (0 : Int32))])
      refine OwnGo.st (fun _ kk => XS.istore X0.here hx rfl (hb hby at_102) rfl (l' := #[.val (.long p1), .second, .val (.long p2), .second, .val (.long p3), .second, .val (.long p4), .second, .val (.int p5), .val (.int kq), .val (.long tt), .second, .val (.long sa), .second, .val (.long sb), .second, .val (.long sc), .second, .val (.long sx), .second, .val (.int i20), .val (.int (0 : Int32)), .unset, .unset, .unset, .unset, .unset, .unset, .unset, .unset, .unset, .unset, .unset, .unset]) rfl kk) ?_
      show OwnGo p e below s _ _ _ T0 (mkF m 104 #[.val (.long p1), .second, .val (.long p2), .second, .val (.long p3), .second, .val (.long p4), .second, .val (.int p5), .val (.int kq), .val (.long tt), .second, .val (.long sa), .second, .val (.long sb), .second, .val (.long sc), .second, .val (.long sx), .second, .val (.int i20), .val (.int (0 : Int32)), .unset, .unset, .unset, .unset, .unset, .unset, .unset, .unset, .unset, .unset, .unset, .unset] [])
      exact sg104 p1 p2 p3 p4 p5 tt sa sb sc sx kq i20 _ h0 n0 hw X0 hx hby hml hret hlk hown hnm hZ e0 N0 Z_ ga_ gb_ gc_ gx_ h20 (own_bit0 (fun q => q (Or.inr e2))).symm
    · refine OwnGo.st (fun _ kk => XS.ifNo X0.here hx rfl (hb hby at_94) rfl ((if0 _ _).trans (feq ((fun q => e2 ((lw_eq _ _).1 q)) : ¬ ((lcmpW sc sb) = (0 : Int32)))).1) kk) ?_
      show OwnGo p e below s _ _ _ T0 (mkF m 97 #[.val (.long p1), .second, .val (.long p2), .second, .val (.long p3), .second, .val (.long p4), .second, .val (.int p5), .val (.int kq), .val (.long tt), .second, .val (.long sa), .second, .val (.long sb), .second, .val (.long sc), .second, .val (.long sx), .second, .val (.int i20), .unset, .unset, .unset, .unset, .unset, .unset, .unset, .unset, .unset, .unset, .unset, .unset, .unset] [])
      refine OwnGo.st (fun _ kk => XS.iconst X0.here hx rfl (hb hby at_97) kk) ?_
      show OwnGo p e below s _ _ _ T0 (mkF m 98 #[.val (.long p1), .second, .val (.long p2), .second, .val (.long p3), .second, .val (.long p4), .second, .val (.int p5), .val (.int kq), .val (.long tt), .second, .val (.long sa), .second, .val (.long sb), .second, .val (.long sc), .second, .val (.long sx), .second, .val (.int i20), .unset, .unset, .unset, .unset, .unset, .unset, .unset, .unset, .unset, .unset, .unset, .unset, .unset] [(.int (1 : Int32))])
      refine OwnGo.st (fun _ kk => XS.goto X0.here hx rfl (pc0 := 98) (pc' := 102) rfl (hb hby at_98) (by decide) (by decide) kk) ?_
      show OwnGo p e below s _ _ _ T0 (mkF m 102 #[.val (.long p1), .second, .val (.long p2), .second, .val (.long p3), .second, .val (.long p4), .second, .val (.int p5), .val (.int kq), .val (.long tt), .second, .val (.long sa), .second, .val (.long sb), .second, .val (.long sc), .second, .val (.long sx), .second, .val (.int i20), .unset, .unset, .unset, .unset, .unset, .unset, .unset, .unset, .unset, .unset, .unset, .unset, .unset] [(.int (1 : Int32))])
      refine OwnGo.st (fun _ kk => XS.istore X0.here hx rfl (hb hby at_102) rfl (l' := #[.val (.long p1), .second, .val (.long p2), .second, .val (.long p3), .second, .val (.long p4), .second, .val (.int p5), .val (.int kq), .val (.long tt), .second, .val (.long sa), .second, .val (.long sb), .second, .val (.long sc), .second, .val (.long sx), .second, .val (.int i20), .val (.int (1 : Int32)), .unset, .unset, .unset, .unset, .unset, .unset, .unset, .unset, .unset, .unset, .unset, .unset]) rfl kk) ?_
      show OwnGo p e below s _ _ _ T0 (mkF m 104 #[.val (.long p1), .second, .val (.long p2), .second, .val (.long p3), .second, .val (.long p4), .second, .val (.int p5), .val (.int kq), .val (.long tt), .second, .val (.long sa), .second, .val (.long sb), .second, .val (.long sc), .second, .val (.long sx), .second, .val (.int i20), .val (.int (1 : Int32)), .unset, .unset, .unset, .unset, .unset, .unset, .unset, .unset, .unset, .unset, .unset, .unset] [])
      exact sg104 p1 p2 p3 p4 p5 tt sa sb sc sx kq i20 _ h0 n0 hw X0 hx hby hml hret hlk hown hnm hZ e0 N0 Z_ ga_ gb_ gc_ gx_ h20 (own_bit1 (P := ¬ (sc = sa ∨ sc = sb)) (fun q => q.elim e1 e2)).symm
set_option maxRecDepth 65536 in
set_option maxHeartbeats 40000000 in
theorem sg38 {p : Program} {l : Launch} {e : Env} {s : State} {m : MethodId} {below : List Frame} {meth : Method} {c : Code} {Z : State} {a0 : Array Value} {T0 : State} {locs : List Loc} (p1 : Int64) (p2 : Int64) (p3 : Int64) (p4 : Int64) (p5 : Int32) (tt : Int64) (kq : Int32) (h0 : Heap) (n0 : Nat) (hw : ∀ d ∈ tables_1, d.before a0 Z = true)
    (X0 : Stand p l e room_1 s m #[(.long p1), (.long p2), (.long p3), (.long p4), (.int p5)] below meth c T0 locs 0 0) (hx : p.tables.exec = Jvm.exec) (hby : c.code = code) (hml : c.maxLocals = 34) (hret : meth.sig.returnType = ret) (hlk : meth.locks = false) (hown : s.vm.findClass "com/example/utsatt/utsatt/KeyHashesRemovePinLaw" = some m.cls) (hnm : meth.name = "law") (hZ : Z.Warmed39 s.vm) (e0 : T0.heap = h0) (N0 : Fr n0 locs) (Z_ : n0 ≤ h0.size) :
    OwnGo p e below s room_1.cells room_1.slots (Q0 Z p1 p2 p3 p4 p5 h0 n0) T0 (mkF m 38 #[.val (.long p1), .second, .val (.long p2), .second, .val (.long p3), .second, .val (.long p4), .second, .val (.int p5), .val (.int kq), .unset, .unset, .unset, .unset, .unset, .unset, .unset, .unset, .unset, .unset, .unset, .unset, .unset, .unset, .unset, .unset, .unset, .unset, .unset, .unset, .unset, .unset, .unset, .unset] [(.long tt)]) := by
  refine OwnGo.st (fun _ kk => XS.lstore X0.here hx rfl (hb hby at_38) rfl (l' := #[.val (.long p1), .second, .val (.long p2), .second, .val (.long p3), .second, .val (.long p4), .second, .val (.int p5), .val (.int kq), .val (.long tt), .second, .unset, .unset, .unset, .unset, .unset, .unset, .unset, .unset, .unset, .unset, .unset, .unset, .unset, .unset, .unset, .unset, .unset, .unset, .unset, .unset, .unset, .unset]) rfl kk) ?_
  show OwnGo p e below s _ _ _ T0 (mkF m 40 #[.val (.long p1), .second, .val (.long p2), .second, .val (.long p3), .second, .val (.long p4), .second, .val (.int p5), .val (.int kq), .val (.long tt), .second, .unset, .unset, .unset, .unset, .unset, .unset, .unset, .unset, .unset, .unset, .unset, .unset, .unset, .unset, .unset, .unset, .unset, .unset, .unset, .unset, .unset, .unset] [])
  refine OwnGo.st (fun _ kk => XS.lloadN X0.here hx rfl (hb hby at_40) rfl  kk) ?_
  show OwnGo p e below s _ _ _ T0 (mkF m 41 #[.val (.long p1), .second, .val (.long p2), .second, .val (.long p3), .second, .val (.long p4), .second, .val (.int p5), .val (.int kq), .val (.long tt), .second, .unset, .unset, .unset, .unset, .unset, .unset, .unset, .unset, .unset, .unset, .unset, .unset, .unset, .unset, .unset, .unset, .unset, .unset, .unset, .unset, .unset, .unset] [(.long p1)])
  obtain ⟨_, _, ⟨T241, L241, k241, n241⟩, -, X241, ⟨Lc241, hQ241, l241, y241, z241⟩, st241⟩ := Jvm.LawKit.callS X0 hx (y := (⟨"com/example/utsatt/utsatt/KeyHashesRemovePinLaw", "st", "(J)J"⟩ : MethodName)) hown (mvT hZ (hw _ (List.mem_of_getElem? (i := 0) rfl))) (mvT hZ (hw _ (List.mem_of_getElem? (i := 1) rfl))) (mvT hZ (hw _ (List.mem_of_getElem? (i := 2) rfl))) (mvT hZ (hw _ (List.mem_of_getElem? (i := 3) rfl))) (by decide) (backOf (W := 0) (rmnrm l Z a0 hw [] p1 h0 n0 Z_ ) hZ (hw _ (List.mem_of_getElem? (i := 3) rfl)) (hw _ (List.mem_of_getElem? (i := 2) rfl)) (by decide) (by decide)) (g := (mkF m 41 #[.val (.long p1), .second, .val (.long p2), .second, .val (.long p3), .second, .val (.long p4), .second, .val (.int p5), .val (.int kq), .val (.long tt), .second, .unset, .unset, .unset, .unset, .unset, .unset, .unset, .unset, .unset, .unset, .unset, .unset, .unset, .unset, .unset, .unset, .unset, .unset, .unset, .unset, .unset, .unset] [(.long p1)])) rfl (by rw [hml]; rfl) (argsL := [(.long p1)]) (rest := []) (lenOf pd_2 rfl) rfl (by show 2 * 0 + _ ≤ _; exact Nat.le_of_eq rfl) (hb hby at_41) (fun _ _ => ⟨rfl, e0, (by decide : 0 + 0 ≤ _), (by decide : 0 + 0 ≤ _)⟩)
  dsimp only [Pt.U, Pt.locs, Pt.cells, Pt.slots] at X241 l241 y241 z241 st241 hQ241
  subst l241 y241 z241
  obtain ⟨rfl, N241q, e241⟩ := hQ241
  have N241 := Fr.app N0 N241q
  refine OwnGo.st st241 ?_
  show OwnGo p e below s _ _ _ T241 (mkF m 44 #[.val (.long p1), .second, .val (.long p2), .second, .val (.long p3), .second, .val (.long p4), .second, .val (.int p5), .val (.int kq), .val (.long tt), .second, .unset, .unset, .unset, .unset, .unset, .unset, .unset, .unset, .unset, .unset, .unset, .unset, .unset, .unset, .unset, .unset, .unset, .unset, .unset, .unset, .unset, .unset] [(.long (own_st p1))])
  obtain ⟨sa, hsa⟩ : ∃ z : Int64, z = (own_st p1) := ⟨_, rfl⟩
  rw [← hsa]
  show OwnGo p e below s _ _ _ T241 (mkF m 44 #[.val (.long p1), .second, .val (.long p2), .second, .val (.long p3), .second, .val (.long p4), .second, .val (.int p5), .val (.int kq), .val (.long tt), .second, .unset, .unset, .unset, .unset, .unset, .unset, .unset, .unset, .unset, .unset, .unset, .unset, .unset, .unset, .unset, .unset, .unset, .unset, .unset, .unset, .unset, .unset] [(.long sa)])
  refine OwnGo.st (fun _ kk => XS.lstore X241.here hx rfl (hb hby at_44) rfl (l' := #[.val (.long p1), .second, .val (.long p2), .second, .val (.long p3), .second, .val (.long p4), .second, .val (.int p5), .val (.int kq), .val (.long tt), .second, .val (.long sa), .second, .unset, .unset, .unset, .unset, .unset, .unset, .unset, .unset, .unset, .unset, .unset, .unset, .unset, .unset, .unset, .unset, .unset, .unset, .unset, .unset]) rfl kk) ?_
  show OwnGo p e below s _ _ _ T241 (mkF m 46 #[.val (.long p1), .second, .val (.long p2), .second, .val (.long p3), .second, .val (.long p4), .second, .val (.int p5), .val (.int kq), .val (.long tt), .second, .val (.long sa), .second, .unset, .unset, .unset, .unset, .unset, .unset, .unset, .unset, .unset, .unset, .unset, .unset, .unset, .unset, .unset, .unset, .unset, .unset, .unset, .unset] [])
  refine OwnGo.st (fun _ kk => XS.lloadN X241.here hx rfl (hb hby at_46) rfl  kk) ?_
  show OwnGo p e below s _ _ _ T241 (mkF m 47 #[.val (.long p1), .second, .val (.long p2), .second, .val (.long p3), .second, .val (.long p4), .second, .val (.int p5), .val (.int kq), .val (.long tt), .second, .val (.long sa), .second, .unset, .unset, .unset, .unset, .unset, .unset, .unset, .unset, .unset, .unset, .unset, .unset, .unset, .unset, .unset, .unset, .unset, .unset, .unset, .unset] [(.long p2)])
  obtain ⟨_, _, ⟨T242, L242, k242, n242⟩, -, X242, ⟨Lc242, hQ242, l242, y242, z242⟩, st242⟩ := Jvm.LawKit.callS X241 hx (y := (⟨"com/example/utsatt/utsatt/KeyHashesRemovePinLaw", "st", "(J)J"⟩ : MethodName)) hown (mvT hZ (hw _ (List.mem_of_getElem? (i := 0) rfl))) (mvT hZ (hw _ (List.mem_of_getElem? (i := 1) rfl))) (mvT hZ (hw _ (List.mem_of_getElem? (i := 2) rfl))) (mvT hZ (hw _ (List.mem_of_getElem? (i := 3) rfl))) (by decide) (backOf (W := 0) (rmnrm l Z a0 hw [] p2 h0 n0 Z_ ) hZ (hw _ (List.mem_of_getElem? (i := 3) rfl)) (hw _ (List.mem_of_getElem? (i := 2) rfl)) (by decide) (by decide)) (g := (mkF m 47 #[.val (.long p1), .second, .val (.long p2), .second, .val (.long p3), .second, .val (.long p4), .second, .val (.int p5), .val (.int kq), .val (.long tt), .second, .val (.long sa), .second, .unset, .unset, .unset, .unset, .unset, .unset, .unset, .unset, .unset, .unset, .unset, .unset, .unset, .unset, .unset, .unset, .unset, .unset, .unset, .unset] [(.long p2)])) rfl (by rw [hml]; rfl) (argsL := [(.long p2)]) (rest := []) (lenOf pd_2 rfl) rfl (by show 2 * 0 + _ ≤ _; exact Nat.le_of_eq rfl) (hb hby at_47) (fun _ _ => ⟨rfl, e241, (by decide : 0 + 0 ≤ _), (by decide : 0 + 0 ≤ _)⟩)
  dsimp only [Pt.U, Pt.locs, Pt.cells, Pt.slots] at X242 l242 y242 z242 st242 hQ242
  subst l242 y242 z242
  obtain ⟨rfl, N242q, e242⟩ := hQ242
  have N242 := Fr.app N241 N242q
  refine OwnGo.st st242 ?_
  show OwnGo p e below s _ _ _ T242 (mkF m 50 #[.val (.long p1), .second, .val (.long p2), .second, .val (.long p3), .second, .val (.long p4), .second, .val (.int p5), .val (.int kq), .val (.long tt), .second, .val (.long sa), .second, .unset, .unset, .unset, .unset, .unset, .unset, .unset, .unset, .unset, .unset, .unset, .unset, .unset, .unset, .unset, .unset, .unset, .unset, .unset, .unset] [(.long (own_st p2))])
  obtain ⟨sb, hsb⟩ : ∃ z : Int64, z = (own_st p2) := ⟨_, rfl⟩
  rw [← hsb]
  show OwnGo p e below s _ _ _ T242 (mkF m 50 #[.val (.long p1), .second, .val (.long p2), .second, .val (.long p3), .second, .val (.long p4), .second, .val (.int p5), .val (.int kq), .val (.long tt), .second, .val (.long sa), .second, .unset, .unset, .unset, .unset, .unset, .unset, .unset, .unset, .unset, .unset, .unset, .unset, .unset, .unset, .unset, .unset, .unset, .unset, .unset, .unset] [(.long sb)])
  refine OwnGo.st (fun _ kk => XS.lstore X242.here hx rfl (hb hby at_50) rfl (l' := #[.val (.long p1), .second, .val (.long p2), .second, .val (.long p3), .second, .val (.long p4), .second, .val (.int p5), .val (.int kq), .val (.long tt), .second, .val (.long sa), .second, .val (.long sb), .second, .unset, .unset, .unset, .unset, .unset, .unset, .unset, .unset, .unset, .unset, .unset, .unset, .unset, .unset, .unset, .unset, .unset, .unset]) rfl kk) ?_
  show OwnGo p e below s _ _ _ T242 (mkF m 52 #[.val (.long p1), .second, .val (.long p2), .second, .val (.long p3), .second, .val (.long p4), .second, .val (.int p5), .val (.int kq), .val (.long tt), .second, .val (.long sa), .second, .val (.long sb), .second, .unset, .unset, .unset, .unset, .unset, .unset, .unset, .unset, .unset, .unset, .unset, .unset, .unset, .unset, .unset, .unset, .unset, .unset] [])
  refine OwnGo.st (fun _ kk => XS.lload X242.here hx rfl (hb hby at_52) rfl  kk) ?_
  show OwnGo p e below s _ _ _ T242 (mkF m 54 #[.val (.long p1), .second, .val (.long p2), .second, .val (.long p3), .second, .val (.long p4), .second, .val (.int p5), .val (.int kq), .val (.long tt), .second, .val (.long sa), .second, .val (.long sb), .second, .unset, .unset, .unset, .unset, .unset, .unset, .unset, .unset, .unset, .unset, .unset, .unset, .unset, .unset, .unset, .unset, .unset, .unset] [(.long p3)])
  obtain ⟨_, _, ⟨T243, L243, k243, n243⟩, -, X243, ⟨Lc243, hQ243, l243, y243, z243⟩, st243⟩ := Jvm.LawKit.callS X242 hx (y := (⟨"com/example/utsatt/utsatt/KeyHashesRemovePinLaw", "st", "(J)J"⟩ : MethodName)) hown (mvT hZ (hw _ (List.mem_of_getElem? (i := 0) rfl))) (mvT hZ (hw _ (List.mem_of_getElem? (i := 1) rfl))) (mvT hZ (hw _ (List.mem_of_getElem? (i := 2) rfl))) (mvT hZ (hw _ (List.mem_of_getElem? (i := 3) rfl))) (by decide) (backOf (W := 0) (rmnrm l Z a0 hw [] p3 h0 n0 Z_ ) hZ (hw _ (List.mem_of_getElem? (i := 3) rfl)) (hw _ (List.mem_of_getElem? (i := 2) rfl)) (by decide) (by decide)) (g := (mkF m 54 #[.val (.long p1), .second, .val (.long p2), .second, .val (.long p3), .second, .val (.long p4), .second, .val (.int p5), .val (.int kq), .val (.long tt), .second, .val (.long sa), .second, .val (.long sb), .second, .unset, .unset, .unset, .unset, .unset, .unset, .unset, .unset, .unset, .unset, .unset, .unset, .unset, .unset, .unset, .unset, .unset, .unset] [(.long p3)])) rfl (by rw [hml]; rfl) (argsL := [(.long p3)]) (rest := []) (lenOf pd_2 rfl) rfl (by show 2 * 0 + _ ≤ _; exact Nat.le_of_eq rfl) (hb hby at_54) (fun _ _ => ⟨rfl, e242, (by decide : 0 + 0 ≤ _), (by decide : 0 + 0 ≤ _)⟩)
  dsimp only [Pt.U, Pt.locs, Pt.cells, Pt.slots] at X243 l243 y243 z243 st243 hQ243
  subst l243 y243 z243
  obtain ⟨rfl, N243q, e243⟩ := hQ243
  have N243 := Fr.app N242 N243q
  refine OwnGo.st st243 ?_
  show OwnGo p e below s _ _ _ T243 (mkF m 57 #[.val (.long p1), .second, .val (.long p2), .second, .val (.long p3), .second, .val (.long p4), .second, .val (.int p5), .val (.int kq), .val (.long tt), .second, .val (.long sa), .second, .val (.long sb), .second, .unset, .unset, .unset, .unset, .unset, .unset, .unset, .unset, .unset, .unset, .unset, .unset, .unset, .unset, .unset, .unset, .unset, .unset] [(.long (own_st p3))])
  obtain ⟨sc, hsc⟩ : ∃ z : Int64, z = (own_st p3) := ⟨_, rfl⟩
  rw [← hsc]
  show OwnGo p e below s _ _ _ T243 (mkF m 57 #[.val (.long p1), .second, .val (.long p2), .second, .val (.long p3), .second, .val (.long p4), .second, .val (.int p5), .val (.int kq), .val (.long tt), .second, .val (.long sa), .second, .val (.long sb), .second, .unset, .unset, .unset, .unset, .unset, .unset, .unset, .unset, .unset, .unset, .unset, .unset, .unset, .unset, .unset, .unset, .unset, .unset] [(.long sc)])
  refine OwnGo.st (fun _ kk => XS.lstore X243.here hx rfl (hb hby at_57) rfl (l' := #[.val (.long p1), .second, .val (.long p2), .second, .val (.long p3), .second, .val (.long p4), .second, .val (.int p5), .val (.int kq), .val (.long tt), .second, .val (.long sa), .second, .val (.long sb), .second, .val (.long sc), .second, .unset, .unset, .unset, .unset, .unset, .unset, .unset, .unset, .unset, .unset, .unset, .unset, .unset, .unset, .unset, .unset]) rfl kk) ?_
  show OwnGo p e below s _ _ _ T243 (mkF m 59 #[.val (.long p1), .second, .val (.long p2), .second, .val (.long p3), .second, .val (.long p4), .second, .val (.int p5), .val (.int kq), .val (.long tt), .second, .val (.long sa), .second, .val (.long sb), .second, .val (.long sc), .second, .unset, .unset, .unset, .unset, .unset, .unset, .unset, .unset, .unset, .unset, .unset, .unset, .unset, .unset, .unset, .unset] [])
  refine OwnGo.st (fun _ kk => XS.lload X243.here hx rfl (hb hby at_59) rfl  kk) ?_
  show OwnGo p e below s _ _ _ T243 (mkF m 61 #[.val (.long p1), .second, .val (.long p2), .second, .val (.long p3), .second, .val (.long p4), .second, .val (.int p5), .val (.int kq), .val (.long tt), .second, .val (.long sa), .second, .val (.long sb), .second, .val (.long sc), .second, .unset, .unset, .unset, .unset, .unset, .unset, .unset, .unset, .unset, .unset, .unset, .unset, .unset, .unset, .unset, .unset] [(.long tt)])
  obtain ⟨_, _, ⟨T244, L244, k244, n244⟩, -, X244, ⟨Lc244, hQ244, l244, y244, z244⟩, st244⟩ := Jvm.LawKit.callS X243 hx (y := (⟨"com/example/utsatt/utsatt/KeyHashesRemovePinLaw", "st", "(J)J"⟩ : MethodName)) hown (mvT hZ (hw _ (List.mem_of_getElem? (i := 0) rfl))) (mvT hZ (hw _ (List.mem_of_getElem? (i := 1) rfl))) (mvT hZ (hw _ (List.mem_of_getElem? (i := 2) rfl))) (mvT hZ (hw _ (List.mem_of_getElem? (i := 3) rfl))) (by decide) (backOf (W := 0) (rmnrm l Z a0 hw [] tt h0 n0 Z_ ) hZ (hw _ (List.mem_of_getElem? (i := 3) rfl)) (hw _ (List.mem_of_getElem? (i := 2) rfl)) (by decide) (by decide)) (g := (mkF m 61 #[.val (.long p1), .second, .val (.long p2), .second, .val (.long p3), .second, .val (.long p4), .second, .val (.int p5), .val (.int kq), .val (.long tt), .second, .val (.long sa), .second, .val (.long sb), .second, .val (.long sc), .second, .unset, .unset, .unset, .unset, .unset, .unset, .unset, .unset, .unset, .unset, .unset, .unset, .unset, .unset, .unset, .unset] [(.long tt)])) rfl (by rw [hml]; rfl) (argsL := [(.long tt)]) (rest := []) (lenOf pd_2 rfl) rfl (by show 2 * 0 + _ ≤ _; exact Nat.le_of_eq rfl) (hb hby at_61) (fun _ _ => ⟨rfl, e243, (by decide : 0 + 0 ≤ _), (by decide : 0 + 0 ≤ _)⟩)
  dsimp only [Pt.U, Pt.locs, Pt.cells, Pt.slots] at X244 l244 y244 z244 st244 hQ244
  subst l244 y244 z244
  obtain ⟨rfl, N244q, e244⟩ := hQ244
  have N244 := Fr.app N243 N244q
  refine OwnGo.st st244 ?_
  show OwnGo p e below s _ _ _ T244 (mkF m 64 #[.val (.long p1), .second, .val (.long p2), .second, .val (.long p3), .second, .val (.long p4), .second, .val (.int p5), .val (.int kq), .val (.long tt), .second, .val (.long sa), .second, .val (.long sb), .second, .val (.long sc), .second, .unset, .unset, .unset, .unset, .unset, .unset, .unset, .unset, .unset, .unset, .unset, .unset, .unset, .unset, .unset, .unset] [(.long (own_st tt))])
  obtain ⟨sx, hsx⟩ : ∃ z : Int64, z = (own_st tt) := ⟨_, rfl⟩
  rw [← hsx]
  show OwnGo p e below s _ _ _ T244 (mkF m 64 #[.val (.long p1), .second, .val (.long p2), .second, .val (.long p3), .second, .val (.long p4), .second, .val (.int p5), .val (.int kq), .val (.long tt), .second, .val (.long sa), .second, .val (.long sb), .second, .val (.long sc), .second, .unset, .unset, .unset, .unset, .unset, .unset, .unset, .unset, .unset, .unset, .unset, .unset, .unset, .unset, .unset, .unset] [(.long sx)])
  refine OwnGo.st (fun _ kk => XS.lstore X244.here hx rfl (hb hby at_64) rfl (l' := #[.val (.long p1), .second, .val (.long p2), .second, .val (.long p3), .second, .val (.long p4), .second, .val (.int p5), .val (.int kq), .val (.long tt), .second, .val (.long sa), .second, .val (.long sb), .second, .val (.long sc), .second, .val (.long sx), .second, .unset, .unset, .unset, .unset, .unset, .unset, .unset, .unset, .unset, .unset, .unset, .unset, .unset, .unset]) rfl kk) ?_
  show OwnGo p e below s _ _ _ T244 (mkF m 66 #[.val (.long p1), .second, .val (.long p2), .second, .val (.long p3), .second, .val (.long p4), .second, .val (.int p5), .val (.int kq), .val (.long tt), .second, .val (.long sa), .second, .val (.long sb), .second, .val (.long sc), .second, .val (.long sx), .second, .unset, .unset, .unset, .unset, .unset, .unset, .unset, .unset, .unset, .unset, .unset, .unset, .unset, .unset] [])
  refine OwnGo.st (fun _ kk => XS.lload X244.here hx rfl (hb hby at_66) rfl  kk) ?_
  show OwnGo p e below s _ _ _ T244 (mkF m 68 #[.val (.long p1), .second, .val (.long p2), .second, .val (.long p3), .second, .val (.long p4), .second, .val (.int p5), .val (.int kq), .val (.long tt), .second, .val (.long sa), .second, .val (.long sb), .second, .val (.long sc), .second, .val (.long sx), .second, .unset, .unset, .unset, .unset, .unset, .unset, .unset, .unset, .unset, .unset, .unset, .unset, .unset, .unset] [(.long sb)])
  refine OwnGo.st (fun _ kk => XS.lload X244.here hx rfl (hb hby at_68) rfl  kk) ?_
  show OwnGo p e below s _ _ _ T244 (mkF m 70 #[.val (.long p1), .second, .val (.long p2), .second, .val (.long p3), .second, .val (.long p4), .second, .val (.int p5), .val (.int kq), .val (.long tt), .second, .val (.long sa), .second, .val (.long sb), .second, .val (.long sc), .second, .val (.long sx), .second, .unset, .unset, .unset, .unset, .unset, .unset, .unset, .unset, .unset, .unset, .unset, .unset, .unset, .unset] [(.long sa), (.long sb)])
  refine OwnGo.st (fun _ kk => XS.lcmp X244.here hx rfl (hb hby at_70) rfl kk) ?_
  show OwnGo p e below s _ _ _ T244 (mkF m 71 #[.val (.long p1), .second, .val (.long p2), .second, .val (.long p3), .second, .val (.long p4), .second, .val (.int p5), .val (.int kq), .val (.long tt), .second, .val (.long sa), .second, .val (.long sb), .second, .val (.long sc), .second, .val (.long sx), .second, .unset, .unset, .unset, .unset, .unset, .unset, .unset, .unset, .unset, .unset, .unset, .unset, .unset, .unset] [(.int (lcmpW sb sa))])
  by_cases e1 : sb = sa
  · refine OwnGo.st (fun _ kk => XS.ifYes X244.here hx rfl (pc0 := 71) (pc' := 78) rfl (hb hby at_71) rfl ((if0 _ _).trans (teq (((lw_eq _ _).2 e1) : (lcmpW sb sa) = (0 : Int32))).1) (by decide) (by decide) kk) ?_
    show OwnGo p e below s _ _ _ T244 (mkF m 78 #[.val (.long p1), .second, .val (.long p2), .second, .val (.long p3), .second, .val (.long p4), .second, .val (.int p5), .val (.int kq), .val (.long tt), .second, .val (.long sa), .second, .val (.long sb), .second, .val (.long sc), .second, .val (.long sx), .second, .unset, .unset, .unset, .unset, .unset, .unset, .unset, .unset, .unset, .unset, .unset, .unset, .unset, .unset] [])
    refine OwnGo.st (fun _ kk => XS.iconst X244.here hx rfl (hb hby at_78) kk) ?_
    show OwnGo p e below s _ _ _ T244 (mkF m 79 #[.val (.long p1), .second, .val (.long p2), .second, .val (.long p3), .second, .val (.long p4), .second, .val (.int p5), .val (.int kq), .val (.long tt), .second, .val (.long sa), .second, .val (.long sb), .second, .val (.long sc), .second, .val (.long sx), .second, .unset, .unset, .unset, .unset, .unset, .unset, .unset, .unset, .unset, .unset, .unset, .unset, .unset, .unset] [(.int (0 : Int32))])
    refine OwnGo.st (fun _ kk => XS.istore X244.here hx rfl (hb hby at_79) rfl (l' := #[.val (.long p1), .second, .val (.long p2), .second, .val (.long p3), .second, .val (.long p4), .second, .val (.int p5), .val (.int kq), .val (.long tt), .second, .val (.long sa), .second, .val (.long sb), .second, .val (.long sc), .second, .val (.long sx), .second, .val (.int (0 : Int32)), .unset, .unset, .unset, .unset, .unset, .unset, .unset, .unset, .unset, .unset, .unset, .unset, .unset]) rfl kk) ?_
    show OwnGo p e below s _ _ _ T244 (mkF m 81 #[.val (.long p1), .second, .val (.long p2), .second, .val (.long p3), .second, .val (.long p4), .second, .val (.int p5), .val (.int kq), .val (.long tt), .second, .val (.long sa), .second, .val (.long sb), .second, .val (.long sc), .second, .val (.long sx), .second, .val (.int (0 : Int32)), .unset, .unset, .unset, .unset, .unset, .unset, .unset, .unset, .unset, .unset, .unset, .unset, .unset] [])
    exact sg81 p1 p2 p3 p4 p5 tt sa sb sc sx kq _ h0 n0 hw X244 hx hby hml hret hlk hown hnm hZ e244 N244 Z_ hsa hsb hsc hsx (own_bit0 (fun q => q e1)).symm
  · refine OwnGo.st (fun _ kk => XS.ifNo X244.here hx rfl (hb hby at_71) rfl ((if0 _ _).trans (feq ((fun q => e1 ((lw_eq _ _).1 q)) : ¬ ((lcmpW sb sa) = (0 : Int32)))).1) kk) ?_
    show OwnGo p e below s _ _ _ T244 (mkF m 74 #[.val (.long p1), .second, .val (.long p2), .second, .val (.long p3), .second, .val (.long p4), .second, .val (.int p5), .val (.int kq), .val (.long tt), .second, .val (.long sa), .second, .val (.long sb), .second, .val (.long sc), .second, .val (.long sx), .second, .unset, .unset, .unset, .unset, .unset, .unset, .unset, .unset, .unset, .unset, .unset, .unset, .unset, .unset] [])
    refine OwnGo.st (fun _ kk => XS.iconst X244.here hx rfl (hb hby at_74) kk) ?_
    show OwnGo p e below s _ _ _ T244 (mkF m 75 #[.val (.long p1), .second, .val (.long p2), .second, .val (.long p3), .second, .val (.long p4), .second, .val (.int p5), .val (.int kq), .val (.long tt), .second, .val (.long sa), .second, .val (.long sb), .second, .val (.long sc), .second, .val (.long sx), .second, .unset, .unset, .unset, .unset, .unset, .unset, .unset, .unset, .unset, .unset, .unset, .unset, .unset, .unset] [(.int (1 : Int32))])
    refine OwnGo.st (fun _ kk => XS.goto X244.here hx rfl (pc0 := 75) (pc' := 79) rfl (hb hby at_75) (by decide) (by decide) kk) ?_
    show OwnGo p e below s _ _ _ T244 (mkF m 79 #[.val (.long p1), .second, .val (.long p2), .second, .val (.long p3), .second, .val (.long p4), .second, .val (.int p5), .val (.int kq), .val (.long tt), .second, .val (.long sa), .second, .val (.long sb), .second, .val (.long sc), .second, .val (.long sx), .second, .unset, .unset, .unset, .unset, .unset, .unset, .unset, .unset, .unset, .unset, .unset, .unset, .unset, .unset] [(.int (1 : Int32))])
    refine OwnGo.st (fun _ kk => XS.istore X244.here hx rfl (hb hby at_79) rfl (l' := #[.val (.long p1), .second, .val (.long p2), .second, .val (.long p3), .second, .val (.long p4), .second, .val (.int p5), .val (.int kq), .val (.long tt), .second, .val (.long sa), .second, .val (.long sb), .second, .val (.long sc), .second, .val (.long sx), .second, .val (.int (1 : Int32)), .unset, .unset, .unset, .unset, .unset, .unset, .unset, .unset, .unset, .unset, .unset, .unset, .unset]) rfl kk) ?_
    show OwnGo p e below s _ _ _ T244 (mkF m 81 #[.val (.long p1), .second, .val (.long p2), .second, .val (.long p3), .second, .val (.long p4), .second, .val (.int p5), .val (.int kq), .val (.long tt), .second, .val (.long sa), .second, .val (.long sb), .second, .val (.long sc), .second, .val (.long sx), .second, .val (.int (1 : Int32)), .unset, .unset, .unset, .unset, .unset, .unset, .unset, .unset, .unset, .unset, .unset, .unset, .unset] [])
    exact sg81 p1 p2 p3 p4 p5 tt sa sb sc sx kq _ h0 n0 hw X244 hx hby hml hret hlk hown hnm hZ e244 N244 Z_ hsa hsb hsc hsx (own_bit1 e1).symm
set_option maxRecDepth 65536 in
set_option maxHeartbeats 40000000 in
theorem rm0 (l : Launch) (Z : State) (a0 : Array Value) (hw : ∀ d ∈ tables_1, d.before a0 Z = true) (ws : List Jvm.Cond) (p1 : Int64) (p2 : Int64) (p3 : Int64) (p4 : Int64) (p5 : Int32) (h0 : Heap) (n0 : Nat) (Z0 : n0 ≤ h0.size) :
    MetFree l x (head1 (Jvm.Cond.code x code maxLocals ret :: ws) room_1) (fun as_ UU => as_ = #[(.long p1), (.long p2), (.long p3), (.long p4), (.int p5)] ∧ Z.Warmed39 UU.vm ∧ UU.heap = h0) (fun _ _ _ _ _ => True) (fun _ UU oo UU' => ∃ vv LL, oo = .returned vv ∧ (Q0 Z p1 p2 p3 p4 p5 h0 n0) vv UU'.heap LL ∧ FrameEnd UU oo UU' LL room_1.cells room_1.slots) := by
  refine own_met (plainFor_of_name pn_1) ?_
  intro p e s m below meth c s₁ X0 hx hby hml hret hlk hown hnm hZ e0
  have N0 := Fr.nil n0
  have Z_ := Z0
  refine OwnGo.cast (ef_0 m p1 p2 p3 p4 p5) ?_
  have hml : c.maxLocals = 34 := hml
  show OwnGo p e below s _ _ _ s₁ (mkF m 0 #[.val (.long p1), .second, .val (.long p2), .second, .val (.long p3), .second, .val (.long p4), .second, .val (.int p5), .unset, .unset, .unset, .unset, .unset, .unset, .unset, .unset, .unset, .unset, .unset, .unset, .unset, .unset, .unset, .unset, .unset, .unset, .unset, .unset, .unset, .unset, .unset, .unset, .unset] [])
  refine OwnGo.st (fun _ kk => XS.iload X0.here hx rfl (hb hby at_0) rfl  kk) ?_
  show OwnGo p e below s _ _ _ s₁ (mkF m 2 #[.val (.long p1), .second, .val (.long p2), .second, .val (.long p3), .second, .val (.long p4), .second, .val (.int p5), .unset, .unset, .unset, .unset, .unset, .unset, .unset, .unset, .unset, .unset, .unset, .unset, .unset, .unset, .unset, .unset, .unset, .unset, .unset, .unset, .unset, .unset, .unset, .unset, .unset] [(.int p5)])
  refine OwnGo.st (fun _ kk => XS.iconst X0.here hx rfl (hb hby at_2) kk) ?_
  show OwnGo p e below s _ _ _ s₁ (mkF m 3 #[.val (.long p1), .second, .val (.long p2), .second, .val (.long p3), .second, .val (.long p4), .second, .val (.int p5), .unset, .unset, .unset, .unset, .unset, .unset, .unset, .unset, .unset, .unset, .unset, .unset, .unset, .unset, .unset, .unset, .unset, .unset, .unset, .unset, .unset, .unset, .unset, .unset, .unset] [(.int (3 : Int32)), (.int p5)])
  refine OwnGo.st (fun _ kk => XS.iand X0.here hx rfl (hb hby at_3) rfl kk) ?_
  show OwnGo p e below s _ _ _ s₁ (mkF m 4 #[.val (.long p1), .second, .val (.long p2), .second, .val (.long p3), .second, .val (.long p4), .second, .val (.int p5), .unset, .unset, .unset, .unset, .unset, .unset, .unset, .unset, .unset, .unset, .unset, .unset, .unset, .unset, .unset, .unset, .unset, .unset, .unset, .unset, .unset, .unset, .unset, .unset, .unset] [(.int (p5 &&& (3 : Int32)))])
  obtain ⟨kq, hkq⟩ : ∃ z : Int32, z = (p5 &&& (3 : Int32)) := ⟨_, rfl⟩
  rw [← hkq]
  show OwnGo p e below s _ _ _ s₁ (mkF m 4 #[.val (.long p1), .second, .val (.long p2), .second, .val (.long p3), .second, .val (.long p4), .second, .val (.int p5), .unset, .unset, .unset, .unset, .unset, .unset, .unset, .unset, .unset, .unset, .unset, .unset, .unset, .unset, .unset, .unset, .unset, .unset, .unset, .unset, .unset, .unset, .unset, .unset, .unset] [(.int kq)])
  refine OwnGo.st (fun _ kk => XS.istore X0.here hx rfl (hb hby at_4) rfl (l' := #[.val (.long p1), .second, .val (.long p2), .second, .val (.long p3), .second, .val (.long p4), .second, .val (.int p5), .val (.int kq), .unset, .unset, .unset, .unset, .unset, .unset, .unset, .unset, .unset, .unset, .unset, .unset, .unset, .unset, .unset, .unset, .unset, .unset, .unset, .unset, .unset, .unset, .unset, .unset]) rfl kk) ?_
  show OwnGo p e below s _ _ _ s₁ (mkF m 6 #[.val (.long p1), .second, .val (.long p2), .second, .val (.long p3), .second, .val (.long p4), .second, .val (.int p5), .val (.int kq), .unset, .unset, .unset, .unset, .unset, .unset, .unset, .unset, .unset, .unset, .unset, .unset, .unset, .unset, .unset, .unset, .unset, .unset, .unset, .unset, .unset, .unset, .unset, .unset] [])
  refine OwnGo.st (fun _ kk => XS.iload X0.here hx rfl (hb hby at_6) rfl  kk) ?_
  show OwnGo p e below s _ _ _ s₁ (mkF m 8 #[.val (.long p1), .second, .val (.long p2), .second, .val (.long p3), .second, .val (.long p4), .second, .val (.int p5), .val (.int kq), .unset, .unset, .unset, .unset, .unset, .unset, .unset, .unset, .unset, .unset, .unset, .unset, .unset, .unset, .unset, .unset, .unset, .unset, .unset, .unset, .unset, .unset, .unset, .unset] [(.int kq)])
  by_cases k0 : kq = (0 : Int32)
  · refine OwnGo.st (fun _ kk => XS.ifNo X0.here hx rfl (hb hby at_8) rfl ((if0 _ _).trans (teq (k0 : kq = (0 : Int32))).2) kk) ?_
    show OwnGo p e below s _ _ _ s₁ (mkF m 11 #[.val (.long p1), .second, .val (.long p2), .second, .val (.long p3), .second, .val (.long p4), .second, .val (.int p5), .val (.int kq), .unset, .unset, .unset, .unset, .unset, .unset, .unset, .unset, .unset, .unset, .unset, .unset, .unset, .unset, .unset, .unset, .unset, .unset, .unset, .unset, .unset, .unset, .unset, .unset] [])
    refine OwnGo.st (fun _ kk => XS.lloadN X0.here hx rfl (hb hby at_11) rfl  kk) ?_
    show OwnGo p e below s _ _ _ s₁ (mkF m 12 #[.val (.long p1), .second, .val (.long p2), .second, .val (.long p3), .second, .val (.long p4), .second, .val (.int p5), .val (.int kq), .unset, .unset, .unset, .unset, .unset, .unset, .unset, .unset, .unset, .unset, .unset, .unset, .unset, .unset, .unset, .unset, .unset, .unset, .unset, .unset, .unset, .unset, .unset, .unset] [(.long p1)])
    refine OwnGo.st (fun _ kk => XS.goto X0.here hx rfl (pc0 := 12) (pc' := 38) rfl (hb hby at_12) (by decide) (by decide) kk) ?_
    show OwnGo p e below s _ _ _ s₁ (mkF m 38 #[.val (.long p1), .second, .val (.long p2), .second, .val (.long p3), .second, .val (.long p4), .second, .val (.int p5), .val (.int kq), .unset, .unset, .unset, .unset, .unset, .unset, .unset, .unset, .unset, .unset, .unset, .unset, .unset, .unset, .unset, .unset, .unset, .unset, .unset, .unset, .unset, .unset, .unset, .unset] [(.long p1)])
    exact sg38 p1 p2 p3 p4 p5 p1 kq h0 n0 hw X0 hx hby hml hret hlk hown hnm hZ e0 N0 Z_
  · refine OwnGo.st (fun _ kk => XS.ifYes X0.here hx rfl (pc0 := 8) (pc' := 15) rfl (hb hby at_8) rfl ((if0 _ _).trans (feq (k0 : ¬ (kq = (0 : Int32)))).2) (by decide) (by decide) kk) ?_
    show OwnGo p e below s _ _ _ s₁ (mkF m 15 #[.val (.long p1), .second, .val (.long p2), .second, .val (.long p3), .second, .val (.long p4), .second, .val (.int p5), .val (.int kq), .unset, .unset, .unset, .unset, .unset, .unset, .unset, .unset, .unset, .unset, .unset, .unset, .unset, .unset, .unset, .unset, .unset, .unset, .unset, .unset, .unset, .unset, .unset, .unset] [])
    refine OwnGo.st (fun _ kk => XS.iload X0.here hx rfl (hb hby at_15) rfl  kk) ?_
    show OwnGo p e below s _ _ _ s₁ (mkF m 17 #[.val (.long p1), .second, .val (.long p2), .second, .val (.long p3), .second, .val (.long p4), .second, .val (.int p5), .val (.int kq), .unset, .unset, .unset, .unset, .unset, .unset, .unset, .unset, .unset, .unset, .unset, .unset, .unset, .unset, .unset, .unset, .unset, .unset, .unset, .unset, .unset, .unset, .unset, .unset] [(.int kq)])
    refine OwnGo.st (fun _ kk => XS.iconst X0.here hx rfl (hb hby at_17) kk) ?_
    show OwnGo p e below s _ _ _ s₁ (mkF m 18 #[.val (.long p1), .second, .val (.long p2), .second, .val (.long p3), .second, .val (.long p4), .second, .val (.int p5), .val (.int kq), .unset, .unset, .unset, .unset, .unset, .unset, .unset, .unset, .unset, .unset, .unset, .unset, .unset, .unset, .unset, .unset, .unset, .unset, .unset, .unset, .unset, .unset, .unset, .unset] [(.int (1 : Int32)), (.int kq)])
    by_cases k1 : kq = (1 : Int32)
    · refine OwnGo.st (fun _ kk => XS.icmpNo X0.here hx rfl (hb hby at_18) rfl (teq (k1 : kq = (1 : Int32))).2 kk) ?_
      show OwnGo p e below s _ _ _ s₁ (mkF m 21 #[.val (.long p1), .second, .val (.long p2), .second, .val (.long p3), .second, .val (.long p4), .second, .val (.int p5), .val (.int kq), .unset, .unset, .unset, .unset, .unset, .unset, .unset, .unset, .unset, .unset, .unset, .unset, .unset, .unset, .unset, .unset, .unset, .unset, .unset, .unset, .unset, .unset, .unset, .unset] [])
      refine OwnGo.st (fun _ kk => XS.lloadN X0.here hx rfl (hb hby at_21) rfl  kk) ?_
      show OwnGo p e below s _ _ _ s₁ (mkF m 22 #[.val (.long p1), .second, .val (.long p2), .second, .val (.long p3), .second, .val (.long p4), .second, .val (.int p5), .val (.int kq), .unset, .unset, .unset, .unset, .unset, .unset, .unset, .unset, .unset, .unset, .unset, .unset, .unset, .unset, .unset, .unset, .unset, .unset, .unset, .unset, .unset, .unset, .unset, .unset] [(.long p2)])
      refine OwnGo.st (fun _ kk => XS.goto X0.here hx rfl (pc0 := 22) (pc' := 38) rfl (hb hby at_22) (by decide) (by decide) kk) ?_
      show OwnGo p e below s _ _ _ s₁ (mkF m 38 #[.val (.long p1), .second, .val (.long p2), .second, .val (.long p3), .second, .val (.long p4), .second, .val (.int p5), .val (.int kq), .unset, .unset, .unset, .unset, .unset, .unset, .unset, .unset, .unset, .unset, .unset, .unset, .unset, .unset, .unset, .unset, .unset, .unset, .unset, .unset, .unset, .unset, .unset, .unset] [(.long p2)])
      exact sg38 p1 p2 p3 p4 p5 p2 kq h0 n0 hw X0 hx hby hml hret hlk hown hnm hZ e0 N0 Z_
    · refine OwnGo.st (fun _ kk => XS.icmpYes X0.here hx rfl (pc0 := 18) (pc' := 25) rfl (hb hby at_18) rfl (feq (k1 : ¬ (kq = (1 : Int32)))).2 (by decide) (by decide) kk) ?_
      show OwnGo p e below s _ _ _ s₁ (mkF m 25 #[.val (.long p1), .second, .val (.long p2), .second, .val (.long p3), .second, .val (.long p4), .second, .val (.int p5), .val (.int kq), .unset, .unset, .unset, .unset, .unset, .unset, .unset, .unset, .unset, .unset, .unset, .unset, .unset, .unset, .unset, .unset, .unset, .unset, .unset, .unset, .unset, .unset, .unset, .unset] [])
      refine OwnGo.st (fun _ kk => XS.iload X0.here hx rfl (hb hby at_25) rfl  kk) ?_
      show OwnGo p e below s _ _ _ s₁ (mkF m 27 #[.val (.long p1), .second, .val (.long p2), .second, .val (.long p3), .second, .val (.long p4), .second, .val (.int p5), .val (.int kq), .unset, .unset, .unset, .unset, .unset, .unset, .unset, .unset, .unset, .unset, .unset, .unset, .unset, .unset, .unset, .unset, .unset, .unset, .unset, .unset, .unset, .unset, .unset, .unset] [(.int kq)])
      refine OwnGo.st (fun _ kk => XS.iconst X0.here hx rfl (hb hby at_27) kk) ?_
      show OwnGo p e below s _ _ _ s₁ (mkF m 28 #[.val (.long p1), .second, .val (.long p2), .second, .val (.long p3), .second, .val (.long p4), .second, .val (.int p5), .val (.int kq), .unset, .unset, .unset, .unset, .unset, .unset, .unset, .unset, .unset, .unset, .unset, .unset, .unset, .unset, .unset, .unset, .unset, .unset, .unset, .unset, .unset, .unset, .unset, .unset] [(.int (2 : Int32)), (.int kq)])
      by_cases k2 : kq = (2 : Int32)
      · refine OwnGo.st (fun _ kk => XS.icmpNo X0.here hx rfl (hb hby at_28) rfl (teq (k2 : kq = (2 : Int32))).2 kk) ?_
        show OwnGo p e below s _ _ _ s₁ (mkF m 31 #[.val (.long p1), .second, .val (.long p2), .second, .val (.long p3), .second, .val (.long p4), .second, .val (.int p5), .val (.int kq), .unset, .unset, .unset, .unset, .unset, .unset, .unset, .unset, .unset, .unset, .unset, .unset, .unset, .unset, .unset, .unset, .unset, .unset, .unset, .unset, .unset, .unset, .unset, .unset] [])
        refine OwnGo.st (fun _ kk => XS.lload X0.here hx rfl (hb hby at_31) rfl  kk) ?_
        show OwnGo p e below s _ _ _ s₁ (mkF m 33 #[.val (.long p1), .second, .val (.long p2), .second, .val (.long p3), .second, .val (.long p4), .second, .val (.int p5), .val (.int kq), .unset, .unset, .unset, .unset, .unset, .unset, .unset, .unset, .unset, .unset, .unset, .unset, .unset, .unset, .unset, .unset, .unset, .unset, .unset, .unset, .unset, .unset, .unset, .unset] [(.long p3)])
        refine OwnGo.st (fun _ kk => XS.goto X0.here hx rfl (pc0 := 33) (pc' := 38) rfl (hb hby at_33) (by decide) (by decide) kk) ?_
        show OwnGo p e below s _ _ _ s₁ (mkF m 38 #[.val (.long p1), .second, .val (.long p2), .second, .val (.long p3), .second, .val (.long p4), .second, .val (.int p5), .val (.int kq), .unset, .unset, .unset, .unset, .unset, .unset, .unset, .unset, .unset, .unset, .unset, .unset, .unset, .unset, .unset, .unset, .unset, .unset, .unset, .unset, .unset, .unset, .unset, .unset] [(.long p3)])
        exact sg38 p1 p2 p3 p4 p5 p3 kq h0 n0 hw X0 hx hby hml hret hlk hown hnm hZ e0 N0 Z_
      · refine OwnGo.st (fun _ kk => XS.icmpYes X0.here hx rfl (pc0 := 28) (pc' := 36) rfl (hb hby at_28) rfl (feq (k2 : ¬ (kq = (2 : Int32)))).2 (by decide) (by decide) kk) ?_
        show OwnGo p e below s _ _ _ s₁ (mkF m 36 #[.val (.long p1), .second, .val (.long p2), .second, .val (.long p3), .second, .val (.long p4), .second, .val (.int p5), .val (.int kq), .unset, .unset, .unset, .unset, .unset, .unset, .unset, .unset, .unset, .unset, .unset, .unset, .unset, .unset, .unset, .unset, .unset, .unset, .unset, .unset, .unset, .unset, .unset, .unset] [])
        refine OwnGo.st (fun _ kk => XS.lload X0.here hx rfl (hb hby at_36) rfl  kk) ?_
        show OwnGo p e below s _ _ _ s₁ (mkF m 38 #[.val (.long p1), .second, .val (.long p2), .second, .val (.long p3), .second, .val (.long p4), .second, .val (.int p5), .val (.int kq), .unset, .unset, .unset, .unset, .unset, .unset, .unset, .unset, .unset, .unset, .unset, .unset, .unset, .unset, .unset, .unset, .unset, .unset, .unset, .unset, .unset, .unset, .unset, .unset] [(.long p4)])
        exact sg38 p1 p2 p3 p4 p5 p4 kq h0 n0 hw X0 hx hby hml hret hlk hown hnm hZ e0 N0 Z_
set_option maxRecDepth 65536 in
set_option maxHeartbeats 40000000 in
theorem comes_1 {Post : Tables → Env → Array Value → State → Outcome → State → Prop} (hpost : ∀ tb e args s v u, (limb_1_1.after args s (.returned v) u = true ∧ limb_1_2.after args s (.returned v) u = true ∧ True) → FrameEnd s (.returned v) u (Jvm.fieldLocs frame_1_writes args s ++ Jvm.arrayLocs frame_1_arrays args s ++ Jvm.staticLocs frame_1_statics s) 16 128 → Post tb e args s (.returned v) u) :
    ArmFor flags0 classFile x code maxLocals ret World_1 tables_1 room_1 Calls_1 rest_1 Pre_1 Post := by
  intro l hfl _ _ p e ha hc hk s m args below hf hA hF happ hP
  obtain ⟨hcalls, hrest, hpre⟩ := hP
  obtain ⟨-, -, -, hnamed, -, -, -, hat⟩ := (Spec.applies_iff hf).mp happ
  obtain ⟨hg, hn⟩ := and_e (Cond.before_iff.mp (show (Jvm.Cond.and given_1 narrow_1).before args s = true from hpre))
  obtain ⟨hcnt, hg⟩ := and_e hg
  obtain ⟨hg0, hg⟩ := and_e hg
  obtain ⟨hg1, hg⟩ := and_e hg
  obtain ⟨hg2, hg⟩ := and_e hg
  obtain ⟨hg3, hg⟩ := and_e hg
  have hg4 := hg
  obtain ⟨w0, w1, w2, w3, w4, rfl⟩ : ∃ w0 w1 w2 w3 w4 : Value, args = #[w0, w1, w2, w3, w4] := by
    have hs : args.size = 5 := by simpa [Cond.value, given_1] using hcnt
    obtain ⟨L⟩ := args
    match L, hs with
    | [w0, w1, w2, w3, w4], _ => exact ⟨w0, w1, w2, w3, w4, rfl⟩
  have hw := fun d (hd : d ∈ tables_1) => atoms_spec (ws := Jvm.Cond.code x code maxLocals ret :: tables_1) hat d (List.mem_cons_of_mem _ hd)
  have hfit : Fit s := fun {y c} hc i hi => by
    obtain ⟨ha, rfl⟩ := Array.getElem?_eq_some_iff.mp hc
    have q := List.all_eq_true.mp ((Array.all_eq_true_iff_forall_mem.mp hF) _ (Array.getElem_mem ha)) i (List.mem_range.mpr hi)
    simpa [Array.getElem?_eq_getElem hi] using q
  obtain ⟨i0, ei0⟩ := isL_v hg0
  obtain rfl : w0 = (.long i0) := Option.some.inj ei0
  obtain ⟨i1, ei1⟩ := isL_v hg1
  obtain rfl : w1 = (.long i1) := Option.some.inj ei1
  obtain ⟨i2, ei2⟩ := isL_v hg2
  obtain rfl : w2 = (.long i2) := Option.some.inj ei2
  obtain ⟨i3, ei3⟩ := isL_v hg3
  obtain rfl : w3 = (.long i3) := Option.some.inj ei3
  obtain ⟨i4, ei4⟩ := is_v hg4
  obtain rfl : w4 = (.int i4) := Option.some.inj ei4
  obtain ⟨n, o, h1, h2, h3, _, L, rfl, ⟨rfl, N⟩, hq⟩ := rm0 l s _ hw tables_1 i0 i1 i2 i3 i4 s.heap s.heap.size (Nat.le_refl _)   p e ha hc hk s m _ below hf ((Spec.applies_iff_loose hf).mp happ).1 ⟨rfl, State.Warmed39.refl s, rfl⟩ trivial
  refine ⟨n, _, h1, h2, h3, hpost _ _ _ _ _ _ ⟨Cond.after_iff.mpr rfl, Cond.after_iff.mpr (eq_i res_at (Term.int_eval (1)) rfl), trivial⟩ ⟨hq.1, hq.2.1, (hq.2.2.sift fun y hy => Or.inr (N y hy)).mono (by decide) (by decide)⟩⟩
theorem main_1_1 : Claimed_1_1 := comes_1 fun _ _ _ _ _ _ h hF => ⟨h.1, hF⟩
theorem main_1_2 : Claimed_1_2 := comes_1 fun _ _ _ _ _ _ h hF => ⟨h.2.1, hF⟩
end Jvm.Pilot.@@N@@
namespace Jvm.Pilot.@@N@@
open Jvm Jvm.ClassFile Sem Op Lib Jvm.Free Jvm.Stand Jvm.Pilot.@@N@@.Jvm.D
/-! MADE BY PROGRAM (witnessworld.py) out of the Statement's table words and the real class files: 11 classes; the members and pool entries that the words name. The judged class is class 1, her method 2. -/
namespace start1
open Jvm.ClassFile
def u (s : String) : CpInfo := .utf8 (stringToUtf16 s)
/-- a pool by its gaps: so many unusable entries, then the entry; so many at the end -/
def gap : Nat → List CpInfo → List CpInfo
  | 0, r => r
  | n + 1, r => .unusable :: gap n r
def poolList (es : List (Nat × CpInfo)) (last : Nat) : List CpInfo := es.foldr (fun e r => gap e.1 (e.2 :: r)) (gap last [])
def pool (es : List (Nat × CpInfo)) (last : Nat) : Array CpInfo := ⟨poolList es last⟩
def fileOf (pool : Array CpInfo) (this : Nat) (attrs : Array Attribute := #[]) (ms : Array MethodInfo := #[]) (fl : Nat := 33) (sup : Nat := 0) (ifs : Array Nat := #[]) (fds : Array FieldInfo := #[]) : ClassFile where
  minorVersion := 0
  majorVersion := 65
  constantPool := pool
  accessFlags := fl
  thisClass := this
  superClass := sup
  interfaces := ifs
  fields := fds
  methods := ms
  attributes := attrs
def plain (name : String) (sup : Option ClassId) : Class where
  name := name
  kind := .ordinary
  loader := none
  accessFlags := 33
  super := sup
  interfaces := #[]
  cf := none
  fields := #[]
  methods := #[]
  instanceTypes := #[]
  staticTypes := #[]
  resolved := #[]
  callSites := []
  init := .initialized
  statics := none
  mirror := none

def pool0 : Array CpInfo := pool [(5, u "<init>"), (0, u "()V"), (1, .class_ 10), (1, u "java/lang/Object")] 113

def k0c0 : Code := { maxStack := 0, maxLocals := 1, code := object_method_1_code, exceptionTable := #[], attributes := #[] }
def k0m0 : Method := { name := "<init>", desc := "()V", sig := { parameters := [], returnType := none }, accessFlags := 1, code := some k0c0 }
/-- java/lang/Object -/
def k0 : Class := { plain "java/lang/Object" none with
  accessFlags := 33
  interfaces := #[]
  cf := some (fileOf pool0 8 #[] #[{ accessFlags := 1, nameIndex := 5, descriptorIndex := 6, attributes := #[] }] 33 0 #[] #[])
  fields := #[]
  methods := #[k0m0]
  instanceTypes := #[]
  staticTypes := #[]
  resolved := Array.replicate 124 none
  statics := none }

def pool1 : Array CpInfo := pool [(2, .class_ 4), (0, .nameAndType 5 6), (0, u "java/lang/Object"), (0, u "<init>"), (0, u "()V"), (0, .methodref 8 9), (0, .class_ 10), (0, .nameAndType 11 12), (0, u "com/example/utsatt/utsatt/KeyHashesRemovePinLaw"), (0, u "st"), (0, u "(J)J"), (0, .class_ 14), (0, u "com/example/utsatt/utsatt/KeyHashes"), (0, .methodref 13 3), (0, .methodref 13 17), (0, .nameAndType 18 19), (0, u "add"), (0, u "(J)Z"), (0, .methodref 13 21), (0, .nameAndType 22 19), (0, u "remove"), (0, .methodref 13 24), (0, .nameAndType 25 26), (0, u "size"), (0, u "()I"), (3, u "law"), (0, u "(JJJJI)Z")] 2

def k1m0 : Method := { name := "<init>", desc := "()V", sig := { parameters := [], returnType := none }, accessFlags := 1, code := none }
def k1c1 : Code := { maxStack := 4, maxLocals := 2, code := method_2_code, exceptionTable := #[], attributes := #[] }
def k1m1 : Method := { name := "st", desc := "(J)J", sig := { parameters := [.long], returnType := some .long }, accessFlags := 10, code := some k1c1 }
def k1c2 : Code := { maxStack := 5, maxLocals := 34, code := code, exceptionTable := #[], attributes := #[] }
def k1m2 : Method := { name := "law", desc := "(JJJJI)Z", sig := { parameters := [.long, .long, .long, .long, .int], returnType := some .boolean }, accessFlags := 9, code := some k1c2 }
/-- com/example/utsatt/utsatt/KeyHashesRemovePinLaw -/
def k1 : Class := { plain "com/example/utsatt/utsatt/KeyHashesRemovePinLaw" (some 0) with
  accessFlags := 49
  interfaces := #[]
  cf := some (fileOf pool1 8 #[] #[{ accessFlags := 1, nameIndex := 5, descriptorIndex := 6, attributes := #[] }, { accessFlags := 10, nameIndex := 11, descriptorIndex := 12, attributes := #[] }, { accessFlags := 9, nameIndex := 30, descriptorIndex := 31, attributes := #[] }] 49 2 #[] #[])
  fields := #[]
  methods := #[k1m0, k1m1, k1m2]
  instanceTypes := #[]
  staticTypes := #[]
  resolved := Array.replicate 34 none
  statics := none }

def pool2 : Array CpInfo := pool [(1, .methodref 2 3), (0, .class_ 4), (0, .nameAndType 5 6), (0, u "java/lang/Object"), (0, u "<init>"), (0, u "()V"), (0, .class_ 8), (0, u "com/example/utsatt/utsatt/KeyHashes"), (0, .fieldref 7 10), (0, .nameAndType 11 12), (0, u "slots"), (0, u "[J"), (8, .fieldref 7 22), (0, .nameAndType 23 24), (0, u "size"), (0, u "I"), (0, .methodref 7 26), (0, .nameAndType 27 28), (0, u "stored"), (0, u "(J)J"), (0, .methodref 7 30), (0, .nameAndType 31 32), (0, u "slotOf"), (0, u "(J)I"), (0, .double 4605380978949069210), (5, .methodref 7 40), (0, .nameAndType 41 42), (0, u "next"), (0, u "(I)I"), (0, .methodref 7 44), (0, .nameAndType 45 46), (0, u "home"), (0, u "(JI)I"), (0, .double 4596373779694328218), (7, u "FREE"), (0, u "J"), (3, u "ZERO_STANDIN"), (2, u "MIN_CAPACITY"), (1, u "MAX_LOAD"), (0, u "D"), (0, u "MIN_LOAD"), (7, u "()I"), (0, u "add"), (0, u "(J)Z"), (0, u "remove")] 3

def k2c0 : Code := { maxStack := 2, maxLocals := 1, code := prog_2_method_1_code, exceptionTable := #[], attributes := #[] }
def k2m0 : Method := { name := "<init>", desc := "()V", sig := { parameters := [], returnType := none }, accessFlags := 0, code := some k2c0 }
def k2c1 : Code := { maxStack := 1, maxLocals := 1, code := prog_2_method_3_code, exceptionTable := #[], attributes := #[] }
def k2m1 : Method := { name := "size", desc := "()I", sig := { parameters := [], returnType := some .int }, accessFlags := 0, code := some k2c1 }
def k2c2 : Code := { maxStack := 6, maxLocals := 6, code := prog_2_method_4_code, exceptionTable := #[], attributes := #[] }
def k2m2 : Method := { name := "add", desc := "(J)Z", sig := { parameters := [.long], returnType := some .boolean }, accessFlags := 0, code := some k2c2 }
def k2c3 : Code := { maxStack := 6, maxLocals := 8, code := prog_2_method_5_code, exceptionTable := #[], attributes := #[] }
def k2m3 : Method := { name := "remove", desc := "(J)Z", sig := { parameters := [.long], returnType := some .boolean }, accessFlags := 0, code := some k2c3 }
def k2c4 : Code := { maxStack := 4, maxLocals := 4, code := prog_2_method_7_code, exceptionTable := #[], attributes := #[] }
def k2m4 : Method := { name := "slotOf", desc := "(J)I", sig := { parameters := [.long], returnType := some .int }, accessFlags := 2, code := some k2c4 }
def k2c5 : Code := { maxStack := 4, maxLocals := 2, code := prog_2_method_8_code, exceptionTable := #[], attributes := #[] }
def k2m5 : Method := { name := "stored", desc := "(J)J", sig := { parameters := [.long], returnType := some .long }, accessFlags := 10, code := some k2c5 }
def k2c6 : Code := { maxStack := 4, maxLocals := 3, code := prog_2_method_9_code, exceptionTable := #[], attributes := #[] }
def k2m6 : Method := { name := "home", desc := "(JI)I", sig := { parameters := [.long, .int], returnType := some .int }, accessFlags := 10, code := some k2c6 }
def k2c7 : Code := { maxStack := 2, maxLocals := 2, code := prog_2_method_10_code, exceptionTable := #[], attributes := #[] }
def k2m7 : Method := { name := "next", desc := "(I)I", sig := { parameters := [.int], returnType := some .int }, accessFlags := 2, code := some k2c7 }
/-- com/example/utsatt/utsatt/KeyHashes -/
def k2 : Class := { plain "com/example/utsatt/utsatt/KeyHashes" (some 0) with
  accessFlags := 48
  interfaces := #[]
  cf := some (fileOf pool2 7 #[] #[{ accessFlags := 0, nameIndex := 5, descriptorIndex := 6, attributes := #[] }, { accessFlags := 0, nameIndex := 23, descriptorIndex := 75, attributes := #[] }, { accessFlags := 0, nameIndex := 76, descriptorIndex := 77, attributes := #[] }, { accessFlags := 0, nameIndex := 78, descriptorIndex := 77, attributes := #[] }, { accessFlags := 2, nameIndex := 31, descriptorIndex := 32, attributes := #[] }, { accessFlags := 10, nameIndex := 27, descriptorIndex := 28, attributes := #[] }, { accessFlags := 10, nameIndex := 45, descriptorIndex := 46, attributes := #[] }, { accessFlags := 2, nameIndex := 41, descriptorIndex := 42, attributes := #[] }] 48 2 #[] #[{ accessFlags := 26, nameIndex := 55, descriptorIndex := 56, attributes := #[] }, { accessFlags := 26, nameIndex := 60, descriptorIndex := 56, attributes := #[] }, { accessFlags := 26, nameIndex := 63, descriptorIndex := 24, attributes := #[] }, { accessFlags := 26, nameIndex := 65, descriptorIndex := 66, attributes := #[] }, { accessFlags := 26, nameIndex := 67, descriptorIndex := 66, attributes := #[] }, { accessFlags := 2, nameIndex := 11, descriptorIndex := 12, attributes := #[] }, { accessFlags := 2, nameIndex := 23, descriptorIndex := 24, attributes := #[] }])
  fields := #[{ name := "FREE", type := .long, accessFlags := 26, slot := 0, constantValue := 0 }, { name := "ZERO_STANDIN", type := .long, accessFlags := 26, slot := 1, constantValue := 0 }, { name := "MIN_CAPACITY", type := .int, accessFlags := 26, slot := 2, constantValue := 0 }, { name := "MAX_LOAD", type := .double, accessFlags := 26, slot := 3, constantValue := 0 }, { name := "MIN_LOAD", type := .double, accessFlags := 26, slot := 4, constantValue := 0 }, { name := "slots", type := (.array .long), accessFlags := 2, slot := 0, constantValue := 0 }, { name := "size", type := .int, accessFlags := 2, slot := 1, constantValue := 0 }]
  methods := #[k2m0, k2m1, k2m2, k2m3, k2m4, k2m5, k2m6, k2m7]
  instanceTypes := #[(.array .long), .int]
  staticTypes := #[.long, .long, .int, .double, .double]
  resolved := Array.replicate 82 none
  statics := none }

def pool3 : Array CpInfo := pool [(1, u "java/lang/Cloneable"), (0, .class_ 1), (0, u "java/lang/Object"), (0, .class_ 3)] 3

/-- java/lang/Cloneable -/
def k3 : Class := { plain "java/lang/Cloneable" (some 0) with
  accessFlags := 1537
  interfaces := #[]
  cf := some (fileOf pool3 2 #[] #[] 1537 4 #[] #[])
  fields := #[]
  methods := #[]
  instanceTypes := #[]
  staticTypes := #[]
  resolved := Array.replicate 8 none
  statics := none }

def pool4 : Array CpInfo := pool [(1, u "java/io/Serializable"), (0, .class_ 1), (0, u "java/lang/Object"), (0, .class_ 3)] 3

/-- java/io/Serializable -/
def k4 : Class := { plain "java/io/Serializable" (some 0) with
  accessFlags := 1537
  interfaces := #[]
  cf := some (fileOf pool4 2 #[] #[] 1537 4 #[] #[])
  fields := #[]
  methods := #[]
  instanceTypes := #[]
  staticTypes := #[]
  resolved := Array.replicate 8 none
  statics := none }

/-- the primitive byte -/
def k5 : Class := { plain "byte" none with kind := .primitive 'B', accessFlags := 0x411 }
/-- [B -/
def k6 : Class := { plain "[B" (some 0) with kind := .array 5 .byte, interfaces := #[3, 4], accessFlags := 1041 }

/-- the primitive int -/
def k7 : Class := { plain "int" none with kind := .primitive 'I', accessFlags := 0x411 }
/-- [I -/
def k8 : Class := { plain "[I" (some 0) with kind := .array 7 .int, interfaces := #[3, 4], accessFlags := 1041 }

/-- the primitive long -/
def k9 : Class := { plain "long" none with kind := .primitive 'J', accessFlags := 0x411 }
/-- [J -/
def k10 : Class := { plain "[J" (some 0) with kind := .array 9 .long, interfaces := #[3, 4], accessFlags := 1041 }

def heap : Heap := #[]
def classes : Array Class := #[k0, k1, k2, k3, k4, k5, k6, k7, k8, k9, k10]
def interned : List (Array UInt16 × Addr) := []
def slotsUsed : Nat := 0
def theMethod : MethodId := ⟨1, 2⟩
def args0 : Array Value := #[.long 5, .long 7, .long 9, .long 7, .int 1]
def aboutOver (below : List Frame) : State where
  vm := { classes := classes, interned := interned.toArray }
  heap := heap
  slotsUsed := slotsUsed
  threads := #[{ frames := .invoking theMethod args0 :: below }]
def below0 : List Frame := [.native { method := ⟨0, 0⟩, args := #[] }]
def about1 : State := aboutOver below0
def p0 : Program := .bare "" "" ""
def e0 : Env := launch0.env 0 0 0
theorem w_frames : about1.frames = Frame.invoking theMethod args0 :: below0 := rfl
set_option maxRecDepth 65536 in
theorem w_args : argsFit about1.vm theMethod args0 = true := by decide +kernel
set_option maxRecDepth 65536 in
theorem w_heap : heapFits about1 = true := by decide +kernel
set_option maxRecDepth 65536 in
theorem w_runnable : about1.curStatus? = some .runnable := by decide +kernel
set_option maxRecDepth 65536 in
theorem w_alone : about1.alone = true := by decide +kernel
set_option maxRecDepth 65536 in
theorem w_named : about1.methodNamed? x = some theMethod := by decide +kernel
set_option maxRecDepth 65536 in
theorem w_hears : about1.hears theMethod below0 = true := by decide +kernel
set_option maxRecDepth 65536 in
theorem w_ripe : about1.ripe theMethod args0 below0 = true := by decide +kernel
theorem w_running : about1.status = .running := rfl
set_option maxRecDepth 65536 in
theorem w_room : about1.hasRoom e0.platform room_1 = true :=
  launch0.hasRoom_least _ room_1 (by decide +kernel) (by decide +kernel) (by decide +kernel) (by decide +kernel) (by decide +kernel) (by decide +kernel)
theorem allAtoms_all (ts : List Jvm.Cond) (a : Array Jvm.Value) (st : Jvm.State) : (allAtoms ts).before a st = ts.all (fun c => c.before a st) := by
  induction ts with
  | nil => rfl
  | cons c t ih =>
    show (Jvm.Cond.and c (allAtoms t)).before a st = _
    rw [Jvm.Cond.before_and, ih, List.all_cons]
def words1 : List Jvm.Cond := Jvm.Cond.code x code maxLocals ret :: tables_1
/-- a 'code' word, met by the world's own term for the bytes: nothing is compared byte by byte -/
theorem code_word {y : MethodName} {bytes : ByteArray} {mx : Nat} {rt : Option FieldType} {a : Array Value} {s : State} {m : MethodId} {meth : Method} {c : Code} (h1 : s.methodNamed? y = some m) (h2 : s.vm.method? m = some meth) (h3 : meth.code = some c) (h4 : c.code = bytes)
    (h5 : (c.maxLocals == mx && c.exceptionTable.isEmpty && decide (c.maxStack ≤ mostOperands) && decide (meth.sig.returnType = rt) && !meth.locks && decide (parseMethodDescriptor y.desc = some meth.sig)) = true) : (Jvm.Cond.code y bytes mx rt).before a s = true := by
  simp only [Bool.and_eq_true, beq_iff_eq, Bool.not_eq_true', decide_eq_true_eq] at h5
  obtain ⟨⟨⟨⟨⟨g1, g2⟩, g3⟩, g4⟩, g5⟩, g6⟩ := h5
  simp [Cond.before, Cond.holds, Cond.value, h1, h2, h3, h4, g1, g2, g3, g4, g5, g6]
def isCode : Jvm.Cond → Bool
  | .code _ _ _ _ => true
  | _ => false
theorem all_split {L : List Jvm.Cond} {P : Jvm.Cond → Bool} (h1 : L.all (fun c => isCode c || P c) = true) (h2 : ∀ c ∈ L.filter isCode, P c = true) : L.all P = true := by
  refine List.all_eq_true.mpr fun c hc => ?_
  have h := List.all_eq_true.mp h1 c hc
  rcases Bool.eq_false_or_eq_true (isCode c) with hi | hi
  · exact h2 c (List.mem_filter.mpr ⟨hc, hi⟩)
  · simpa [hi] using h
set_option maxRecDepth 65536 in
theorem w_c0 : (Jvm.Cond.code x code maxLocals ret).before args0 about1 = true := code_word (m := ⟨1, 2⟩) (meth := k1m2) (c := k1c2) (by decide +kernel) rfl rfl rfl (by decide +kernel)
set_option maxRecDepth 65536 in
theorem w_c1 : (Jvm.Cond.code ({ cls := "com/example/utsatt/utsatt/KeyHashesRemovePinLaw", name := "st", desc := "(J)J" } : Jvm.MethodName) method_2_code (2 : Nat) (Option.some Jvm.ClassFile.FieldType.long)).before args0 about1 = true := code_word (m := ⟨1, 1⟩) (meth := k1m1) (c := k1c1) (by decide +kernel) rfl rfl rfl (by decide +kernel)
set_option maxRecDepth 65536 in
theorem w_c2 : (Jvm.Cond.code ({ cls := "com/example/utsatt/utsatt/KeyHashes", name := "<init>", desc := "()V" } : Jvm.MethodName) prog_2_method_1_code (1 : Nat) (Option.none : Option Jvm.ClassFile.FieldType)).before args0 about1 = true := code_word (m := ⟨2, 0⟩) (meth := k2m0) (c := k2c0) (by decide +kernel) rfl rfl rfl (by decide +kernel)
set_option maxRecDepth 65536 in
theorem w_c3 : (Jvm.Cond.code ({ cls := "java/lang/Object", name := "<init>", desc := "()V" } : Jvm.MethodName) object_method_1_code (1 : Nat) (Option.none : Option Jvm.ClassFile.FieldType)).before args0 about1 = true := code_word (m := ⟨0, 0⟩) (meth := k0m0) (c := k0c0) (by decide +kernel) rfl rfl rfl (by decide +kernel)
set_option maxRecDepth 65536 in
theorem w_c4 : (Jvm.Cond.code ({ cls := "com/example/utsatt/utsatt/KeyHashes", name := "add", desc := "(J)Z" } : Jvm.MethodName) prog_2_method_4_code (6 : Nat) (Option.some Jvm.ClassFile.FieldType.boolean)).before args0 about1 = true := code_word (m := ⟨2, 2⟩) (meth := k2m2) (c := k2c2) (by decide +kernel) rfl rfl rfl (by decide +kernel)
set_option maxRecDepth 65536 in
theorem w_c5 : (Jvm.Cond.code ({ cls := "com/example/utsatt/utsatt/KeyHashes", name := "stored", desc := "(J)J" } : Jvm.MethodName) prog_2_method_8_code (2 : Nat) (Option.some Jvm.ClassFile.FieldType.long)).before args0 about1 = true := code_word (m := ⟨2, 5⟩) (meth := k2m5) (c := k2c5) (by decide +kernel) rfl rfl rfl (by decide +kernel)
set_option maxRecDepth 65536 in
theorem w_c6 : (Jvm.Cond.code ({ cls := "com/example/utsatt/utsatt/KeyHashes", name := "slotOf", desc := "(J)I" } : Jvm.MethodName) prog_2_method_7_code (4 : Nat) (Option.some Jvm.ClassFile.FieldType.int)).before args0 about1 = true := code_word (m := ⟨2, 4⟩) (meth := k2m4) (c := k2c4) (by decide +kernel) rfl rfl rfl (by decide +kernel)
set_option maxRecDepth 65536 in
theorem w_c7 : (Jvm.Cond.code ({ cls := "com/example/utsatt/utsatt/KeyHashes", name := "home", desc := "(JI)I" } : Jvm.MethodName) prog_2_method_9_code (3 : Nat) (Option.some Jvm.ClassFile.FieldType.int)).before args0 about1 = true := code_word (m := ⟨2, 6⟩) (meth := k2m6) (c := k2c6) (by decide +kernel) rfl rfl rfl (by decide +kernel)
set_option maxRecDepth 65536 in
theorem w_c8 : (Jvm.Cond.code ({ cls := "com/example/utsatt/utsatt/KeyHashes", name := "next", desc := "(I)I" } : Jvm.MethodName) prog_2_method_10_code (2 : Nat) (Option.some Jvm.ClassFile.FieldType.int)).before args0 about1 = true := code_word (m := ⟨2, 7⟩) (meth := k2m7) (c := k2c7) (by decide +kernel) rfl rfl rfl (by decide +kernel)
set_option maxRecDepth 65536 in
theorem w_c9 : (Jvm.Cond.code ({ cls := "com/example/utsatt/utsatt/KeyHashes", name := "remove", desc := "(J)Z" } : Jvm.MethodName) prog_2_method_5_code (8 : Nat) (Option.some Jvm.ClassFile.FieldType.boolean)).before args0 about1 = true := code_word (m := ⟨2, 3⟩) (meth := k2m3) (c := k2c3) (by decide +kernel) rfl rfl rfl (by decide +kernel)
set_option maxRecDepth 65536 in
theorem w_c10 : (Jvm.Cond.code ({ cls := "com/example/utsatt/utsatt/KeyHashes", name := "size", desc := "()I" } : Jvm.MethodName) prog_2_method_3_code (1 : Nat) (Option.some Jvm.ClassFile.FieldType.int)).before args0 about1 = true := code_word (m := ⟨2, 1⟩) (meth := k2m1) (c := k2c1) (by decide +kernel) rfl rfl rfl (by decide +kernel)
def codes1 : List Jvm.Cond := [Jvm.Cond.code x code maxLocals ret, Jvm.Cond.code ({ cls := "com/example/utsatt/utsatt/KeyHashesRemovePinLaw", name := "st", desc := "(J)J" } : Jvm.MethodName) method_2_code (2 : Nat) (Option.some Jvm.ClassFile.FieldType.long), Jvm.Cond.code ({ cls := "com/example/utsatt/utsatt/KeyHashes", name := "<init>", desc := "()V" } : Jvm.MethodName) prog_2_method_1_code (1 : Nat) (Option.none : Option Jvm.ClassFile.FieldType), Jvm.Cond.code ({ cls := "java/lang/Object", name := "<init>", desc := "()V" } : Jvm.MethodName) object_method_1_code (1 : Nat) (Option.none : Option Jvm.ClassFile.FieldType), Jvm.Cond.code ({ cls := "com/example/utsatt/utsatt/KeyHashes", name := "add", desc := "(J)Z" } : Jvm.MethodName) prog_2_method_4_code (6 : Nat) (Option.some Jvm.ClassFile.FieldType.boolean), Jvm.Cond.code ({ cls := "com/example/utsatt/utsatt/KeyHashes", name := "stored", desc := "(J)J" } : Jvm.MethodName) prog_2_method_8_code (2 : Nat) (Option.some Jvm.ClassFile.FieldType.long), Jvm.Cond.code ({ cls := "com/example/utsatt/utsatt/KeyHashes", name := "slotOf", desc := "(J)I" } : Jvm.MethodName) prog_2_method_7_code (4 : Nat) (Option.some Jvm.ClassFile.FieldType.int), Jvm.Cond.code ({ cls := "com/example/utsatt/utsatt/KeyHashes", name := "home", desc := "(JI)I" } : Jvm.MethodName) prog_2_method_9_code (3 : Nat) (Option.some Jvm.ClassFile.FieldType.int), Jvm.Cond.code ({ cls := "com/example/utsatt/utsatt/KeyHashes", name := "next", desc := "(I)I" } : Jvm.MethodName) prog_2_method_10_code (2 : Nat) (Option.some Jvm.ClassFile.FieldType.int), Jvm.Cond.code ({ cls := "com/example/utsatt/utsatt/KeyHashes", name := "remove", desc := "(J)Z" } : Jvm.MethodName) prog_2_method_5_code (8 : Nat) (Option.some Jvm.ClassFile.FieldType.boolean), Jvm.Cond.code ({ cls := "com/example/utsatt/utsatt/KeyHashes", name := "size", desc := "()I" } : Jvm.MethodName) prog_2_method_3_code (1 : Nat) (Option.some Jvm.ClassFile.FieldType.int)]
set_option maxRecDepth 65536 in
theorem codes_eq : words1.filter isCode = codes1 := rfl
theorem w_codes : ∀ c ∈ words1.filter isCode, c.before args0 about1 = true := by
  rw [codes_eq]
  intro c hc
  simp only [codes1, List.mem_cons, List.not_mem_nil, or_false] at hc
  rcases hc with rfl | rfl | rfl | rfl | rfl | rfl | rfl | rfl | rfl | rfl | rfl
  · exact w_c0
  · exact w_c1
  · exact w_c2
  · exact w_c3
  · exact w_c4
  · exact w_c5
  · exact w_c6
  · exact w_c7
  · exact w_c8
  · exact w_c9
  · exact w_c10
set_option maxRecDepth 65536 in
theorem w_t1 : (words1.take 24).all (fun c => isCode c || c.before args0 about1) = true := by decide +kernel
set_option maxRecDepth 65536 in
theorem w_t2 : ((words1.drop 24).take 24).all (fun c => isCode c || c.before args0 about1) = true := by decide +kernel
set_option maxRecDepth 65536 in
theorem w_t3 : ((words1.drop 24).drop 24).all (fun c => isCode c || c.before args0 about1) = true := by decide +kernel
theorem w_tables : (allAtoms (Jvm.Cond.code x code maxLocals ret :: tables_1)).before args0 about1 = true := by
  rw [allAtoms_all]
  show words1.all (fun c => c.before args0 about1) = true
  refine all_split ?_ w_codes
  rw [← List.take_append_drop 24 words1, List.all_append, w_t1, ← List.take_append_drop 24 (words1.drop 24), List.all_append, w_t2, w_t3]
  rfl
set_option maxRecDepth 65536 in
theorem w_case : (Jvm.Cond.and given_1 narrow_1).before args0 about1 = true := by decide +kernel
theorem w_applies : (headSpec (Jvm.Cond.code x code maxLocals ret :: tables_1) room_1).applies x e0.platform about1 = true :=
  (Spec.applies_iff w_frames).mpr ⟨w_running, w_runnable, w_alone, w_named, w_hears, w_ripe, w_room, w_tables⟩
theorem atStart : AtStart classFile x code maxLocals ret World_1 tables_1 room_1 Calls_1 rest_1 Pre_1 launch0 p0 e0 about1 theMethod args0 below0 :=
  ⟨lists_1, trivial, launch0.admits_env _ _ _, launch0.least_env, fairChoices_fair.cas, fairChoices_fair.clock, w_frames, w_args, w_heap, w_applies, trivial, trivial, w_case⟩
end start1
theorem witness_1 : WitnessClaimed_1 := ⟨start1.p0, start1.e0, start1.about1, start1.theMethod, start1.args0, start1.below0, start1.atStart⟩
end Jvm.Pilot.@@N@@
