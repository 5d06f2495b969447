import JvmDerived
import JvmDerived.Pilot.@@N@@Statement
import JvmDerived.Pilot.@@N@@Code
set_option linter.unusedVariables false
set_option linter.unusedSimpArgs false
namespace Jvm.RoadKit
open Sem ClassFile Op Lib Jvm.Stand Jvm.Free Jvm.LawKit
section Own
variable {p : Program} {l : Launch} {e : Env} {R : Room} {s : State} {m : MethodId} {args : Array Value} {below : List Frame} {meth : Method} {c : Code} {T T' : State} {locs : List Loc} {cells slots rc rs : Nat} {Q : Option Value → Heap → List Loc → Prop} {g g' : JFrame}
/-- from the state T with the top frame g the run ends in a return of which Q is true -/
def OwnGo (p : Program) (e : Env) (below : List Frame) (s : State) (rc rs : Nat) (Q : Option Value → Heap → List Loc → Prop) (T : State) (g : JFrame) : Prop :=
  ∃ (U : State) (o : Outcome), Steps p.tables e below (T.setTop g) U ∧ U.status = .running ∧ Ended U below o ∧ ∃ v L, o = .returned v ∧ Q v U.heap L ∧ FrameEnd s o U L rc rs
theorem OwnGo.st (k : ∀ target, Steps p.tables e below (T'.setTop g') target → Steps p.tables e below (T.setTop g) target) (h : OwnGo p e below s rc rs Q T' g') : OwnGo p e below s rc rs Q T g := by
  obtain ⟨U, o, h1, h2⟩ := h
  exact ⟨U, o, k _ h1, h2⟩
theorem OwnGo.cast (q : g = g') (h : OwnGo p e below s rc rs Q T g') : OwnGo p e below s rc rs Q T g := q ▸ h
theorem OwnGo.ret (X : Stand p l e R s m args below meth c T locs cells slots) (hx : p.tables.exec = Jvm.exec) {pc : Nat} {Ls : Array Slot} {w : Value} {t : FieldType} {i : Instr} {rest : List Value} (hret : meth.sig.returnType = some t) (hlk : meth.locks = false) (hn : narrow t w = w)
    (hi : (i = .ireturn ∧ (t = .int ∨ t = .boolean ∨ t = .byte ∨ t = .char ∨ t = .short) ∧ ∃ z, w = .int z) ∨ (i = .lreturn ∧ t = .long ∧ ∃ z, w = .long z) ∨ (i = .dreturn ∧ t = .double ∧ ∃ z, w = .double z) ∨ (i = .freturn ∧ t = .float ∧ ∃ z, w = .float z) ∨ (i = .areturn ∧ t.isReference = true ∧ w.isRef = true))
    (hd : decode c.code pc = .ok (i, 1)) (hQ : Q (some w) T.heap locs) (hc : cells ≤ rc) (hs : slots ≤ rs) : OwnGo p e below s rc rs Q T (mkF m pc Ls (w :: rest)) := by
  obtain ⟨fs, hr, hrun, hended, hW, hsame⟩ := X.leave (v := some w) (fun h => by rw [hret] at h; cases h) hlk
  exact ⟨_, _, retOut X hx hret hn hi hd hr, hrun, hended, _, _, rfl, hQ, ⟨_, rfl⟩, hW, hsame.mono hc hs⟩
theorem OwnGo.retN (X : Stand p l e R s m args below meth c T locs cells slots) (hx : p.tables.exec = Jvm.exec) {pc : Nat} {Ls : Array Slot} {z : Int32} {t : FieldType} {rest : List Value} (hret : meth.sig.returnType = some t) (hlk : meth.locks = false) (ht : t = .boolean ∨ t = .byte ∨ t = .char ∨ t = .short)
    (hd : decode c.code pc = .ok (.ireturn, 1)) (hQ : Q (some (.int (nar t z))) T.heap locs) (hc : cells ≤ rc) (hs : slots ≤ rs) : OwnGo p e below s rc rs Q T (mkF m pc Ls (.int z :: rest)) := by
  obtain ⟨fs, hr, hrun, hended, hW, hsame⟩ := X.leave (v := some (.int (nar t z))) (fun h => by rw [hret] at h; cases h) hlk
  exact ⟨_, _, Jvm.RoadKit.retN X hx hret ht hd hr, hrun, hended, _, _, rfl, hQ, ⟨_, rfl⟩, hW, hsame.mono hc hs⟩
theorem OwnGo.retV (X : Stand p l e R s m args below meth c T locs cells slots) (hx : p.tables.exec = Jvm.exec) {pc : Nat} {Ls : Array Slot} (hret : meth.sig.returnType = none) (hlk : meth.locks = false)
    (hd : decode c.code pc = .ok (.return_, 1)) (hQ : Q none T.heap locs) (hc : cells ≤ rc) (hs : slots ≤ rs) : OwnGo p e below s rc rs Q T (mkF m pc Ls []) := by
  obtain ⟨fs, hr, hrun, hended, hW, hsame⟩ := X.leave (v := none) (fun _ => rfl) hlk
  exact ⟨_, _, X.returnOut hx hret hd hr, hrun, hended, _, _, rfl, hQ, ⟨_, rfl⟩, hW, hsame.mono hc hs⟩
theorem own_met {y : MethodName} {bytes : ByteArray} {maxL : Nat} {ret : Option FieldType} {ws : List Jvm.Cond} {rm : Room} {Z : State} {as' : Array Value} {h0 : Heap} (hp : plainFor y = true)
    (body : ∀ (p : Program) (e : Env) (s : State) (m : MethodId) (below : List Frame) (meth : Method) (c : Code) (s₁ : State), Stand p l e rm s m as' below meth c s₁ [] 0 0 → p.tables.exec = Jvm.exec → c.code = bytes → c.maxLocals = maxL → meth.sig.returnType = ret → meth.locks = false → s.vm.findClass y.cls = some m.cls → meth.name = y.name → Z.Warmed39 s.vm → s₁.heap = h0 →
      OwnGo p e below s rm.cells rm.slots Q s₁ (entryFrame m as' maxL)) :
    MetFree l y (head1 (Jvm.Cond.code y bytes maxL ret :: ws) rm) (fun a U => a = as' ∧ Z.Warmed39 U.vm ∧ U.heap = h0) (fun _ _ _ _ _ => True) (fun _ U o U' => ∃ v L, o = .returned v ∧ Q v U'.heap L ∧ FrameEnd U o U' L rm.cells rm.slots) := by
  refine MetFree.of_bodySF hp hisR ?_
  intro p e s m args below meth c s₁ Bd hml0 hP hK
  obtain ⟨rfl, hZ, hh⟩ := hP
  exact body p e s m below meth c s₁ (Stand.of_body Bd) Bd.exec Bd.bytes hml0 Bd.returns Bd.notSynchronized (findClass_of_methodNamed Bd.named) (name_of_methodNamed Bd.named Bd.method).1 hZ (by rw [← hh, Bd.state]; rfl)
theorem own_len {Z : State} {h : Heap} {a : Addr} {cl : Cell} {ty : FieldType} {z : Int32} (hZ : Z.Warmed39 s.vm) (q : cl.slots.size.toInt32 = z) (A : Arr Z h a cl ty) (X : Stand p l e R s m args below meth c T locs cells slots) (eT : T.heap = h) (hx : p.tables.exec = Jvm.exec) {rest : List Value}
    (hg : g.method = m) (hst : g.stack = .ref a :: rest) (hd : decode c.code g.pc = .ok (.arraylength, 1)) (target : State) (k : Steps p.tables e below (T.setTop { g with pc := g.pc + 1, stack := .int z :: rest }) target) : Steps p.tables e below (T.setTop g) target := by
  refine X.arraylength hx (by rw [eT]; exact A.1) (State.isArrayOf_alike hZ.alike A.2.1) hg hst hd _ ?_
  rw [q]; exact k
theorem own_eqi {args : Array Value} {first U : State} {o : Option Outcome} {idx : List Nat} {a : Term} {k : Int32} (h : (Jvm.Cond.eq a (.int k)).value args first o U idx = some true) : a.eval args first o idx U = some (.int k) := Cond.eq_int (b := .int k) (by simp only [Cond.holds, h]; rfl) rfl
theorem own_eqv {args : Array Value} {first U : State} {o : Option Outcome} {idx : List Nat} {a b : Term} {v : Value} (h : (Jvm.Cond.eq a b).value args first o U idx = some true) (hb : b.eval args first o idx U = some v) (hv : v.isRef = true) : a.eval args first o idx U = some v := by
  obtain ⟨x, y, h1, h2, k1, k2⟩ := cmp_v (Or.inl h)
  cases h2.symm.trans hb
  have hx : x.isRef = true := by cases x <;> cases v <;> simp [Kin, Value.isRef] at k1 k2 hv ⊢
  rw [h1, gotT (eq_R h1 h2 hx hv) h]
theorem own_lenv {Z : State} {args : Array Value} {t : Term} {a : Addr} {cl : Cell} {ty : FieldType} {z : Int32} (ev : t.eval args Z none [] Z = some (.ref a)) (A : Arr Z Z.heap a cl ty) (h : (Jvm.Cond.eq (.length t) (.int z)).value args Z none Z [] = some true) : cl.slots.size < 2 ^ 31 ∧ cl.slots.size.toInt32 = z := by
  have e := own_eqi h
  have hA := A.fin (Vm.Alike.refl _)
  refine ⟨SBG.length_lt ev hA e, ?_⟩
  obtain ⟨a', c', e1, e2, e3⟩ := Term.length_spec e
  cases ev.symm.trans e1
  cases hA.symm.trans e2
  exact (Value.int.inj e3).symm
theorem own_elem {Z : State} {args : Array Value} {t : Term} {a : Addr} {cl : Cell} {ty : FieldType} {k : Int32} {v : Value} (ev : t.eval args Z none [] Z = some (.ref a)) (A : Arr Z Z.heap a cl ty) (h : (Term.elem t (.int k)).eval args Z none [] Z = some v) : cl.slots[k.toNatClampNeg]? = some v := (elem_in h ev rfl A.1).2
theorem own_narR {w : Value} {t : FieldType} (h : w.isRef = true) (ht : t.isReference = true) : narrow t w = w := by
  cases w <;> simp [Value.isRef] at h <;> cases t <;> simp [FieldType.isReference] at ht <;> rfl
theorem own_selp {y z : MethodName} (hz : (Jvm.Cond.selects z.cls z z).before args s = true) (hcls : z.cls = y.cls) (hpriv : s.PrivateAt y) (hinst : (Jvm.Cond.instanceMethod y).before args s = true) (hy : y.cls ≠ "java/lang/invoke/MethodHandle" ∧ y.cls ≠ "java/lang/invoke/VarHandle") : (Jvm.Cond.selects y.cls y y).before args s = true := by
  obtain ⟨c, r, mz, h1, h2, h3, h4, mk, h5, h6⟩ := Cond.selects_spec hz
  exact selects_self_of_private (by rw [← hcls]; exact findClass_of_methodNamed h3) h5 h6 hpriv hinst hy
theorem own_cat {w : Value} (h : w.isRef = true) : w.category = 1 := by cases w <;> simp [Value.isRef] at h <;> rfl
/-- an array of n places, whatever they hold -/
def OwnArr (Z : State) (h : Heap) (a : Addr) (ty : FieldType) (n : Nat) : Prop := ∃ cl : Cell, Arr Z h a cl ty ∧ cl.slots.size = n
theorem OwnArr.lt {Z : State} {h : Heap} {a : Addr} {ty : FieldType} {n : Nat} (F : OwnArr Z h a ty n) : a < h.size := by obtain ⟨_, A, -⟩ := F; exact A.lt
theorem OwnArr.ext {Z : State} {h h' : Heap} {a : Addr} {ty : FieldType} {n : Nat} (F : OwnArr Z h a ty n) (E : Ext h h') : OwnArr Z h' a ty n := by obtain ⟨c, A, S⟩ := F; exact ⟨c, A.ext E, S⟩
theorem OwnArr.keep {Z : State} {h h' : Heap} {a : Addr} {ty : FieldType} {n : Nat} {ws : List Addr} (F : OwnArr Z h a ty n) (K : Keep h h' ws) : OwnArr Z h' a ty n := by
  obtain ⟨c, ⟨A1, ⟨q1, q2⟩, A3⟩, S⟩ := F
  obtain ⟨c', e1, e2, e3, e4⟩ := K.2.2 _ _ A1
  exact ⟨c', ⟨e1, ⟨by rw [e3]; exact q1, by rw [e2]; exact q2⟩, by rw [e3]; exact A3⟩, e4.trans S⟩
theorem OwnArr.wr {Z : State} {h h' : Heap} {a b : Addr} {ty : FieldType} {n sl : Nat} {v : Value} (F : OwnArr Z h a ty n) (W : Wr h h' b sl v) : OwnArr Z h' a ty n := F.keep (Keep.of_wr W)
theorem OwnArr.of {Z : State} {h : Heap} {a : Addr} {k : ClassId} {ty : FieldType} {z : Int32} {vs : List Value} {d : Value} (F : Arv Z h a k ty z vs d) : OwnArr Z h a ty z.toNatClampNeg := by obtain ⟨c, A, -, S, -⟩ := F; exact ⟨c, A, S⟩
theorem own_nb (x : Int32) : nar .byte x.toInt8.toInt32 = x.toInt8.toInt32 := by
  show (x.toInt8.toInt32).toInt8.toInt32 = _
  rw [Int8.toInt8_toInt32]
end Own
end Jvm.RoadKit
namespace Jvm.Pilot.@@N@@
open Jvm Jvm.ClassFile Sem Op Lib Jvm.Free Jvm.Stand Jvm.LawKit Jvm.RoadKit Bundle Jvm.Pilot.@@N@@.Jvm.D
/-! the plain law of the table: 16 places, linear probing -/
def own_st (h : Int64) : Int64 := if h = (0 : Int64) then (1 : Int64) else h
theorem own_st0 {h : Int64} (q : h = (0 : Int64)) : own_st h = (1 : Int64) := if_pos q
theorem own_st1 {h : Int64} (q : ¬ h = (0 : Int64)) : own_st h = h := if_neg q
theorem own_stn (h : Int64) : own_st h ≠ 0 := by
  by_cases q : h = (0 : Int64)
  · rw [own_st0 q]; decide
  · rw [own_st1 q]; exact q
def own_hx (x : Int64) : Int32 := (((((x.toUInt64 >>> ((32 : Int32) &&& 0x3f).toInt64.toUInt64).toInt64) * (16 : Int32).toInt64).toUInt64 >>> ((32 : Int32) &&& 0x3f).toInt64.toUInt64).toInt64).toInt32
def own_home (x : Int64) : Nat := (own_hx x).toNatClampNeg
theorem own_hxb (x : Int64) : 0 ≤ (own_hx x).toInt ∧ (own_hx x).toInt < 16 := by
  have h1 := c_lushr x 32 32 (by decide) (by decide)
  generalize ha : ((x.toUInt64 >>> ((32 : Int32) &&& 0x3f).toInt64.toUInt64).toInt64) = a at h1
  have h2 := c_lmul a (16 : Int32).toInt64
  have e16 : ((16 : Int32).toInt64).toInt = 16 := by decide
  rw [e16] at h2
  have r1 := rng64 x
  have r2 := rng64 (a * (16 : Int32).toInt64)
  have h3 := c_lushr (a * (16 : Int32).toInt64) 32 32 (by decide) (by decide)
  have hx_ : own_hx x = (((a * (16 : Int32).toInt64).toUInt64 >>> ((32 : Int32) &&& 0x3f).toInt64.toUInt64).toInt64).toInt32 := by unfold own_hx; rw [ha]
  rw [hx_]
  generalize (((a * (16 : Int32).toInt64).toUInt64 >>> ((32 : Int32) &&& 0x3f).toInt64.toUInt64).toInt64) = b at *
  have h4 := c_l2i b
  have r3 := rng32 b.toInt32
  generalize (a * (16 : Int32).toInt64).toInt = P at *
  omega
theorem own_home_lt (x : Int64) : own_home x < 16 := by
  have h := own_hxb x
  show ((own_hx x).toInt).toNat < 16
  omega
theorem own_home_eq (x : Int64) : own_hx x = Int32.ofNat (own_home x) := by
  have h := own_hxb x
  apply Int32.toInt_inj.mp
  rw [Int32.toInt_ofNat_small (Nat.lt_trans (own_home_lt x) (by decide))]
  show _ = (((own_hx x).toInt.toNat : Nat) : Int)
  omega
def own_at (vs : List Int64) (j : Nat) : Int64 := vs.getD j 0
def own_nx (j : Nat) : Nat := if j + 1 = 16 then 0 else j + 1
theorem own_nx_lt {j : Nat} (h : j < 16) : own_nx j < 16 := by unfold own_nx; split <;> omega
def own_stop (vs : List Int64) (x : Int64) (j : Nat) : Prop := own_at vs j = 0 ∨ own_at vs j = x
def own_path (vs : List Int64) (x : Int64) : Nat → Nat → Nat → Prop
  | 0, j, r => j = r ∧ own_stop vs x j
  | k + 1, j, r => ¬ own_stop vs x j ∧ own_path vs x k (own_nx j) r
def own_it : Nat → Nat → Nat
  | 0, j => j
  | d + 1, j => own_it d (own_nx j)
theorem own_it_lt (d : Nat) : ∀ {j : Nat}, j < 16 → own_it d j < 16 := by
  induction d with
  | zero => exact fun h => h
  | succ d ih => exact fun h => ih (own_nx_lt h)
theorem own_reach : ∀ j z : Fin 16, ∃ d : Fin 16, own_it d.1 j.1 = z.1 := by decide +kernel
theorem own_path_uniq {vs : List Int64} {x : Int64} : ∀ (k k' : Nat) {j r r' : Nat}, own_path vs x k j r → own_path vs x k' j r' → r = r' := by
  intro k
  induction k with
  | zero =>
    intro k' j r r' h h'
    cases k' with
    | zero => exact h.1.symm.trans h'.1
    | succ k' => exact absurd h.2 h'.1
  | succ k ih =>
    intro k' j r r' h h'
    cases k' with
    | zero => exact absurd h'.2 h.1
    | succ k' => exact ih k' h.2 h'.2
theorem own_path_end {vs : List Int64} {x : Int64} : ∀ (k : Nat) {j r : Nat}, own_path vs x k j r → own_stop vs x r := by
  intro k
  induction k with
  | zero => intro j r h; exact h.1 ▸ h.2
  | succ k ih => intro j r h; exact ih h.2
theorem own_path_lt {vs : List Int64} {x : Int64} : ∀ (k : Nat) {j r : Nat}, j < 16 → own_path vs x k j r → r < 16 := by
  intro k
  induction k with
  | zero => intro j r hj h; exact h.1 ▸ hj
  | succ k ih => intro j r hj h; exact ih (own_nx_lt hj) h.2
theorem own_at_set {vs : List Int64} {r j : Nat} {x : Int64} (hr : r < vs.length) : own_at (vs.set r x) j = if j = r then x else own_at vs j := by
  unfold own_at
  rw [List.getD_eq_getElem?_getD, List.getD_eq_getElem?_getD, List.getElem?_set]
  by_cases h : j = r
  · subst h; simp [hr]
  · simp [h, Ne.symm h]
/-- y is found: probing for it ends at a place that holds it -/
def own_in (vs : List Int64) (y : Int64) : Prop := ∃ k r, own_path vs y k (own_home y) r ∧ own_at vs r = y
def own_only (vs : List Int64) (S : List Int64) : Prop := ∀ j, own_at vs j ≠ 0 → own_at vs j ∈ S
theorem own_found {vs : List Int64} {y : Int64} (h : own_in vs y) : ∀ k r, own_path vs y k (own_home y) r → own_at vs r = y := by
  obtain ⟨k0, r0, h1, h2⟩ := h
  intro k r h
  rw [own_path_uniq k k0 h h1]; exact h2
theorem own_miss {vs : List Int64} {S : List Int64} {y : Int64} (h : own_only vs S) (hy : y ≠ 0) (hn : y ∉ S) : ∀ k r, own_path vs y k (own_home y) r → ¬ own_at vs r = y := by
  intro k r _ e
  exact hn (e ▸ h r (by rw [e]; exact hy))
theorem own_path_keep {vs : List Int64} {x y : Int64} {r : Nat} (hr : r < vs.length) (h0 : own_at vs r = 0) : ∀ (k : Nat) {j q : Nat}, q ≠ r → own_path vs y k j q → own_path (vs.set r x) y k j q := by
  intro k
  induction k with
  | zero =>
    intro j q hq h
    refine ⟨h.1, ?_⟩
    have : j ≠ r := h.1 ▸ hq
    unfold own_stop
    rw [own_at_set hr, if_neg this]
    exact h.2
  | succ k ih =>
    intro j q hq h
    refine ⟨?_, ih hq h.2⟩
    have : j ≠ r := fun e => h.1 (Or.inl (e ▸ h0))
    unfold own_stop
    rw [own_at_set hr, if_neg this]
    exact h.1
theorem own_path_new {vs : List Int64} {x : Int64} {r : Nat} (hr : r < vs.length) (h0 : own_at vs r = 0) : ∀ (k : Nat) {j : Nat}, own_path vs x k j r → own_path (vs.set r x) x k j r := by
  intro k
  induction k with
  | zero =>
    intro j h
    refine ⟨h.1, Or.inr ?_⟩
    rw [own_at_set hr, if_pos h.1]
  | succ k ih =>
    intro j h
    refine ⟨?_, ih h.2⟩
    have : j ≠ r := fun e => h.1 (Or.inl (e ▸ h0))
    unfold own_stop
    rw [own_at_set hr, if_neg this]
    exact h.1
theorem own_in_keep {vs : List Int64} {x y : Int64} {r : Nat} (hr : r < vs.length) (h0 : own_at vs r = 0) (hy : y ≠ 0) (h : own_in vs y) : own_in (vs.set r x) y := by
  obtain ⟨k, q, h1, h2⟩ := h
  have hq : q ≠ r := fun e => hy (by rw [← h2, e]; exact h0)
  exact ⟨k, q, own_path_keep hr h0 k hq h1, by rw [own_at_set hr, if_neg hq]; exact h2⟩
theorem own_in_new {vs : List Int64} {x : Int64} {r k : Nat} (hr : r < vs.length) (h0 : own_at vs r = 0) (h : own_path vs x k (own_home x) r) : own_in (vs.set r x) x :=
  ⟨k, r, own_path_new hr h0 k h, by rw [own_at_set hr, if_pos rfl]⟩
theorem own_only_set {vs : List Int64} {S : List Int64} {x : Int64} {r : Nat} (hr : r < vs.length) (h : own_only vs S) : own_only (vs.set r x) (x :: S) := by
  intro j hj
  rw [own_at_set hr] at hj ⊢
  by_cases e : j = r
  · rw [if_pos e]; exact List.mem_cons_self ..
  · rw [if_neg e] at hj ⊢; exact List.mem_cons_of_mem _ (h j hj)
def own_zeros (vs : List Int64) : Nat := vs.count 0
theorem own_zeros_set (x : Int64) : ∀ (vs : List Int64) (r : Nat), own_zeros vs ≤ own_zeros (vs.set r x) + 1
  | [], r => by simp [own_zeros]
  | v :: vs, 0 => by simp only [own_zeros, List.set_cons_zero, List.count_cons]; split <;> split <;> omega
  | v :: vs, r + 1 => by
    have := own_zeros_set x vs r
    simp only [own_zeros, List.set_cons_succ, List.count_cons] at this ⊢
    omega
theorem own_zero {vs : List Int64} (hl : vs.length = 16) (h : 0 < own_zeros vs) : ∃ z, z < 16 ∧ own_at vs z = 0 := by
  have hm : (0 : Int64) ∈ vs := List.count_pos_iff.mp h
  obtain ⟨z, hz, e⟩ := List.getElem_of_mem hm
  exact ⟨z, hl ▸ hz, by unfold own_at; rw [List.getD_eq_getElem?_getD, List.getElem?_eq_getElem hz, e]; rfl⟩
theorem own_free {vs : List Int64} (hl : vs.length = 16) (h : 0 < own_zeros vs) (x : Int64) : ∃ d, own_at vs (own_it d (own_home x)) = 0 := by
  obtain ⟨z, hz, e⟩ := own_zero hl h
  obtain ⟨d, hd⟩ := own_reach ⟨own_home x, own_home_lt x⟩ ⟨z, hz⟩
  exact ⟨d.1, by rw [hd]; exact e⟩
theorem own_get {vs : List Int64} {j : Nat} (hl : vs.length = 16) (hj : j < 16) : (vs.map Value.long).getD (Int32.ofNat j).toNatClampNeg (.long 0) = .long (own_at vs j) := by
  have e : (Int32.ofNat j).toNatClampNeg = j := by
    show ((Int32.ofNat j).toInt).toNat = j
    rw [Int32.toInt_ofNat_small (Nat.lt_trans hj (by decide))]; rfl
  rw [e]; unfold own_at
  have : j < vs.length := by omega
  simp [List.getD_eq_getElem?_getD, this]
theorem own_inb {j : Nat} (hj : j < 16) : ¬ (Int32.ofNat j) < 0 ∧ (Int32.ofNat j) < (16 : Int32) := by
  have e : (Int32.ofNat j).toInt = j := Int32.toInt_ofNat_small (Nat.lt_trans hj (by decide))
  have e0 : (0 : Int32).toInt = 0 := by decide
  have e1 : (16 : Int32).toInt = 16 := by decide
  constructor
  · rw [Int32.lt_iff_toInt_lt, e, e0]; omega
  · rw [Int32.lt_iff_toInt_lt, e, e1]; omega
theorem own_nat {j : Nat} (hj : j < 16) : (Int32.ofNat j).toNatClampNeg = j := by
  show ((Int32.ofNat j).toInt).toNat = j
  rw [Int32.toInt_ofNat_small (Nat.lt_trans hj (by decide))]; rfl
theorem own_set {vs : List Int64} {x : Int64} {j : Nat} : (vs.map Value.long).set j (.long x) = (vs.set j x).map Value.long := by
  rw [List.map_set]
theorem own_nx16 {j : Nat} (hj : j < 16) : ((Int32.ofNat j + (1 : Int32)) = (16 : Int32)) ↔ j + 1 = 16 := by
  rw [← inc_ofNat]
  have e : (Int32.ofNat (j + 1)).toInt = ((j + 1 : Nat) : Int) := Int32.toInt_ofNat_small (by omega)
  have e1 : (16 : Int32).toInt = 16 := by decide
  rw [← Int32.toInt_inj, e, e1]; omega
def own_emp : List Int64 := [0, 0, 0, 0, 0, 0, 0, 0, 0, 0, 0, 0, 0, 0, 0, 0]
theorem own_emp0 (j : Nat) : own_at own_emp j = 0 := by
  by_cases h : j < 16
  · exact (by decide : ∀ j : Fin 16, own_at own_emp j.1 = 0) ⟨j, h⟩
  · unfold own_at; rw [List.getD_eq_getElem?_getD, List.getElem?_eq_none (by show 16 ≤ j; omega)]; rfl
theorem d1_0 : decode prog_2_method_1_code 0 = .ok (.aload_n 0, 1) := by decide +kernel
theorem d1_1 : decode prog_2_method_1_code 1 = .ok (.invokespecial 1, 3) := by decide +kernel
theorem d1_4 : decode prog_2_method_1_code 4 = .ok (.aload_n 0, 1) := by decide +kernel
theorem d1_5 : decode prog_2_method_1_code 5 = .ok (.bipush 16, 2) := by decide +kernel
theorem d1_7 : decode prog_2_method_1_code 7 = .ok (.newarray .long, 2) := by decide +kernel
theorem d1_9 : decode prog_2_method_1_code 9 = .ok (.putfield 9, 3) := by decide +kernel
theorem d1_12 : decode prog_2_method_1_code 12 = .ok (.return_, 1) := by decide +kernel
theorem d3_0 : decode prog_2_method_4_code 0 = .ok (.lload_n 1, 1) := by decide +kernel
theorem d3_1 : decode prog_2_method_4_code 1 = .ok (.invokestatic 25, 3) := by decide +kernel
theorem d3_4 : decode prog_2_method_4_code 4 = .ok (.lstore_n 3, 1) := by decide +kernel
theorem d3_5 : decode prog_2_method_4_code 5 = .ok (.aload_n 0, 1) := by decide +kernel
theorem d3_6 : decode prog_2_method_4_code 6 = .ok (.lload_n 3, 1) := by decide +kernel
theorem d3_7 : decode prog_2_method_4_code 7 = .ok (.invokevirtual 29, 3) := by decide +kernel
theorem d3_10 : decode prog_2_method_4_code 10 = .ok (.istore 5, 2) := by decide +kernel
theorem d3_12 : decode prog_2_method_4_code 12 = .ok (.aload_n 0, 1) := by decide +kernel
theorem d3_13 : decode prog_2_method_4_code 13 = .ok (.getfield 9, 3) := by decide +kernel
theorem d3_16 : decode prog_2_method_4_code 16 = .ok (.iload 5, 2) := by decide +kernel
theorem d3_18 : decode prog_2_method_4_code 18 = .ok (.laload, 1) := by decide +kernel
theorem d3_19 : decode prog_2_method_4_code 19 = .ok (.lload_n 3, 1) := by decide +kernel
theorem d3_20 : decode prog_2_method_4_code 20 = .ok (.lcmp, 1) := by decide +kernel
theorem d3_21 : decode prog_2_method_4_code 21 = .ok (.ifCond .ne 5, 3) := by decide +kernel
theorem d3_24 : decode prog_2_method_4_code 24 = .ok (.iconst 0, 1) := by decide +kernel
theorem d3_25 : decode prog_2_method_4_code 25 = .ok (.ireturn, 1) := by decide +kernel
theorem d3_26 : decode prog_2_method_4_code 26 = .ok (.aload_n 0, 1) := by decide +kernel
theorem d3_27 : decode prog_2_method_4_code 27 = .ok (.getfield 9, 3) := by decide +kernel
theorem d3_30 : decode prog_2_method_4_code 30 = .ok (.iload 5, 2) := by decide +kernel
theorem d3_32 : decode prog_2_method_4_code 32 = .ok (.lload_n 3, 1) := by decide +kernel
theorem d3_33 : decode prog_2_method_4_code 33 = .ok (.lastore, 1) := by decide +kernel
theorem d3_34 : decode prog_2_method_4_code 34 = .ok (.aload_n 0, 1) := by decide +kernel
theorem d3_35 : decode prog_2_method_4_code 35 = .ok (.dup, 1) := by decide +kernel
theorem d3_36 : decode prog_2_method_4_code 36 = .ok (.getfield 21, 3) := by decide +kernel
theorem d3_39 : decode prog_2_method_4_code 39 = .ok (.iconst 1, 1) := by decide +kernel
theorem d3_40 : decode prog_2_method_4_code 40 = .ok (.iadd, 1) := by decide +kernel
theorem d3_41 : decode prog_2_method_4_code 41 = .ok (.putfield 21, 3) := by decide +kernel
theorem d3_44 : decode prog_2_method_4_code 44 = .ok (.aload_n 0, 1) := by decide +kernel
theorem d3_45 : decode prog_2_method_4_code 45 = .ok (.getfield 21, 3) := by decide +kernel
theorem d3_48 : decode prog_2_method_4_code 48 = .ok (.i2d, 1) := by decide +kernel
theorem d3_49 : decode prog_2_method_4_code 49 = .ok (.aload_n 0, 1) := by decide +kernel
theorem d3_50 : decode prog_2_method_4_code 50 = .ok (.getfield 9, 3) := by decide +kernel
theorem d3_53 : decode prog_2_method_4_code 53 = .ok (.arraylength, 1) := by decide +kernel
theorem d3_54 : decode prog_2_method_4_code 54 = .ok (.i2d, 1) := by decide +kernel
theorem d3_55 : decode prog_2_method_4_code 55 = .ok (.ldc2_w 33, 3) := by decide +kernel
theorem d3_58 : decode prog_2_method_4_code 58 = .ok (.dmul, 1) := by decide +kernel
theorem d3_59 : decode prog_2_method_4_code 59 = .ok (.dcmp .l, 1) := by decide +kernel
theorem d3_60 : decode prog_2_method_4_code 60 = .ok (.ifCond .le 20, 3) := by decide +kernel
theorem d3_80 : decode prog_2_method_4_code 80 = .ok (.iconst 1, 1) := by decide +kernel
theorem d3_81 : decode prog_2_method_4_code 81 = .ok (.ireturn, 1) := by decide +kernel
theorem d4_0 : decode prog_2_method_8_code 0 = .ok (.lload_n 0, 1) := by decide +kernel
theorem d4_1 : decode prog_2_method_8_code 1 = .ok (.lconst 0, 1) := by decide +kernel
theorem d4_2 : decode prog_2_method_8_code 2 = .ok (.lcmp, 1) := by decide +kernel
theorem d4_3 : decode prog_2_method_8_code 3 = .ok (.ifCond .ne 7, 3) := by decide +kernel
theorem d4_6 : decode prog_2_method_8_code 6 = .ok (.lconst 1, 1) := by decide +kernel
theorem d4_7 : decode prog_2_method_8_code 7 = .ok (.goto 4, 3) := by decide +kernel
theorem d4_10 : decode prog_2_method_8_code 10 = .ok (.lload_n 0, 1) := by decide +kernel
theorem d4_11 : decode prog_2_method_8_code 11 = .ok (.lreturn, 1) := by decide +kernel
theorem d5_0 : decode prog_2_method_7_code 0 = .ok (.lload_n 1, 1) := by decide +kernel
theorem d5_1 : decode prog_2_method_7_code 1 = .ok (.aload_n 0, 1) := by decide +kernel
theorem d5_2 : decode prog_2_method_7_code 2 = .ok (.getfield 9, 3) := by decide +kernel
theorem d5_5 : decode prog_2_method_7_code 5 = .ok (.arraylength, 1) := by decide +kernel
theorem d5_6 : decode prog_2_method_7_code 6 = .ok (.invokestatic 43, 3) := by decide +kernel
theorem d5_9 : decode prog_2_method_7_code 9 = .ok (.istore_n 3, 1) := by decide +kernel
theorem d5_10 : decode prog_2_method_7_code 10 = .ok (.aload_n 0, 1) := by decide +kernel
theorem d5_11 : decode prog_2_method_7_code 11 = .ok (.getfield 9, 3) := by decide +kernel
theorem d5_14 : decode prog_2_method_7_code 14 = .ok (.iload_n 3, 1) := by decide +kernel
theorem d5_15 : decode prog_2_method_7_code 15 = .ok (.laload, 1) := by decide +kernel
theorem d5_16 : decode prog_2_method_7_code 16 = .ok (.lconst 0, 1) := by decide +kernel
theorem d5_17 : decode prog_2_method_7_code 17 = .ok (.lcmp, 1) := by decide +kernel
theorem d5_18 : decode prog_2_method_7_code 18 = .ok (.ifCond .eq 23, 3) := by decide +kernel
theorem d5_21 : decode prog_2_method_7_code 21 = .ok (.aload_n 0, 1) := by decide +kernel
theorem d5_22 : decode prog_2_method_7_code 22 = .ok (.getfield 9, 3) := by decide +kernel
theorem d5_25 : decode prog_2_method_7_code 25 = .ok (.iload_n 3, 1) := by decide +kernel
theorem d5_26 : decode prog_2_method_7_code 26 = .ok (.laload, 1) := by decide +kernel
theorem d5_27 : decode prog_2_method_7_code 27 = .ok (.lload_n 1, 1) := by decide +kernel
theorem d5_28 : decode prog_2_method_7_code 28 = .ok (.lcmp, 1) := by decide +kernel
theorem d5_29 : decode prog_2_method_7_code 29 = .ok (.ifCond .eq 12, 3) := by decide +kernel
theorem d5_32 : decode prog_2_method_7_code 32 = .ok (.aload_n 0, 1) := by decide +kernel
theorem d5_33 : decode prog_2_method_7_code 33 = .ok (.iload_n 3, 1) := by decide +kernel
theorem d5_34 : decode prog_2_method_7_code 34 = .ok (.invokevirtual 39, 3) := by decide +kernel
theorem d5_37 : decode prog_2_method_7_code 37 = .ok (.istore_n 3, 1) := by decide +kernel
theorem d5_38 : decode prog_2_method_7_code 38 = .ok (.goto (-28), 3) := by decide +kernel
theorem d5_41 : decode prog_2_method_7_code 41 = .ok (.iload_n 3, 1) := by decide +kernel
theorem d5_42 : decode prog_2_method_7_code 42 = .ok (.ireturn, 1) := by decide +kernel
theorem d6_0 : decode prog_2_method_9_code 0 = .ok (.lload_n 0, 1) := by decide +kernel
theorem d6_1 : decode prog_2_method_9_code 1 = .ok (.bipush 32, 2) := by decide +kernel
theorem d6_3 : decode prog_2_method_9_code 3 = .ok (.lushr, 1) := by decide +kernel
theorem d6_4 : decode prog_2_method_9_code 4 = .ok (.iload_n 2, 1) := by decide +kernel
theorem d6_5 : decode prog_2_method_9_code 5 = .ok (.i2l, 1) := by decide +kernel
theorem d6_6 : decode prog_2_method_9_code 6 = .ok (.lmul, 1) := by decide +kernel
theorem d6_7 : decode prog_2_method_9_code 7 = .ok (.bipush 32, 2) := by decide +kernel
theorem d6_9 : decode prog_2_method_9_code 9 = .ok (.lushr, 1) := by decide +kernel
theorem d6_10 : decode prog_2_method_9_code 10 = .ok (.l2i, 1) := by decide +kernel
theorem d6_11 : decode prog_2_method_9_code 11 = .ok (.ireturn, 1) := by decide +kernel
theorem d7_0 : decode prog_2_method_10_code 0 = .ok (.iload_n 1, 1) := by decide +kernel
theorem d7_1 : decode prog_2_method_10_code 1 = .ok (.iconst 1, 1) := by decide +kernel
theorem d7_2 : decode prog_2_method_10_code 2 = .ok (.iadd, 1) := by decide +kernel
theorem d7_3 : decode prog_2_method_10_code 3 = .ok (.aload_n 0, 1) := by decide +kernel
theorem d7_4 : decode prog_2_method_10_code 4 = .ok (.getfield 9, 3) := by decide +kernel
theorem d7_7 : decode prog_2_method_10_code 7 = .ok (.arraylength, 1) := by decide +kernel
theorem d7_8 : decode prog_2_method_10_code 8 = .ok (.if_icmp .ne 7, 3) := by decide +kernel
theorem d7_11 : decode prog_2_method_10_code 11 = .ok (.iconst 0, 1) := by decide +kernel
theorem d7_12 : decode prog_2_method_10_code 12 = .ok (.goto 6, 3) := by decide +kernel
theorem d7_15 : decode prog_2_method_10_code 15 = .ok (.iload_n 1, 1) := by decide +kernel
theorem d7_16 : decode prog_2_method_10_code 16 = .ok (.iconst 1, 1) := by decide +kernel
theorem d7_17 : decode prog_2_method_10_code 17 = .ok (.iadd, 1) := by decide +kernel
theorem d7_18 : decode prog_2_method_10_code 18 = .ok (.ireturn, 1) := by decide +kernel
theorem d8_0 : decode prog_2_method_3_code 0 = .ok (.aload_n 0, 1) := by decide +kernel
theorem d8_1 : decode prog_2_method_3_code 1 = .ok (.getfield 21, 3) := by decide +kernel
theorem d8_4 : decode prog_2_method_3_code 4 = .ok (.ireturn, 1) := by decide +kernel
theorem d9_0 : decode method_2_code 0 = .ok (.lload_n 0, 1) := by decide +kernel
theorem d9_1 : decode method_2_code 1 = .ok (.lconst 0, 1) := by decide +kernel
theorem d9_2 : decode method_2_code 2 = .ok (.lcmp, 1) := by decide +kernel
theorem d9_3 : decode method_2_code 3 = .ok (.ifCond .ne 7, 3) := by decide +kernel
theorem d9_6 : decode method_2_code 6 = .ok (.lconst 1, 1) := by decide +kernel
theorem d9_7 : decode method_2_code 7 = .ok (.goto 4, 3) := by decide +kernel
theorem d9_10 : decode method_2_code 10 = .ok (.lload_n 0, 1) := by decide +kernel
theorem d9_11 : decode method_2_code 11 = .ok (.lreturn, 1) := by decide +kernel
theorem pd_0 : parseMethodDescriptor "(I)I" = some ⟨[.int], some .int⟩ := by decide +kernel
theorem pd_1 : parseMethodDescriptor "(JI)I" = some ⟨[.long, .int], some .int⟩ := by decide +kernel
theorem pd_2 : parseMethodDescriptor "(J)J" = some ⟨[.long], some .long⟩ := by decide +kernel
theorem pd_3 : parseMethodDescriptor "(J)I" = some ⟨[.long], some .int⟩ := by decide +kernel
theorem pd_4 : parseMethodDescriptor "()V" = some ⟨[], none⟩ := by decide +kernel
theorem pd_5 : parseMethodDescriptor "(J)Z" = some ⟨[.long], some .boolean⟩ := by decide +kernel
theorem pd_6 : parseMethodDescriptor "()I" = some ⟨[], some .int⟩ := by decide +kernel
theorem pn_1 : plainName "com/example/utsatt/utsatt/KeyHashes" = true := by first | (simp [plainName, overriddenIn]; done) | decide +kernel
theorem pn_9 : plainName "com/example/utsatt/utsatt/KeyHashesAddPinLaw" = true := by first | (simp [plainName, overriddenIn]; done) | decide +kernel
theorem ef_ini (m : MethodId) (x0 : Addr) : entryFrame m #[(.ref x0)] 1 = mkF m 0 #[.val (.ref x0)] [] := by first | (simp [entryFrame, mkF, argsToLocals, Value.category]; done) | rfl
theorem ef_sto (m : MethodId) (x0 : Int64) : entryFrame m #[(.long x0)] 2 = mkF m 0 #[.val (.long x0), .second] [] := by first | (simp [entryFrame, mkF, argsToLocals, Value.category]; done) | rfl
theorem ef_home (m : MethodId) (x0 : Int64) (x1 : Int32) : entryFrame m #[(.long x0), (.int x1)] 3 = mkF m 0 #[.val (.long x0), .second, .val (.int x1)] [] := by first | (simp [entryFrame, mkF, argsToLocals, Value.category]; done) | rfl
theorem ef_next (m : MethodId) (x0 : Addr) (x1 : Int32) : entryFrame m #[(.ref x0), (.int x1)] 2 = mkF m 0 #[.val (.ref x0), .val (.int x1)] [] := by first | (simp [entryFrame, mkF, argsToLocals, Value.category]; done) | rfl
theorem ef_slot (m : MethodId) (x0 : Addr) (x1 : Int64) : entryFrame m #[(.ref x0), (.long x1)] 4 = mkF m 0 #[.val (.ref x0), .val (.long x1), .second, .unset] [] := by first | (simp [entryFrame, mkF, argsToLocals, Value.category]; done) | rfl
theorem ef_siz (m : MethodId) (x0 : Addr) : entryFrame m #[(.ref x0)] 1 = mkF m 0 #[.val (.ref x0)] [] := by first | (simp [entryFrame, mkF, argsToLocals, Value.category]; done) | rfl
theorem ef_addO (m : MethodId) (x0 : Addr) (x1 : Int64) : entryFrame m #[(.ref x0), (.long x1)] 6 = mkF m 0 #[.val (.ref x0), .val (.long x1), .second, .unset, .unset, .unset] [] := by first | (simp [entryFrame, mkF, argsToLocals, Value.category]; done) | rfl
theorem ef_addN0 (m : MethodId) (x0 : Addr) (x1 : Int64) : entryFrame m #[(.ref x0), (.long x1)] 6 = mkF m 0 #[.val (.ref x0), .val (.long x1), .second, .unset, .unset, .unset] [] := by first | (simp [entryFrame, mkF, argsToLocals, Value.category]; done) | rfl
theorem ef_addN1 (m : MethodId) (x0 : Addr) (x1 : Int64) : entryFrame m #[(.ref x0), (.long x1)] 6 = mkF m 0 #[.val (.ref x0), .val (.long x1), .second, .unset, .unset, .unset] [] := by first | (simp [entryFrame, mkF, argsToLocals, Value.category]; done) | rfl
theorem ef_addN2 (m : MethodId) (x0 : Addr) (x1 : Int64) : entryFrame m #[(.ref x0), (.long x1)] 6 = mkF m 0 #[.val (.ref x0), .val (.long x1), .second, .unset, .unset, .unset] [] := by first | (simp [entryFrame, mkF, argsToLocals, Value.category]; done) | rfl
theorem ef_nrm (m : MethodId) (x0 : Int64) : entryFrame m #[(.long x0)] 2 = mkF m 0 #[.val (.long x0), .second] [] := by first | (simp [entryFrame, mkF, argsToLocals, Value.category]; done) | rfl
theorem ef_0 (m : MethodId) (x0 : Int64) (x1 : Int64) (x2 : Int64) : entryFrame m #[(.long x0), (.long x1), (.long x2)] maxLocals = mkF m 0 #[.val (.long x0), .second, .val (.long x1), .second, .val (.long x2), .second, .unset, .unset, .unset, .unset, .unset, .unset, .unset, .unset, .unset, .unset, .unset, .unset, .unset, .unset, .unset, .unset, .unset] [] := by first | (simp [entryFrame, mkF, argsToLocals, Value.category, maxLocals]; done) | rfl
def Qini (Z : State) (o : Addr) (h0 : Heap) (n0 : Nat) (v : Option Value) (h : Heap) (L : List Loc) : Prop := v = none ∧ Fr n0 L ∧ Keep h0 h [o] ∧ Exa Z h o "com/example/utsatt/utsatt/KeyHashes" ∧ Fld Z h o "com/example/utsatt/utsatt/KeyHashes" "size" "I" (.int (0 : Int32)) ∧ ∃ (t : Addr) (kc : ClassId), Fld Z h o "com/example/utsatt/utsatt/KeyHashes" "slots" "[J" (.ref t) ∧ Arv Z h t kc .long (16 : Int32) (own_emp.map Value.long) (.long (0 : Int64)) ∧ h0.size ≤ t
set_option maxRecDepth 65536 in
set_option maxHeartbeats 40000000 in
theorem rmini (l : Launch) (Z : State) (a0 : Array Value) (hw : ∀ d ∈ tables_1, d.before a0 Z = true) (ws : List Jvm.Cond) (o : Addr) (h0 : Heap) (n0 : Nat) (Z0 : n0 ≤ h0.size) (E_o : Exa Z h0 o "com/example/utsatt/utsatt/KeyHashes") (F_slots_o : Fld Z h0 o "com/example/utsatt/utsatt/KeyHashes" "slots" "[J" .null) (F_size_o : Fld Z h0 o "com/example/utsatt/utsatt/KeyHashes" "size" "I" (.int (0 : Int32))) (g_o : n0 ≤ o) :
    MetFree l (⟨"com/example/utsatt/utsatt/KeyHashes", "<init>", "()V"⟩ : MethodName) (head1 (Jvm.Cond.code (⟨"com/example/utsatt/utsatt/KeyHashes", "<init>", "()V"⟩ : MethodName) prog_2_method_1_code 1 none :: ws) ({ frames := 1, cells := 1, slots := 16, locals := 12 } : Room)) (fun as_ UU => as_ = #[(.ref o)] ∧ Z.Warmed39 UU.vm ∧ UU.heap = h0) (fun _ _ _ _ _ => True) (fun _ UU oo UU' => ∃ vv LL, oo = .returned vv ∧ (Qini Z o h0 n0) vv UU'.heap LL ∧ FrameEnd UU oo UU' LL ({ frames := 1, cells := 1, slots := 16, locals := 12 } : Room).cells ({ frames := 1, cells := 1, slots := 16, locals := 12 } : Room).slots) := by
  refine own_met (plainFor_of_name pn_1) ?_
  intro p e s m below meth c s₁ X0 hx hby hml hret hlk hown hnm hZ e0
  have N0 := Fr.nil n0
  have Z_ := Z0
  refine OwnGo.cast (ef_ini m o) ?_
  show OwnGo p e below s _ _ _ s₁ (mkF m 0 #[.val (.ref o)] [])
  have Kp : Keep h0 h0 [o] := Keep.refl h0 [o]
  refine OwnGo.st (fun _ kk => XS.aloadN X0.here hx rfl (hb hby d1_0) rfl rfl  kk) ?_
  show OwnGo p e below s _ _ _ s₁ (mkF m 1 #[.val (.ref o)] [(.ref o)])
  obtain ⟨T1, X1, e1, st1⟩ := initO X0 hx hZ hown (hw _ (List.mem_of_getElem? (i := 6) rfl)) (hw _ (List.mem_of_getElem? (i := 7) rfl)) (hw _ (List.mem_of_getElem? (i := 8) rfl)) e0 (g := (mkF m 1 #[.val (.ref o)] [(.ref o)])) rfl (by rw [hml]; rfl) rfl (hb hby d1_1) (by decide) (W := 0) (by show 2 * 0 + _ ≤ _; exact Nat.le_of_eq rfl) (by decide)
  refine OwnGo.st st1 ?_
  show OwnGo p e below s _ _ _ T1 (mkF m 4 #[.val (.ref o)] [])
  refine OwnGo.st (fun _ kk => XS.aloadN X1.here hx rfl (hb hby d1_4) rfl rfl  kk) ?_
  show OwnGo p e below s _ _ _ T1 (mkF m 5 #[.val (.ref o)] [(.ref o)])
  refine OwnGo.st (fun _ kk => XS.bipush X1.here hx rfl (hb hby d1_5) kk) ?_
  show OwnGo p e below s _ _ _ T1 (mkF m 7 #[.val (.ref o)] [(.int (16 : Int32)), (.ref o)])
  obtain ⟨T2, h2, k2, X2, e2, E2, A2, Ex2, st2⟩ := newPE X1 hx hZ (hw _ (List.mem_of_getElem? (i := 9) rfl)) e1 (g := (mkF m 7 #[.val (.ref o)] [(.int (16 : Int32)), (.ref o)])) rfl (hb hby d1_7) rfl (by decide) (cap := 16) (by decide) (by decide) (by decide) (by decide) (ad := "[J") (by decide)
  obtain ⟨b2, g2⟩ : ∃ z, z = h0.size := ⟨_, rfl⟩
  rw [← g2] at A2 Ex2 st2
  have ne_o_b2 : o ≠ b2 := Nat.ne_of_lt (Nat.lt_of_lt_of_le E_o.lt (Nat.le_of_eq g2.symm))
  have g_b2 : n0 ≤ b2 := Nat.le_trans Z_ (Nat.le_of_eq g2.symm)
  have sz_b2 : h0.size ≤ b2 := Nat.le_trans Kp.1 (Nat.le_of_eq g2.symm)
  have E_o := E_o.ext E2
  have F_slots_o := F_slots_o.ext E2
  have F_size_o := F_size_o.ext E2
  have Kp := Kp.ext E2
  have Z_ : n0 ≤ h2.size := Nat.le_trans Z_ E2.1
  have V_b2 : Arv Z h2 b2 k2 .long (16 : Int32) [(.long (0 : Int64)), (.long (0 : Int64)), (.long (0 : Int64)), (.long (0 : Int64)), (.long (0 : Int64)), (.long (0 : Int64)), (.long (0 : Int64)), (.long (0 : Int64)), (.long (0 : Int64)), (.long (0 : Int64)), (.long (0 : Int64)), (.long (0 : Int64)), (.long (0 : Int64)), (.long (0 : Int64)), (.long (0 : Int64)), (.long (0 : Int64))] (.long (0 : Int64)) := (Arv.new A2 (by decide)).pad (pad_rep [] (.long (0 : Int64)) 16)
  have E_b2 := Ex2
  refine OwnGo.st st2 ?_
  show OwnGo p e below s _ _ _ T2 (mkF m 9 #[.val (.ref o)] [(.ref b2), (.ref o)])
  obtain ⟨T3, h3, X3, e3, W3, st3⟩ := putF X2 hx hZ hown (host := "") (Or.inl (hw _ (List.mem_of_getElem? (i := 10) rfl))) Via.refl e2 F_slots_o E_o (Or.inl (hw _ (List.mem_of_getElem? (i := 11) rfl))) (hw _ (List.mem_of_getElem? (i := 1) rfl)) (ty := (.array .long)) (by decide) rfl rfl (g := (mkF m 9 #[.val (.ref o)] [(.ref b2), (.ref o)])) rfl rfl (hb hby d1_9)
  have E_o := E_o.wr W3
  have F_slots_o := F_slots_o.same W3
  have F_size_o := F_size_o.other W3 (Or.inr (slot_ne (Or.inl (hw _ (List.mem_of_getElem? (i := 28) rfl))) (Or.inl (hw _ (List.mem_of_getElem? (i := 11) rfl))) (by decide) (t := .int) (t' := (.array .long)) (by decide) (by decide)))
  have V_b2 := V_b2.other W3 (Ne.symm ne_o_b2)
  have E_b2 := E_b2.wr W3
  have Kp := Kp.wr W3 (Or.inl (List.mem_of_getElem? (i := 0) rfl))
  have N3 := Fr.snoc X3 N0 g_o
  have Z_ : n0 ≤ h3.size := by rw [W3.size]; exact Z_
  refine OwnGo.st st3 ?_
  show OwnGo p e below s _ _ _ T3 (mkF m 12 #[.val (.ref o)] [])
  exact OwnGo.retV X3 hx hret hlk (hb hby d1_12) (by show Qini Z o h0 n0 _ T3.heap _; rw [e3]; exact ⟨rfl, N3, Kp, E_o, F_size_o, b2, k2, F_slots_o, V_b2, sz_b2⟩) (by decide) (by decide)
def Qsto (Z : State) (p1 : Int64) (h0 : Heap) (n0 : Nat) (v : Option Value) (h : Heap) (L : List Loc) : Prop := v = some (.long (own_st p1)) ∧ Fr n0 L ∧ h = h0
set_option maxRecDepth 65536 in
set_option maxHeartbeats 40000000 in
theorem rmsto (l : Launch) (Z : State) (a0 : Array Value) (hw : ∀ d ∈ tables_1, d.before a0 Z = true) (ws : List Jvm.Cond) (p1 : Int64) (h0 : Heap) (n0 : Nat) (Z0 : n0 ≤ h0.size) :
    MetFree l (⟨"com/example/utsatt/utsatt/KeyHashes", "stored", "(J)J"⟩ : MethodName) (head1 (Jvm.Cond.code (⟨"com/example/utsatt/utsatt/KeyHashes", "stored", "(J)J"⟩ : MethodName) prog_2_method_8_code 2 (some .long) :: ws) ({ frames := 0, cells := 0, slots := 0, locals := 0 } : Room)) (fun as_ UU => as_ = #[(.long p1)] ∧ Z.Warmed39 UU.vm ∧ UU.heap = h0) (fun _ _ _ _ _ => True) (fun _ UU oo UU' => ∃ vv LL, oo = .returned vv ∧ (Qsto Z p1 h0 n0) vv UU'.heap LL ∧ FrameEnd UU oo UU' LL ({ frames := 0, cells := 0, slots := 0, locals := 0 } : Room).cells ({ frames := 0, cells := 0, slots := 0, locals := 0 } : Room).slots) := by
  refine own_met (plainFor_of_name pn_1) ?_
  intro p e s m below meth c s₁ X0 hx hby hml hret hlk hown hnm hZ e0
  have N0 := Fr.nil n0
  have Z_ := Z0
  refine OwnGo.cast (ef_sto m p1) ?_
  show OwnGo p e below s _ _ _ s₁ (mkF m 0 #[.val (.long p1), .second] [])
  refine OwnGo.st (fun _ kk => XS.lloadN X0.here hx rfl (hb hby d4_0) rfl  kk) ?_
  show OwnGo p e below s _ _ _ s₁ (mkF m 1 #[.val (.long p1), .second] [(.long p1)])
  refine OwnGo.st (fun _ kk => XS.lconst X0.here hx rfl (hb hby d4_1) kk) ?_
  show OwnGo p e below s _ _ _ s₁ (mkF m 2 #[.val (.long p1), .second] [(.long (0 : Int64)), (.long p1)])
  refine OwnGo.st (fun _ kk => XS.lcmp X0.here hx rfl (hb hby d4_2) rfl kk) ?_
  show OwnGo p e below s _ _ _ s₁ (mkF m 3 #[.val (.long p1), .second] [(.int (lcmpW p1 (0 : Int64)))])
  by_cases hz : p1 = (0 : Int64)
  · refine OwnGo.st (fun _ kk => XS.ifNo X0.here hx rfl (hb hby d4_3) rfl ((if0 _ _).trans (teq (((lw_eq _ _).2 hz) : (lcmpW p1 (0 : Int64)) = (0 : Int32))).2) kk) ?_
    show OwnGo p e below s _ _ _ s₁ (mkF m 6 #[.val (.long p1), .second] [])
    refine OwnGo.st (fun _ kk => XS.lconst X0.here hx rfl (hb hby d4_6) kk) ?_
    show OwnGo p e below s _ _ _ s₁ (mkF m 7 #[.val (.long p1), .second] [(.long (1 : Int64))])
    refine OwnGo.st (fun _ kk => XS.goto X0.here hx rfl (pc0 := 7) (pc' := 11) rfl (hb hby d4_7) (by decide) (by decide) kk) ?_
    show OwnGo p e below s _ _ _ s₁ (mkF m 11 #[.val (.long p1), .second] [(.long (1 : Int64))])
    exact OwnGo.ret X0 hx hret hlk rfl (Or.inr (Or.inl ⟨rfl, rfl, _, rfl⟩)) (hb hby d4_11) (by show Qsto Z p1 h0 n0 _ s₁.heap _; rw [e0]; exact ⟨congrArg (fun z => some (Value.long z)) (own_st0 hz).symm, N0, rfl⟩) (by decide) (by decide)
  · refine OwnGo.st (fun _ kk => XS.ifYes X0.here hx rfl (pc0 := 3) (pc' := 10) rfl (hb hby d4_3) rfl ((if0 _ _).trans (feq ((fun q => hz ((lw_eq _ _).1 q)) : ¬ ((lcmpW p1 (0 : Int64)) = (0 : Int32)))).2) (by decide) (by decide) kk) ?_
    show OwnGo p e below s _ _ _ s₁ (mkF m 10 #[.val (.long p1), .second] [])
    refine OwnGo.st (fun _ kk => XS.lloadN X0.here hx rfl (hb hby d4_10) rfl  kk) ?_
    show OwnGo p e below s _ _ _ s₁ (mkF m 11 #[.val (.long p1), .second] [(.long p1)])
    exact OwnGo.ret X0 hx hret hlk rfl (Or.inr (Or.inl ⟨rfl, rfl, _, rfl⟩)) (hb hby d4_11) (by show Qsto Z p1 h0 n0 _ s₁.heap _; rw [e0]; exact ⟨congrArg (fun z => some (Value.long z)) (own_st1 hz).symm, N0, rfl⟩) (by decide) (by decide)
def Qhome (Z : State) (x : Int64) (h0 : Heap) (n0 : Nat) (v : Option Value) (h : Heap) (L : List Loc) : Prop := v = some (.int (Int32.ofNat (own_home x))) ∧ Fr n0 L ∧ h = h0
set_option maxRecDepth 65536 in
set_option maxHeartbeats 40000000 in
theorem rmhome (l : Launch) (Z : State) (a0 : Array Value) (hw : ∀ d ∈ tables_1, d.before a0 Z = true) (ws : List Jvm.Cond) (x : Int64) (h0 : Heap) (n0 : Nat) (Z0 : n0 ≤ h0.size) :
    MetFree l (⟨"com/example/utsatt/utsatt/KeyHashes", "home", "(JI)I"⟩ : MethodName) (head1 (Jvm.Cond.code (⟨"com/example/utsatt/utsatt/KeyHashes", "home", "(JI)I"⟩ : MethodName) prog_2_method_9_code 3 (some .int) :: ws) ({ frames := 0, cells := 0, slots := 0, locals := 0 } : Room)) (fun as_ UU => as_ = #[(.long x), (.int (16 : Int32))] ∧ Z.Warmed39 UU.vm ∧ UU.heap = h0) (fun _ _ _ _ _ => True) (fun _ UU oo UU' => ∃ vv LL, oo = .returned vv ∧ (Qhome Z x h0 n0) vv UU'.heap LL ∧ FrameEnd UU oo UU' LL ({ frames := 0, cells := 0, slots := 0, locals := 0 } : Room).cells ({ frames := 0, cells := 0, slots := 0, locals := 0 } : Room).slots) := by
  refine own_met (plainFor_of_name pn_1) ?_
  intro p e s m below meth c s₁ X0 hx hby hml hret hlk hown hnm hZ e0
  have N0 := Fr.nil n0
  have Z_ := Z0
  refine OwnGo.cast (ef_home m x (16 : Int32)) ?_
  show OwnGo p e below s _ _ _ s₁ (mkF m 0 #[.val (.long x), .second, .val (.int (16 : Int32))] [])
  refine OwnGo.st (fun _ kk => XS.lloadN X0.here hx rfl (hb hby d6_0) rfl  kk) ?_
  show OwnGo p e below s _ _ _ s₁ (mkF m 1 #[.val (.long x), .second, .val (.int (16 : Int32))] [(.long x)])
  refine OwnGo.st (fun _ kk => XS.bipush X0.here hx rfl (hb hby d6_1) kk) ?_
  show OwnGo p e below s _ _ _ s₁ (mkF m 3 #[.val (.long x), .second, .val (.int (16 : Int32))] [(.int (32 : Int32)), (.long x)])
  refine OwnGo.st (fun _ kk => XS.lushr X0.here hx rfl (hb hby d6_3) rfl kk) ?_
  show OwnGo p e below s _ _ _ s₁ (mkF m 4 #[.val (.long x), .second, .val (.int (16 : Int32))] [(.long ((x.toUInt64 >>> ((32 : Int32) &&& 0x3f).toInt64.toUInt64).toInt64))])
  refine OwnGo.st (fun _ kk => XS.iloadN X0.here hx rfl (hb hby d6_4) rfl  kk) ?_
  show OwnGo p e below s _ _ _ s₁ (mkF m 5 #[.val (.long x), .second, .val (.int (16 : Int32))] [(.int (16 : Int32)), (.long ((x.toUInt64 >>> ((32 : Int32) &&& 0x3f).toInt64.toUInt64).toInt64))])
  refine OwnGo.st (fun _ kk => XS.i2l X0.here hx rfl (hb hby d6_5) rfl kk) ?_
  show OwnGo p e below s _ _ _ s₁ (mkF m 6 #[.val (.long x), .second, .val (.int (16 : Int32))] [(.long ((16 : Int32).toInt64)), (.long ((x.toUInt64 >>> ((32 : Int32) &&& 0x3f).toInt64.toUInt64).toInt64))])
  refine OwnGo.st (fun _ kk => XS.lmul X0.here hx rfl (hb hby d6_6) rfl kk) ?_
  show OwnGo p e below s _ _ _ s₁ (mkF m 7 #[.val (.long x), .second, .val (.int (16 : Int32))] [(.long (((x.toUInt64 >>> ((32 : Int32) &&& 0x3f).toInt64.toUInt64).toInt64) * ((16 : Int32).toInt64)))])
  refine OwnGo.st (fun _ kk => XS.bipush X0.here hx rfl (hb hby d6_7) kk) ?_
  show OwnGo p e below s _ _ _ s₁ (mkF m 9 #[.val (.long x), .second, .val (.int (16 : Int32))] [(.int (32 : Int32)), (.long (((x.toUInt64 >>> ((32 : Int32) &&& 0x3f).toInt64.toUInt64).toInt64) * ((16 : Int32).toInt64)))])
  refine OwnGo.st (fun _ kk => XS.lushr X0.here hx rfl (hb hby d6_9) rfl kk) ?_
  show OwnGo p e below s _ _ _ s₁ (mkF m 10 #[.val (.long x), .second, .val (.int (16 : Int32))] [(.long (((((x.toUInt64 >>> ((32 : Int32) &&& 0x3f).toInt64.toUInt64).toInt64) * ((16 : Int32).toInt64)).toUInt64 >>> ((32 : Int32) &&& 0x3f).toInt64.toUInt64).toInt64))])
  refine OwnGo.st (fun _ kk => XS.l2i X0.here hx rfl (hb hby d6_10) rfl kk) ?_
  show OwnGo p e below s _ _ _ s₁ (mkF m 11 #[.val (.long x), .second, .val (.int (16 : Int32))] [(.int ((((((x.toUInt64 >>> ((32 : Int32) &&& 0x3f).toInt64.toUInt64).toInt64) * ((16 : Int32).toInt64)).toUInt64 >>> ((32 : Int32) &&& 0x3f).toInt64.toUInt64).toInt64).toInt32))])
  show OwnGo p e below s _ _ _ s₁ (mkF m 11 #[.val (.long x), .second, .val (.int (16 : Int32))] [(.int (own_hx x))])
  exact OwnGo.ret X0 hx hret hlk rfl (Or.inl ⟨rfl, Or.inl rfl, _, rfl⟩) (hb hby d6_11) (by show Qhome Z x h0 n0 _ s₁.heap _; rw [e0]; exact ⟨congrArg (fun z => some (Value.int z)) (own_home_eq x), N0, rfl⟩) (by decide) (by decide)
def Qnext (Z : State) (o : Addr) (t : Addr) (kc : ClassId) (vs : List Int64) (j : Nat) (h0 : Heap) (n0 : Nat) (v : Option Value) (h : Heap) (L : List Loc) : Prop := v = some (.int (Int32.ofNat (own_nx j))) ∧ Fr n0 L ∧ h = h0
set_option maxRecDepth 65536 in
set_option maxHeartbeats 40000000 in
theorem rmnext (l : Launch) (Z : State) (a0 : Array Value) (hw : ∀ d ∈ tables_1, d.before a0 Z = true) (ws : List Jvm.Cond) (o : Addr) (t : Addr) (kc : ClassId) (vs : List Int64) (j : Nat) (h0 : Heap) (n0 : Nat) (Z0 : n0 ≤ h0.size) (E_o : Exa Z h0 o "com/example/utsatt/utsatt/KeyHashes") (Fs : Fld Z h0 o "com/example/utsatt/utsatt/KeyHashes" "slots" "[J" (.ref t)) (V : Arv Z h0 t kc .long (16 : Int32) (vs.map Value.long) (.long (0 : Int64))) (hl : vs.length = 16) (hj : j < 16) :
    MetFree l (⟨"com/example/utsatt/utsatt/KeyHashes", "next", "(I)I"⟩ : MethodName) (head1 (Jvm.Cond.code (⟨"com/example/utsatt/utsatt/KeyHashes", "next", "(I)I"⟩ : MethodName) prog_2_method_10_code 2 (some .int) :: ws) ({ frames := 0, cells := 0, slots := 0, locals := 0 } : Room)) (fun as_ UU => as_ = #[(.ref o), (.int (Int32.ofNat j))] ∧ Z.Warmed39 UU.vm ∧ UU.heap = h0) (fun _ _ _ _ _ => True) (fun _ UU oo UU' => ∃ vv LL, oo = .returned vv ∧ (Qnext Z o t kc vs j h0 n0) vv UU'.heap LL ∧ FrameEnd UU oo UU' LL ({ frames := 0, cells := 0, slots := 0, locals := 0 } : Room).cells ({ frames := 0, cells := 0, slots := 0, locals := 0 } : Room).slots) := by
  refine own_met (plainFor_of_name pn_1) ?_
  intro p e s m below meth c s₁ X0 hx hby hml hret hlk hown hnm hZ e0
  have N0 := Fr.nil n0
  have Z_ := Z0
  refine OwnGo.cast (ef_next m o (Int32.ofNat j)) ?_
  show OwnGo p e below s _ _ _ s₁ (mkF m 0 #[.val (.ref o), .val (.int (Int32.ofNat j))] [])
  refine OwnGo.st (fun _ kk => XS.iloadN X0.here hx rfl (hb hby d7_0) rfl  kk) ?_
  show OwnGo p e below s _ _ _ s₁ (mkF m 1 #[.val (.ref o), .val (.int (Int32.ofNat j))] [(.int (Int32.ofNat j))])
  refine OwnGo.st (fun _ kk => XS.iconst X0.here hx rfl (hb hby d7_1) kk) ?_
  show OwnGo p e below s _ _ _ s₁ (mkF m 2 #[.val (.ref o), .val (.int (Int32.ofNat j))] [(.int (1 : Int32)), (.int (Int32.ofNat j))])
  refine OwnGo.st (fun _ kk => XS.iadd X0.here hx rfl (hb hby d7_2) rfl kk) ?_
  show OwnGo p e below s _ _ _ s₁ (mkF m 3 #[.val (.ref o), .val (.int (Int32.ofNat j))] [(.int ((Int32.ofNat j) + (1 : Int32)))])
  refine OwnGo.st (fun _ kk => XS.aloadN X0.here hx rfl (hb hby d7_3) rfl rfl  kk) ?_
  show OwnGo p e below s _ _ _ s₁ (mkF m 4 #[.val (.ref o), .val (.int (Int32.ofNat j))] [(.ref o), (.int ((Int32.ofNat j) + (1 : Int32)))])
  obtain ⟨T4, X4, e4, st4⟩ := getF X0 hx hZ hown (host := "") (Or.inl (hw _ (List.mem_of_getElem? (i := 10) rfl))) Via.refl e0 Fs (g := (mkF m 4 #[.val (.ref o), .val (.int (Int32.ofNat j))] [(.ref o), (.int ((Int32.ofNat j) + (1 : Int32)))])) rfl rfl (hb hby d7_4)
  refine OwnGo.st st4 ?_
  show OwnGo p e below s _ _ _ T4 (mkF m 7 #[.val (.ref o), .val (.int (Int32.ofNat j))] [(.ref t), (.int ((Int32.ofNat j) + (1 : Int32)))])
  obtain ⟨cl5, Ar5, -, S5, N5, -, -⟩ := id V
  refine OwnGo.st (fun _ kk => own_len hZ (len_of S5 N5) Ar5 X4 e4 hx (g := (mkF m 7 #[.val (.ref o), .val (.int (Int32.ofNat j))] [(.ref t), (.int ((Int32.ofNat j) + (1 : Int32)))])) rfl rfl (hb hby d7_7) _ kk) ?_
  show OwnGo p e below s _ _ _ T4 (mkF m 8 #[.val (.ref o), .val (.int (Int32.ofNat j))] [(.int (16 : Int32)), (.int ((Int32.ofNat j) + (1 : Int32)))])
  by_cases hc : ((Int32.ofNat j) + (1 : Int32)) = (16 : Int32)
  · refine OwnGo.st (fun _ kk => XS.icmpNo X4.here hx rfl (hb hby d7_8) rfl (teq (hc : ((Int32.ofNat j) + (1 : Int32)) = (16 : Int32))).2 kk) ?_
    show OwnGo p e below s _ _ _ T4 (mkF m 11 #[.val (.ref o), .val (.int (Int32.ofNat j))] [])
    refine OwnGo.st (fun _ kk => XS.iconst X4.here hx rfl (hb hby d7_11) kk) ?_
    show OwnGo p e below s _ _ _ T4 (mkF m 12 #[.val (.ref o), .val (.int (Int32.ofNat j))] [(.int (0 : Int32))])
    refine OwnGo.st (fun _ kk => XS.goto X4.here hx rfl (pc0 := 12) (pc' := 18) rfl (hb hby d7_12) (by decide) (by decide) kk) ?_
    show OwnGo p e below s _ _ _ T4 (mkF m 18 #[.val (.ref o), .val (.int (Int32.ofNat j))] [(.int (0 : Int32))])
    have q := (own_nx16 hj).1 hc
    exact OwnGo.ret X4 hx hret hlk rfl (Or.inl ⟨rfl, Or.inl rfl, _, rfl⟩) (hb hby d7_18) (by show Qnext Z o t kc vs j h0 n0 _ T4.heap _; rw [e4]; exact ⟨congrArg (fun z => some (Value.int z)) (show (0 : Int32) = Int32.ofNat (own_nx j) by unfold own_nx; rw [if_pos q]; rfl), N0, rfl⟩) (by decide) (by decide)
  · refine OwnGo.st (fun _ kk => XS.icmpYes X4.here hx rfl (pc0 := 8) (pc' := 15) rfl (hb hby d7_8) rfl (feq (hc : ¬ (((Int32.ofNat j) + (1 : Int32)) = (16 : Int32)))).2 (by decide) (by decide) kk) ?_
    show OwnGo p e below s _ _ _ T4 (mkF m 15 #[.val (.ref o), .val (.int (Int32.ofNat j))] [])
    refine OwnGo.st (fun _ kk => XS.iloadN X4.here hx rfl (hb hby d7_15) rfl  kk) ?_
    show OwnGo p e below s _ _ _ T4 (mkF m 16 #[.val (.ref o), .val (.int (Int32.ofNat j))] [(.int (Int32.ofNat j))])
    refine OwnGo.st (fun _ kk => XS.iconst X4.here hx rfl (hb hby d7_16) kk) ?_
    show OwnGo p e below s _ _ _ T4 (mkF m 17 #[.val (.ref o), .val (.int (Int32.ofNat j))] [(.int (1 : Int32)), (.int (Int32.ofNat j))])
    refine OwnGo.st (fun _ kk => XS.iadd X4.here hx rfl (hb hby d7_17) rfl kk) ?_
    show OwnGo p e below s _ _ _ T4 (mkF m 18 #[.val (.ref o), .val (.int (Int32.ofNat j))] [(.int ((Int32.ofNat j) + (1 : Int32)))])
    have q := fun z => hc ((own_nx16 hj).2 z)
    exact OwnGo.ret X4 hx hret hlk rfl (Or.inl ⟨rfl, Or.inl rfl, _, rfl⟩) (hb hby d7_18) (by show Qnext Z o t kc vs j h0 n0 _ T4.heap _; rw [e4]; exact ⟨congrArg (fun z => some (Value.int z)) (show (Int32.ofNat j + (1 : Int32)) = Int32.ofNat (own_nx j) by unfold own_nx; rw [if_neg q, inc_ofNat]), N0, rfl⟩) (by decide) (by decide)
def Qslot (Z : State) (o : Addr) (t : Addr) (kc : ClassId) (vs : List Int64) (x : Int64) (h0 : Heap) (n0 : Nat) (v : Option Value) (h : Heap) (L : List Loc) : Prop := ∃ r k : Nat, r < 16 ∧ v = some (.int (Int32.ofNat r)) ∧ own_path vs x k (own_home x) r ∧ Fr n0 L ∧ h = h0
set_option maxRecDepth 65536 in
set_option maxHeartbeats 40000000 in
theorem sg_slot {p : Program} {l : Launch} {e : Env} {s : State} {m : MethodId} {below : List Frame} {meth : Method} {c : Code} {Z : State} {a0 : Array Value} {T0 : State} {locs : List Loc} (o : Addr) (t : Addr) (kc : ClassId) (vs : List Int64) (x : Int64) (d : Nat) (j : Nat) (h0 : Heap) (n0 : Nat) (hw : ∀ d ∈ tables_1, d.before a0 Z = true)
    (X0 : Stand p l e ({ frames := 1, cells := 0, slots := 0, locals := 17 } : Room) s m #[(.ref o), (.long x)] below meth c T0 locs 0 0) (hx : p.tables.exec = Jvm.exec) (hby : c.code = prog_2_method_7_code) (hml : c.maxLocals = 4) (hret : meth.sig.returnType = (some .int)) (hlk : meth.locks = false) (hown : s.vm.findClass "com/example/utsatt/utsatt/KeyHashes" = some m.cls) (hnm : meth.name = "slotOf") (hZ : Z.Warmed39 s.vm) (e0 : T0.heap = h0) (N0 : Fr n0 locs) (E_o : Exa Z h0 o "com/example/utsatt/utsatt/KeyHashes") (Fs : Fld Z h0 o "com/example/utsatt/utsatt/KeyHashes" "slots" "[J" (.ref t)) (V : Arv Z h0 t kc .long (16 : Int32) (vs.map Value.long) (.long (0 : Int64))) (hl : vs.length = 16) (Z_ : n0 ≤ h0.size) (hj : j < 16) (hd : own_at vs (own_it d j) = 0) (hp : ∀ k r, own_path vs x k j r → ∃ k', own_path vs x k' (own_home x) r) :
    OwnGo p e below s ({ frames := 1, cells := 0, slots := 0, locals := 17 } : Room).cells ({ frames := 1, cells := 0, slots := 0, locals := 17 } : Room).slots (Qslot Z o t kc vs x h0 n0) T0 (mkF m 10 #[.val (.ref o), .val (.long x), .second, .val (.int (Int32.ofNat j))] []) := by
  induction d generalizing T0 locs j with
  | zero =>
    refine OwnGo.st (fun _ kk => XS.aloadN X0.here hx rfl (hb hby d5_10) rfl rfl  kk) ?_
    show OwnGo p e below s _ _ _ T0 (mkF m 11 #[.val (.ref o), .val (.long x), .second, .val (.int (Int32.ofNat j))] [(.ref o)])
    obtain ⟨T6, X6, e6, st6⟩ := getF X0 hx hZ hown (host := "") (Or.inl (hw _ (List.mem_of_getElem? (i := 10) rfl))) Via.refl e0 Fs (g := (mkF m 11 #[.val (.ref o), .val (.long x), .second, .val (.int (Int32.ofNat j))] [(.ref o)])) rfl rfl (hb hby d5_11)
    refine OwnGo.st st6 ?_
    show OwnGo p e below s _ _ _ T6 (mkF m 14 #[.val (.ref o), .val (.long x), .second, .val (.int (Int32.ofNat j))] [(.ref t)])
    refine OwnGo.st (fun _ kk => XS.iloadN X6.here hx rfl (hb hby d5_14) rfl  kk) ?_
    show OwnGo p e below s _ _ _ T6 (mkF m 15 #[.val (.ref o), .val (.long x), .second, .val (.int (Int32.ofNat j))] [(.int (Int32.ofNat j)), (.ref t)])
    obtain ⟨cl7, Ar7, -, S7, -, H7, -⟩ := id V
    have hin7 : ¬ ((Int32.ofNat j) < 0 ∨ cl7.slots.size ≤ ((Int32.ofNat j)).toNatClampNeg) := inb_of S7 (own_inb hj)
    refine OwnGo.st (fun _ kk => X6.laload hx (j := (Int32.ofNat j)) (v := (.long (own_at vs j))) (by first | exact Ar7.1 | (rw [e6]; exact Ar7.1)) (State.isArrayOf_alike hZ.alike Ar7.2.1) Ar7.2.2 hin7 (H7.at hin7 (own_get hl hj)) (g := (mkF m 15 #[.val (.ref o), .val (.long x), .second, .val (.int (Int32.ofNat j))] [(.int (Int32.ofNat j)), (.ref t)])) rfl rfl (hb hby d5_15) _ kk) ?_
    show OwnGo p e below s _ _ _ T6 (mkF m 16 #[.val (.ref o), .val (.long x), .second, .val (.int (Int32.ofNat j))] [(.long (own_at vs j))])
    refine OwnGo.st (fun _ kk => XS.lconst X6.here hx rfl (hb hby d5_16) kk) ?_
    show OwnGo p e below s _ _ _ T6 (mkF m 17 #[.val (.ref o), .val (.long x), .second, .val (.int (Int32.ofNat j))] [(.long (0 : Int64)), (.long (own_at vs j))])
    refine OwnGo.st (fun _ kk => XS.lcmp X6.here hx rfl (hb hby d5_17) rfl kk) ?_
    show OwnGo p e below s _ _ _ T6 (mkF m 18 #[.val (.ref o), .val (.long x), .second, .val (.int (Int32.ofNat j))] [(.int (lcmpW (own_at vs j) (0 : Int64)))])
    refine OwnGo.st (fun _ kk => XS.ifYes X6.here hx rfl (pc0 := 18) (pc' := 41) rfl (hb hby d5_18) rfl ((if0 _ _).trans (teq (((lw_eq _ _).2 hd) : (lcmpW (own_at vs j) (0 : Int64)) = (0 : Int32))).1) (by decide) (by decide) kk) ?_
    show OwnGo p e below s _ _ _ T6 (mkF m 41 #[.val (.ref o), .val (.long x), .second, .val (.int (Int32.ofNat j))] [])
    refine OwnGo.st (fun _ kk => XS.iloadN X6.here hx rfl (hb hby d5_41) rfl  kk) ?_
    show OwnGo p e below s _ _ _ T6 (mkF m 42 #[.val (.ref o), .val (.long x), .second, .val (.int (Int32.ofNat j))] [(.int (Int32.ofNat j))])
    obtain ⟨k', hk'⟩ := hp 0 j ⟨rfl, Or.inl hd⟩
    exact OwnGo.ret X6 hx hret hlk rfl (Or.inl ⟨rfl, Or.inl rfl, _, rfl⟩) (hb hby d5_42) (by show Qslot Z o t kc vs x h0 n0 _ T6.heap _; rw [e6]; exact ⟨j, k', hj, rfl, hk', N0, rfl⟩) (by decide) (by decide)
  | succ d ih =>
    refine OwnGo.st (fun _ kk => XS.aloadN X0.here hx rfl (hb hby d5_10) rfl rfl  kk) ?_
    show OwnGo p e below s _ _ _ T0 (mkF m 11 #[.val (.ref o), .val (.long x), .second, .val (.int (Int32.ofNat j))] [(.ref o)])
    obtain ⟨T8, X8, e8, st8⟩ := getF X0 hx hZ hown (host := "") (Or.inl (hw _ (List.mem_of_getElem? (i := 10) rfl))) Via.refl e0 Fs (g := (mkF m 11 #[.val (.ref o), .val (.long x), .second, .val (.int (Int32.ofNat j))] [(.ref o)])) rfl rfl (hb hby d5_11)
    refine OwnGo.st st8 ?_
    show OwnGo p e below s _ _ _ T8 (mkF m 14 #[.val (.ref o), .val (.long x), .second, .val (.int (Int32.ofNat j))] [(.ref t)])
    refine OwnGo.st (fun _ kk => XS.iloadN X8.here hx rfl (hb hby d5_14) rfl  kk) ?_
    show OwnGo p e below s _ _ _ T8 (mkF m 15 #[.val (.ref o), .val (.long x), .second, .val (.int (Int32.ofNat j))] [(.int (Int32.ofNat j)), (.ref t)])
    obtain ⟨cl9, Ar9, -, S9, -, H9, -⟩ := id V
    have hin9 : ¬ ((Int32.ofNat j) < 0 ∨ cl9.slots.size ≤ ((Int32.ofNat j)).toNatClampNeg) := inb_of S9 (own_inb hj)
    refine OwnGo.st (fun _ kk => X8.laload hx (j := (Int32.ofNat j)) (v := (.long (own_at vs j))) (by first | exact Ar9.1 | (rw [e8]; exact Ar9.1)) (State.isArrayOf_alike hZ.alike Ar9.2.1) Ar9.2.2 hin9 (H9.at hin9 (own_get hl hj)) (g := (mkF m 15 #[.val (.ref o), .val (.long x), .second, .val (.int (Int32.ofNat j))] [(.int (Int32.ofNat j)), (.ref t)])) rfl rfl (hb hby d5_15) _ kk) ?_
    show OwnGo p e below s _ _ _ T8 (mkF m 16 #[.val (.ref o), .val (.long x), .second, .val (.int (Int32.ofNat j))] [(.long (own_at vs j))])
    refine OwnGo.st (fun _ kk => XS.lconst X8.here hx rfl (hb hby d5_16) kk) ?_
    show OwnGo p e below s _ _ _ T8 (mkF m 17 #[.val (.ref o), .val (.long x), .second, .val (.int (Int32.ofNat j))] [(.long (0 : Int64)), (.long (own_at vs j))])
    refine OwnGo.st (fun _ kk => XS.lcmp X8.here hx rfl (hb hby d5_17) rfl kk) ?_
    show OwnGo p e below s _ _ _ T8 (mkF m 18 #[.val (.ref o), .val (.long x), .second, .val (.int (Int32.ofNat j))] [(.int (lcmpW (own_at vs j) (0 : Int64)))])
    by_cases h0_ : own_at vs j = (0 : Int64)
    · refine OwnGo.st (fun _ kk => XS.ifYes X8.here hx rfl (pc0 := 18) (pc' := 41) rfl (hb hby d5_18) rfl ((if0 _ _).trans (teq (((lw_eq _ _).2 h0_) : (lcmpW (own_at vs j) (0 : Int64)) = (0 : Int32))).1) (by decide) (by decide) kk) ?_
      show OwnGo p e below s _ _ _ T8 (mkF m 41 #[.val (.ref o), .val (.long x), .second, .val (.int (Int32.ofNat j))] [])
      refine OwnGo.st (fun _ kk => XS.iloadN X8.here hx rfl (hb hby d5_41) rfl  kk) ?_
      show OwnGo p e below s _ _ _ T8 (mkF m 42 #[.val (.ref o), .val (.long x), .second, .val (.int (Int32.ofNat j))] [(.int (Int32.ofNat j))])
      obtain ⟨k', hk'⟩ := hp 0 j ⟨rfl, Or.inl h0_⟩
      exact OwnGo.ret X8 hx hret hlk rfl (Or.inl ⟨rfl, Or.inl rfl, _, rfl⟩) (hb hby d5_42) (by show Qslot Z o t kc vs x h0 n0 _ T8.heap _; rw [e8]; exact ⟨j, k', hj, rfl, hk', N0, rfl⟩) (by decide) (by decide)
    · refine OwnGo.st (fun _ kk => XS.ifNo X8.here hx rfl (hb hby d5_18) rfl ((if0 _ _).trans (feq ((fun z => h0_ ((lw_eq _ _).1 z)) : ¬ ((lcmpW (own_at vs j) (0 : Int64)) = (0 : Int32)))).1) kk) ?_
      show OwnGo p e below s _ _ _ T8 (mkF m 21 #[.val (.ref o), .val (.long x), .second, .val (.int (Int32.ofNat j))] [])
      refine OwnGo.st (fun _ kk => XS.aloadN X8.here hx rfl (hb hby d5_21) rfl rfl  kk) ?_
      show OwnGo p e below s _ _ _ T8 (mkF m 22 #[.val (.ref o), .val (.long x), .second, .val (.int (Int32.ofNat j))] [(.ref o)])
      obtain ⟨T10, X10, e10, st10⟩ := getF X8 hx hZ hown (host := "") (Or.inl (hw _ (List.mem_of_getElem? (i := 10) rfl))) Via.refl e8 Fs (g := (mkF m 22 #[.val (.ref o), .val (.long x), .second, .val (.int (Int32.ofNat j))] [(.ref o)])) rfl rfl (hb hby d5_22)
      refine OwnGo.st st10 ?_
      show OwnGo p e below s _ _ _ T10 (mkF m 25 #[.val (.ref o), .val (.long x), .second, .val (.int (Int32.ofNat j))] [(.ref t)])
      refine OwnGo.st (fun _ kk => XS.iloadN X10.here hx rfl (hb hby d5_25) rfl  kk) ?_
      show OwnGo p e below s _ _ _ T10 (mkF m 26 #[.val (.ref o), .val (.long x), .second, .val (.int (Int32.ofNat j))] [(.int (Int32.ofNat j)), (.ref t)])
      obtain ⟨cl11, Ar11, -, S11, -, H11, -⟩ := id V
      have hin11 : ¬ ((Int32.ofNat j) < 0 ∨ cl11.slots.size ≤ ((Int32.ofNat j)).toNatClampNeg) := inb_of S11 (own_inb hj)
      refine OwnGo.st (fun _ kk => X10.laload hx (j := (Int32.ofNat j)) (v := (.long (own_at vs j))) (by first | exact Ar11.1 | (rw [e10]; exact Ar11.1)) (State.isArrayOf_alike hZ.alike Ar11.2.1) Ar11.2.2 hin11 (H11.at hin11 (own_get hl hj)) (g := (mkF m 26 #[.val (.ref o), .val (.long x), .second, .val (.int (Int32.ofNat j))] [(.int (Int32.ofNat j)), (.ref t)])) rfl rfl (hb hby d5_26) _ kk) ?_
      show OwnGo p e below s _ _ _ T10 (mkF m 27 #[.val (.ref o), .val (.long x), .second, .val (.int (Int32.ofNat j))] [(.long (own_at vs j))])
      refine OwnGo.st (fun _ kk => XS.lloadN X10.here hx rfl (hb hby d5_27) rfl  kk) ?_
      show OwnGo p e below s _ _ _ T10 (mkF m 28 #[.val (.ref o), .val (.long x), .second, .val (.int (Int32.ofNat j))] [(.long x), (.long (own_at vs j))])
      refine OwnGo.st (fun _ kk => XS.lcmp X10.here hx rfl (hb hby d5_28) rfl kk) ?_
      show OwnGo p e below s _ _ _ T10 (mkF m 29 #[.val (.ref o), .val (.long x), .second, .val (.int (Int32.ofNat j))] [(.int (lcmpW (own_at vs j) x))])
      by_cases hx_ : own_at vs j = x
      · refine OwnGo.st (fun _ kk => XS.ifYes X10.here hx rfl (pc0 := 29) (pc' := 41) rfl (hb hby d5_29) rfl ((if0 _ _).trans (teq (((lw_eq _ _).2 hx_) : (lcmpW (own_at vs j) x) = (0 : Int32))).1) (by decide) (by decide) kk) ?_
        show OwnGo p e below s _ _ _ T10 (mkF m 41 #[.val (.ref o), .val (.long x), .second, .val (.int (Int32.ofNat j))] [])
        refine OwnGo.st (fun _ kk => XS.iloadN X10.here hx rfl (hb hby d5_41) rfl  kk) ?_
        show OwnGo p e below s _ _ _ T10 (mkF m 42 #[.val (.ref o), .val (.long x), .second, .val (.int (Int32.ofNat j))] [(.int (Int32.ofNat j))])
        obtain ⟨k', hk'⟩ := hp 0 j ⟨rfl, Or.inr hx_⟩
        exact OwnGo.ret X10 hx hret hlk rfl (Or.inl ⟨rfl, Or.inl rfl, _, rfl⟩) (hb hby d5_42) (by show Qslot Z o t kc vs x h0 n0 _ T10.heap _; rw [e10]; exact ⟨j, k', hj, rfl, hk', N0, rfl⟩) (by decide) (by decide)
      · refine OwnGo.st (fun _ kk => XS.ifNo X10.here hx rfl (hb hby d5_29) rfl ((if0 _ _).trans (feq ((fun z => hx_ ((lw_eq _ _).1 z)) : ¬ ((lcmpW (own_at vs j) x) = (0 : Int32)))).1) kk) ?_
        show OwnGo p e below s _ _ _ T10 (mkF m 32 #[.val (.ref o), .val (.long x), .second, .val (.int (Int32.ofNat j))] [])
        refine OwnGo.st (fun _ kk => XS.aloadN X10.here hx rfl (hb hby d5_32) rfl rfl  kk) ?_
        show OwnGo p e below s _ _ _ T10 (mkF m 33 #[.val (.ref o), .val (.long x), .second, .val (.int (Int32.ofNat j))] [(.ref o)])
        refine OwnGo.st (fun _ kk => XS.iloadN X10.here hx rfl (hb hby d5_33) rfl  kk) ?_
        show OwnGo p e below s _ _ _ T10 (mkF m 34 #[.val (.ref o), .val (.long x), .second, .val (.int (Int32.ofNat j))] [(.int (Int32.ofNat j)), (.ref o)])
        obtain ⟨cq12, q12, q12'⟩ := E_o.cell
        obtain ⟨_, _, ⟨T12, L12, k12, n12⟩, -, X12, ⟨Lc12, hQ12, l12, y12, z12⟩, st12⟩ := X10.privateBack hx (y := (⟨"com/example/utsatt/utsatt/KeyHashes", "next", "(I)I"⟩ : MethodName)) hown (mvT hZ (hw _ (List.mem_of_getElem? (i := 30) rfl))) (mvT hZ (hw _ (List.mem_of_getElem? (i := 31) rfl))) (own_selp (z := (⟨"com/example/utsatt/utsatt/KeyHashes", "add", "(J)Z"⟩ : MethodName)) (mvT hZ (hw _ (List.mem_of_getElem? (i := 15) rfl))) rfl (Cond.privateMethod_at (mvP hZ (hw _ (List.mem_of_getElem? (i := 32) rfl)) (args := #[]))) (mvT hZ (hw _ (List.mem_of_getElem? (i := 31) rfl))) (by decide)) (Cond.privateMethod_at (mvP hZ (hw _ (List.mem_of_getElem? (i := 32) rfl)) (args := #[]))) (mvT hZ (hw _ (List.mem_of_getElem? (i := 33) rfl))) (by decide) (backOf (W := 0) (rmnext l Z a0 hw [] o t kc vs j h0 n0 Z_ E_o Fs V hl hj) hZ (hw _ (List.mem_of_getElem? (i := 33) rfl)) (hw _ (List.mem_of_getElem? (i := 2) rfl)) (by decide) (by decide)) (g := (mkF m 34 #[.val (.ref o), .val (.long x), .second, .val (.int (Int32.ofNat j))] [(.int (Int32.ofNat j)), (.ref o)])) rfl (by rw [hml]; rfl) (Steps.refl _) (a := o) (by rw [e10]; exact q12) q12' (argsL := [(.int (Int32.ofNat j))]) (rest := []) (lenOf pd_0 rfl) rfl (by show 2 * 0 + _ ≤ _; exact Nat.le_of_eq rfl) (hb hby d5_34) (fun _ _ => ⟨rfl, e10, (by decide : 0 + 0 ≤ _), (by decide : 0 + 0 ≤ _)⟩)
        dsimp only [Pt.U, Pt.locs, Pt.cells, Pt.slots] at X12 l12 y12 z12 st12 hQ12
        subst l12 y12 z12
        obtain ⟨rfl, N12q, e12⟩ := hQ12
        have N12 := Fr.app N0 N12q
        refine OwnGo.st (fun _ kk => st12.trans kk) ?_
        show OwnGo p e below s _ _ _ T12 (mkF m 37 #[.val (.ref o), .val (.long x), .second, .val (.int (Int32.ofNat j))] [(.int (Int32.ofNat (own_nx j)))])
        refine OwnGo.st (fun _ kk => XS.istoreN X12.here hx rfl (hb hby d5_37) rfl (l' := #[.val (.ref o), .val (.long x), .second, .val (.int (Int32.ofNat (own_nx j)))]) rfl kk) ?_
        show OwnGo p e below s _ _ _ T12 (mkF m 38 #[.val (.ref o), .val (.long x), .second, .val (.int (Int32.ofNat (own_nx j)))] [])
        refine OwnGo.st (fun _ kk => XS.goto X12.here hx rfl (pc0 := 38) (pc' := 10) rfl (hb hby d5_38) (by decide) (by decide) kk) ?_
        show OwnGo p e below s _ _ _ T12 (mkF m 10 #[.val (.ref o), .val (.long x), .second, .val (.int (Int32.ofNat (own_nx j)))] [])
        exact ih (own_nx j) X12 e12 N12 (own_nx_lt hj) hd (fun k r hk => hp (k + 1) r ⟨fun z => z.elim h0_ hx_, hk⟩)
set_option maxRecDepth 65536 in
set_option maxHeartbeats 40000000 in
theorem rmslot (l : Launch) (Z : State) (a0 : Array Value) (hw : ∀ d ∈ tables_1, d.before a0 Z = true) (ws : List Jvm.Cond) (o : Addr) (t : Addr) (kc : ClassId) (vs : List Int64) (x : Int64) (h0 : Heap) (n0 : Nat) (Z0 : n0 ≤ h0.size) (E_o : Exa Z h0 o "com/example/utsatt/utsatt/KeyHashes") (Fs : Fld Z h0 o "com/example/utsatt/utsatt/KeyHashes" "slots" "[J" (.ref t)) (V : Arv Z h0 t kc .long (16 : Int32) (vs.map Value.long) (.long (0 : Int64))) (hl : vs.length = 16) (hfree : ∃ d, own_at vs (own_it d (own_home x)) = 0) :
    MetFree l (⟨"com/example/utsatt/utsatt/KeyHashes", "slotOf", "(J)I"⟩ : MethodName) (head1 (Jvm.Cond.code (⟨"com/example/utsatt/utsatt/KeyHashes", "slotOf", "(J)I"⟩ : MethodName) prog_2_method_7_code 4 (some .int) :: ws) ({ frames := 1, cells := 0, slots := 0, locals := 17 } : Room)) (fun as_ UU => as_ = #[(.ref o), (.long x)] ∧ Z.Warmed39 UU.vm ∧ UU.heap = h0) (fun _ _ _ _ _ => True) (fun _ UU oo UU' => ∃ vv LL, oo = .returned vv ∧ (Qslot Z o t kc vs x h0 n0) vv UU'.heap LL ∧ FrameEnd UU oo UU' LL ({ frames := 1, cells := 0, slots := 0, locals := 17 } : Room).cells ({ frames := 1, cells := 0, slots := 0, locals := 17 } : Room).slots) := by
  refine own_met (plainFor_of_name pn_1) ?_
  intro p e s m below meth c s₁ X0 hx hby hml hret hlk hown hnm hZ e0
  have N0 := Fr.nil n0
  have Z_ := Z0
  refine OwnGo.cast (ef_slot m o x) ?_
  show OwnGo p e below s _ _ _ s₁ (mkF m 0 #[.val (.ref o), .val (.long x), .second, .unset] [])
  refine OwnGo.st (fun _ kk => XS.lloadN X0.here hx rfl (hb hby d5_0) rfl  kk) ?_
  show OwnGo p e below s _ _ _ s₁ (mkF m 1 #[.val (.ref o), .val (.long x), .second, .unset] [(.long x)])
  refine OwnGo.st (fun _ kk => XS.aloadN X0.here hx rfl (hb hby d5_1) rfl rfl  kk) ?_
  show OwnGo p e below s _ _ _ s₁ (mkF m 2 #[.val (.ref o), .val (.long x), .second, .unset] [(.ref o), (.long x)])
  obtain ⟨T13, X13, e13, st13⟩ := getF X0 hx hZ hown (host := "") (Or.inl (hw _ (List.mem_of_getElem? (i := 10) rfl))) Via.refl e0 Fs (g := (mkF m 2 #[.val (.ref o), .val (.long x), .second, .unset] [(.ref o), (.long x)])) rfl rfl (hb hby d5_2)
  refine OwnGo.st st13 ?_
  show OwnGo p e below s _ _ _ T13 (mkF m 5 #[.val (.ref o), .val (.long x), .second, .unset] [(.ref t), (.long x)])
  obtain ⟨cl14, Ar14, -, S14, N14, -, -⟩ := id V
  refine OwnGo.st (fun _ kk => own_len hZ (len_of S14 N14) Ar14 X13 e13 hx (g := (mkF m 5 #[.val (.ref o), .val (.long x), .second, .unset] [(.ref t), (.long x)])) rfl rfl (hb hby d5_5) _ kk) ?_
  show OwnGo p e below s _ _ _ T13 (mkF m 6 #[.val (.ref o), .val (.long x), .second, .unset] [(.int (16 : Int32)), (.long x)])
  obtain ⟨_, _, ⟨T15, L15, k15, n15⟩, -, X15, ⟨Lc15, hQ15, l15, y15, z15⟩, st15⟩ := Jvm.LawKit.callS X13 hx (y := (⟨"com/example/utsatt/utsatt/KeyHashes", "home", "(JI)I"⟩ : MethodName)) hown (mvT hZ (hw _ (List.mem_of_getElem? (i := 24) rfl))) (mvT hZ (hw _ (List.mem_of_getElem? (i := 25) rfl))) (mvT hZ (hw _ (List.mem_of_getElem? (i := 2) rfl))) (mvT hZ (hw _ (List.mem_of_getElem? (i := 26) rfl))) (by decide) (backOf (W := 0) (rmhome l Z a0 hw [] x h0 n0 Z_ ) hZ (hw _ (List.mem_of_getElem? (i := 26) rfl)) (hw _ (List.mem_of_getElem? (i := 2) rfl)) (by decide) (by decide)) (g := (mkF m 6 #[.val (.ref o), .val (.long x), .second, .unset] [(.int (16 : Int32)), (.long x)])) rfl (by rw [hml]; rfl) (argsL := [(.long x), (.int (16 : Int32))]) (rest := []) (lenOf pd_1 rfl) rfl (by show 2 * 0 + _ ≤ _; exact Nat.le_of_eq rfl) (hb hby d5_6) (fun _ _ => ⟨rfl, e13, (by decide : 0 + 0 ≤ _), (by decide : 0 + 0 ≤ _)⟩)
  dsimp only [Pt.U, Pt.locs, Pt.cells, Pt.slots] at X15 l15 y15 z15 st15 hQ15
  subst l15 y15 z15
  obtain ⟨rfl, N15q, e15⟩ := hQ15
  have N15 := Fr.app N0 N15q
  refine OwnGo.st st15 ?_
  show OwnGo p e below s _ _ _ T15 (mkF m 9 #[.val (.ref o), .val (.long x), .second, .unset] [(.int (Int32.ofNat (own_home x)))])
  refine OwnGo.st (fun _ kk => XS.istoreN X15.here hx rfl (hb hby d5_9) rfl (l' := #[.val (.ref o), .val (.long x), .second, .val (.int (Int32.ofNat (own_home x)))]) rfl kk) ?_
  show OwnGo p e below s _ _ _ T15 (mkF m 10 #[.val (.ref o), .val (.long x), .second, .val (.int (Int32.ofNat (own_home x)))] [])
  obtain ⟨d, hd⟩ := hfree
  exact sg_slot o t kc vs x d (own_home x) h0 n0 hw X15 hx hby hml hret hlk hown hnm hZ e15 N15 E_o Fs V hl Z_ (own_home_lt x) hd (fun k r h => ⟨k, h⟩)
def Qsiz (Z : State) (o : Addr) (z : Int32) (h0 : Heap) (n0 : Nat) (v : Option Value) (h : Heap) (L : List Loc) : Prop := v = some (.int z) ∧ Fr n0 L ∧ h = h0
set_option maxRecDepth 65536 in
set_option maxHeartbeats 40000000 in
theorem rmsiz (l : Launch) (Z : State) (a0 : Array Value) (hw : ∀ d ∈ tables_1, d.before a0 Z = true) (ws : List Jvm.Cond) (o : Addr) (z : Int32) (h0 : Heap) (n0 : Nat) (Z0 : n0 ≤ h0.size) (F : Fld Z h0 o "com/example/utsatt/utsatt/KeyHashes" "size" "I" (.int z)) :
    MetFree l (⟨"com/example/utsatt/utsatt/KeyHashes", "size", "()I"⟩ : MethodName) (head1 (Jvm.Cond.code (⟨"com/example/utsatt/utsatt/KeyHashes", "size", "()I"⟩ : MethodName) prog_2_method_3_code 1 (some .int) :: ws) ({ frames := 0, cells := 0, slots := 0, locals := 0 } : Room)) (fun as_ UU => as_ = #[(.ref o)] ∧ Z.Warmed39 UU.vm ∧ UU.heap = h0) (fun _ _ _ _ _ => True) (fun _ UU oo UU' => ∃ vv LL, oo = .returned vv ∧ (Qsiz Z o z h0 n0) vv UU'.heap LL ∧ FrameEnd UU oo UU' LL ({ frames := 0, cells := 0, slots := 0, locals := 0 } : Room).cells ({ frames := 0, cells := 0, slots := 0, locals := 0 } : Room).slots) := by
  refine own_met (plainFor_of_name pn_1) ?_
  intro p e s m below meth c s₁ X0 hx hby hml hret hlk hown hnm hZ e0
  have N0 := Fr.nil n0
  have Z_ := Z0
  refine OwnGo.cast (ef_siz m o) ?_
  show OwnGo p e below s _ _ _ s₁ (mkF m 0 #[.val (.ref o)] [])
  refine OwnGo.st (fun _ kk => XS.aloadN X0.here hx rfl (hb hby d8_0) rfl rfl  kk) ?_
  show OwnGo p e below s _ _ _ s₁ (mkF m 1 #[.val (.ref o)] [(.ref o)])
  obtain ⟨T16, X16, e16, st16⟩ := getF X0 hx hZ hown (host := "") (Or.inl (hw _ (List.mem_of_getElem? (i := 27) rfl))) Via.refl e0 F (g := (mkF m 1 #[.val (.ref o)] [(.ref o)])) rfl rfl (hb hby d8_1)
  refine OwnGo.st st16 ?_
  show OwnGo p e below s _ _ _ T16 (mkF m 4 #[.val (.ref o)] [(.int z)])
  exact OwnGo.ret X16 hx hret hlk rfl (Or.inl ⟨rfl, Or.inl rfl, _, rfl⟩) (hb hby d8_4) (by show Qsiz Z o z h0 n0 _ T16.heap _; rw [e16]; exact ⟨rfl, N0, rfl⟩) (by decide) (by decide)
def QaddO (Z : State) (o : Addr) (t : Addr) (kc : ClassId) (vs : List Int64) (p1 : Int64) (h0 : Heap) (n0 : Nat) (v : Option Value) (h : Heap) (L : List Loc) : Prop := v = some (.int (0 : Int32)) ∧ Fr n0 L ∧ h = h0
set_option maxRecDepth 65536 in
set_option maxHeartbeats 40000000 in
theorem rmaddO (l : Launch) (Z : State) (a0 : Array Value) (hw : ∀ d ∈ tables_1, d.before a0 Z = true) (ws : List Jvm.Cond) (o : Addr) (t : Addr) (kc : ClassId) (vs : List Int64) (p1 : Int64) (h0 : Heap) (n0 : Nat) (Z0 : n0 ≤ h0.size) (E_o : Exa Z h0 o "com/example/utsatt/utsatt/KeyHashes") (Fs : Fld Z h0 o "com/example/utsatt/utsatt/KeyHashes" "slots" "[J" (.ref t)) (V : Arv Z h0 t kc .long (16 : Int32) (vs.map Value.long) (.long (0 : Int64))) (hl : vs.length = 16) (hfree : 0 < own_zeros vs) (hin : own_in vs (own_st p1)) :
    MetFree l (⟨"com/example/utsatt/utsatt/KeyHashes", "add", "(J)Z"⟩ : MethodName) (head1 (Jvm.Cond.code (⟨"com/example/utsatt/utsatt/KeyHashes", "add", "(J)Z"⟩ : MethodName) prog_2_method_4_code 6 (some .boolean) :: ws) ({ frames := 2, cells := 0, slots := 0, locals := 32 } : Room)) (fun as_ UU => as_ = #[(.ref o), (.long p1)] ∧ Z.Warmed39 UU.vm ∧ UU.heap = h0) (fun _ _ _ _ _ => True) (fun _ UU oo UU' => ∃ vv LL, oo = .returned vv ∧ (QaddO Z o t kc vs p1 h0 n0) vv UU'.heap LL ∧ FrameEnd UU oo UU' LL ({ frames := 2, cells := 0, slots := 0, locals := 32 } : Room).cells ({ frames := 2, cells := 0, slots := 0, locals := 32 } : Room).slots) := by
  refine own_met (plainFor_of_name pn_1) ?_
  intro p e s m below meth c s₁ X0 hx hby hml hret hlk hown hnm hZ e0
  have N0 := Fr.nil n0
  have Z_ := Z0
  refine OwnGo.cast (ef_addO m o p1) ?_
  show OwnGo p e below s _ _ _ s₁ (mkF m 0 #[.val (.ref o), .val (.long p1), .second, .unset, .unset, .unset] [])
  refine OwnGo.st (fun _ kk => XS.lloadN X0.here hx rfl (hb hby d3_0) rfl  kk) ?_
  show OwnGo p e below s _ _ _ s₁ (mkF m 1 #[.val (.ref o), .val (.long p1), .second, .unset, .unset, .unset] [(.long p1)])
  obtain ⟨_, _, ⟨T17, L17, k17, n17⟩, -, X17, ⟨Lc17, hQ17, l17, y17, z17⟩, st17⟩ := Jvm.LawKit.callS X0 hx (y := (⟨"com/example/utsatt/utsatt/KeyHashes", "stored", "(J)J"⟩ : MethodName)) hown (mvT hZ (hw _ (List.mem_of_getElem? (i := 17) rfl))) (mvT hZ (hw _ (List.mem_of_getElem? (i := 18) rfl))) (mvT hZ (hw _ (List.mem_of_getElem? (i := 2) rfl))) (mvT hZ (hw _ (List.mem_of_getElem? (i := 19) rfl))) (by decide) (backOf (W := 0) (rmsto l Z a0 hw [] p1 h0 n0 Z_ ) hZ (hw _ (List.mem_of_getElem? (i := 19) rfl)) (hw _ (List.mem_of_getElem? (i := 2) rfl)) (by decide) (by decide)) (g := (mkF m 1 #[.val (.ref o), .val (.long p1), .second, .unset, .unset, .unset] [(.long p1)])) rfl (by rw [hml]; rfl) (argsL := [(.long p1)]) (rest := []) (lenOf pd_2 rfl) rfl (by show 2 * 0 + _ ≤ _; exact Nat.le_of_eq rfl) (hb hby d3_1) (fun _ _ => ⟨rfl, e0, (by decide : 0 + 0 ≤ _), (by decide : 0 + 0 ≤ _)⟩)
  dsimp only [Pt.U, Pt.locs, Pt.cells, Pt.slots] at X17 l17 y17 z17 st17 hQ17
  subst l17 y17 z17
  obtain ⟨rfl, N17q, e17⟩ := hQ17
  have N17 := Fr.app N0 N17q
  refine OwnGo.st st17 ?_
  show OwnGo p e below s _ _ _ T17 (mkF m 4 #[.val (.ref o), .val (.long p1), .second, .unset, .unset, .unset] [(.long (own_st p1))])
  refine OwnGo.st (fun _ kk => XS.lstoreN X17.here hx rfl (hb hby d3_4) rfl (l' := #[.val (.ref o), .val (.long p1), .second, .val (.long (own_st p1)), .second, .unset]) rfl kk) ?_
  show OwnGo p e below s _ _ _ T17 (mkF m 5 #[.val (.ref o), .val (.long p1), .second, .val (.long (own_st p1)), .second, .unset] [])
  refine OwnGo.st (fun _ kk => XS.aloadN X17.here hx rfl (hb hby d3_5) rfl rfl  kk) ?_
  show OwnGo p e below s _ _ _ T17 (mkF m 6 #[.val (.ref o), .val (.long p1), .second, .val (.long (own_st p1)), .second, .unset] [(.ref o)])
  refine OwnGo.st (fun _ kk => XS.lloadN X17.here hx rfl (hb hby d3_6) rfl  kk) ?_
  show OwnGo p e below s _ _ _ T17 (mkF m 7 #[.val (.ref o), .val (.long p1), .second, .val (.long (own_st p1)), .second, .unset] [(.long (own_st p1)), (.ref o)])
  obtain ⟨cq18, q18, q18'⟩ := E_o.cell
  obtain ⟨_, _, ⟨T18, L18, k18, n18⟩, -, X18, ⟨Lc18, hQ18, l18, y18, z18⟩, st18⟩ := X17.privateBack hx (y := (⟨"com/example/utsatt/utsatt/KeyHashes", "slotOf", "(J)I"⟩ : MethodName)) hown (mvT hZ (hw _ (List.mem_of_getElem? (i := 20) rfl))) (mvT hZ (hw _ (List.mem_of_getElem? (i := 21) rfl))) (own_selp (z := (⟨"com/example/utsatt/utsatt/KeyHashes", "add", "(J)Z"⟩ : MethodName)) (mvT hZ (hw _ (List.mem_of_getElem? (i := 15) rfl))) rfl (Cond.privateMethod_at (mvP hZ (hw _ (List.mem_of_getElem? (i := 22) rfl)) (args := #[]))) (mvT hZ (hw _ (List.mem_of_getElem? (i := 21) rfl))) (by decide)) (Cond.privateMethod_at (mvP hZ (hw _ (List.mem_of_getElem? (i := 22) rfl)) (args := #[]))) (mvT hZ (hw _ (List.mem_of_getElem? (i := 23) rfl))) (by decide) (backOf (W := 0) (rmslot l Z a0 hw [] o t kc vs (own_st p1) h0 n0 Z_ E_o Fs V hl (own_free hl hfree _)) hZ (hw _ (List.mem_of_getElem? (i := 23) rfl)) (hw _ (List.mem_of_getElem? (i := 2) rfl)) (by decide) (by decide)) (g := (mkF m 7 #[.val (.ref o), .val (.long p1), .second, .val (.long (own_st p1)), .second, .unset] [(.long (own_st p1)), (.ref o)])) rfl (by rw [hml]; rfl) (Steps.refl _) (a := o) (by rw [e17]; exact q18) q18' (argsL := [(.long (own_st p1))]) (rest := []) (lenOf pd_3 rfl) rfl (by show 2 * 0 + _ ≤ _; exact Nat.le_of_eq rfl) (hb hby d3_7) (fun _ _ => ⟨rfl, e17, (by decide : 0 + 0 ≤ _), (by decide : 0 + 0 ≤ _)⟩)
  dsimp only [Pt.U, Pt.locs, Pt.cells, Pt.slots] at X18 l18 y18 z18 st18 hQ18
  subst l18 y18 z18
  obtain ⟨r, k, hr, rfl, hk, N18q, e18⟩ := hQ18
  have N18 := Fr.app N17 N18q
  refine OwnGo.st (fun _ kk => st18.trans kk) ?_
  show OwnGo p e below s _ _ _ T18 (mkF m 10 #[.val (.ref o), .val (.long p1), .second, .val (.long (own_st p1)), .second, .unset] [(.int (Int32.ofNat r))])
  refine OwnGo.st (fun _ kk => XS.istore X18.here hx rfl (hb hby d3_10) rfl (l' := #[.val (.ref o), .val (.long p1), .second, .val (.long (own_st p1)), .second, .val (.int (Int32.ofNat r))]) rfl kk) ?_
  show OwnGo p e below s _ _ _ T18 (mkF m 12 #[.val (.ref o), .val (.long p1), .second, .val (.long (own_st p1)), .second, .val (.int (Int32.ofNat r))] [])
  refine OwnGo.st (fun _ kk => XS.aloadN X18.here hx rfl (hb hby d3_12) rfl rfl  kk) ?_
  show OwnGo p e below s _ _ _ T18 (mkF m 13 #[.val (.ref o), .val (.long p1), .second, .val (.long (own_st p1)), .second, .val (.int (Int32.ofNat r))] [(.ref o)])
  obtain ⟨T19, X19, e19, st19⟩ := getF X18 hx hZ hown (host := "") (Or.inl (hw _ (List.mem_of_getElem? (i := 10) rfl))) Via.refl e18 Fs (g := (mkF m 13 #[.val (.ref o), .val (.long p1), .second, .val (.long (own_st p1)), .second, .val (.int (Int32.ofNat r))] [(.ref o)])) rfl rfl (hb hby d3_13)
  refine OwnGo.st st19 ?_
  show OwnGo p e below s _ _ _ T19 (mkF m 16 #[.val (.ref o), .val (.long p1), .second, .val (.long (own_st p1)), .second, .val (.int (Int32.ofNat r))] [(.ref t)])
  refine OwnGo.st (fun _ kk => XS.iload X19.here hx rfl (hb hby d3_16) rfl  kk) ?_
  show OwnGo p e below s _ _ _ T19 (mkF m 18 #[.val (.ref o), .val (.long p1), .second, .val (.long (own_st p1)), .second, .val (.int (Int32.ofNat r))] [(.int (Int32.ofNat r)), (.ref t)])
  obtain ⟨cl20, Ar20, -, S20, -, H20, -⟩ := id V
  have hin20 : ¬ ((Int32.ofNat r) < 0 ∨ cl20.slots.size ≤ ((Int32.ofNat r)).toNatClampNeg) := inb_of S20 (own_inb hr)
  refine OwnGo.st (fun _ kk => X19.laload hx (j := (Int32.ofNat r)) (v := (.long (own_at vs r))) (by first | exact Ar20.1 | (rw [e19]; exact Ar20.1)) (State.isArrayOf_alike hZ.alike Ar20.2.1) Ar20.2.2 hin20 (H20.at hin20 (own_get hl hr)) (g := (mkF m 18 #[.val (.ref o), .val (.long p1), .second, .val (.long (own_st p1)), .second, .val (.int (Int32.ofNat r))] [(.int (Int32.ofNat r)), (.ref t)])) rfl rfl (hb hby d3_18) _ kk) ?_
  show OwnGo p e below s _ _ _ T19 (mkF m 19 #[.val (.ref o), .val (.long p1), .second, .val (.long (own_st p1)), .second, .val (.int (Int32.ofNat r))] [(.long (own_at vs r))])
  refine OwnGo.st (fun _ kk => XS.lloadN X19.here hx rfl (hb hby d3_19) rfl  kk) ?_
  show OwnGo p e below s _ _ _ T19 (mkF m 20 #[.val (.ref o), .val (.long p1), .second, .val (.long (own_st p1)), .second, .val (.int (Int32.ofNat r))] [(.long (own_st p1)), (.long (own_at vs r))])
  refine OwnGo.st (fun _ kk => XS.lcmp X19.here hx rfl (hb hby d3_20) rfl kk) ?_
  show OwnGo p e below s _ _ _ T19 (mkF m 21 #[.val (.ref o), .val (.long p1), .second, .val (.long (own_st p1)), .second, .val (.int (Int32.ofNat r))] [(.int (lcmpW (own_at vs r) (own_st p1)))])
  refine OwnGo.st (fun _ kk => XS.ifNo X19.here hx rfl (hb hby d3_21) rfl ((if0 _ _).trans (teq (((lw_eq _ _).2 (own_found hin k r hk)) : (lcmpW (own_at vs r) (own_st p1)) = (0 : Int32))).2) kk) ?_
  show OwnGo p e below s _ _ _ T19 (mkF m 24 #[.val (.ref o), .val (.long p1), .second, .val (.long (own_st p1)), .second, .val (.int (Int32.ofNat r))] [])
  refine OwnGo.st (fun _ kk => XS.iconst X19.here hx rfl (hb hby d3_24) kk) ?_
  show OwnGo p e below s _ _ _ T19 (mkF m 25 #[.val (.ref o), .val (.long p1), .second, .val (.long (own_st p1)), .second, .val (.int (Int32.ofNat r))] [(.int (0 : Int32))])
  exact OwnGo.retN X19 hx (t := .boolean) hret hlk (by simp) (hb hby d3_25) (by show QaddO Z o t kc vs p1 h0 n0 _ T19.heap _; rw [e19]; exact ⟨rfl, N18, rfl⟩) (by decide) (by decide)
def QaddN0 (Z : State) (o : Addr) (t : Addr) (kc : ClassId) (vs : List Int64) (p1 : Int64) (h0 : Heap) (n0 : Nat) (v : Option Value) (h : Heap) (L : List Loc) : Prop := ∃ r k : Nat, r < 16 ∧ own_at vs r = 0 ∧ own_path vs (own_st p1) k (own_home (own_st p1)) r ∧ v = some (.int (1 : Int32)) ∧ Fr n0 L ∧ Keep h0 h [o, t] ∧ Exa Z h o "com/example/utsatt/utsatt/KeyHashes" ∧ Fld Z h o "com/example/utsatt/utsatt/KeyHashes" "slots" "[J" (.ref t) ∧ Fld Z h o "com/example/utsatt/utsatt/KeyHashes" "size" "I" (.int (1 : Int32)) ∧ Arv Z h t kc .long (16 : Int32) ((vs.set r (own_st p1)).map Value.long) (.long (0 : Int64))
set_option maxRecDepth 65536 in
set_option maxHeartbeats 40000000 in
theorem rmaddN0 (l : Launch) (Z : State) (a0 : Array Value) (hw : ∀ d ∈ tables_1, d.before a0 Z = true) (ws : List Jvm.Cond) (o : Addr) (t : Addr) (kc : ClassId) (vs : List Int64) (p1 : Int64) (h0 : Heap) (n0 : Nat) (Z0 : n0 ≤ h0.size) (E_o : Exa Z h0 o "com/example/utsatt/utsatt/KeyHashes") (Fs : Fld Z h0 o "com/example/utsatt/utsatt/KeyHashes" "slots" "[J" (.ref t)) (V : Arv Z h0 t kc .long (16 : Int32) (vs.map Value.long) (.long (0 : Int64))) (hl : vs.length = 16) (F_size : Fld Z h0 o "com/example/utsatt/utsatt/KeyHashes" "size" "I" (.int (0 : Int32))) (g_o : n0 ≤ o) (g_t : n0 ≤ t) (ne_t_o : t ≠ o) (hfree : 0 < own_zeros vs) (hmiss : ∀ k r, own_path vs (own_st p1) k (own_home (own_st p1)) r → ¬ own_at vs r = own_st p1) :
    MetFree l (⟨"com/example/utsatt/utsatt/KeyHashes", "add", "(J)Z"⟩ : MethodName) (head1 (Jvm.Cond.code (⟨"com/example/utsatt/utsatt/KeyHashes", "add", "(J)Z"⟩ : MethodName) prog_2_method_4_code 6 (some .boolean) :: ws) ({ frames := 2, cells := 0, slots := 0, locals := 32 } : Room)) (fun as_ UU => as_ = #[(.ref o), (.long p1)] ∧ Z.Warmed39 UU.vm ∧ UU.heap = h0) (fun _ _ _ _ _ => True) (fun _ UU oo UU' => ∃ vv LL, oo = .returned vv ∧ (QaddN0 Z o t kc vs p1 h0 n0) vv UU'.heap LL ∧ FrameEnd UU oo UU' LL ({ frames := 2, cells := 0, slots := 0, locals := 32 } : Room).cells ({ frames := 2, cells := 0, slots := 0, locals := 32 } : Room).slots) := by
  refine own_met (plainFor_of_name pn_1) ?_
  intro p e s m below meth c s₁ X0 hx hby hml hret hlk hown hnm hZ e0
  have N0 := Fr.nil n0
  have Z_ := Z0
  refine OwnGo.cast (ef_addN0 m o p1) ?_
  show OwnGo p e below s _ _ _ s₁ (mkF m 0 #[.val (.ref o), .val (.long p1), .second, .unset, .unset, .unset] [])
  have Kp : Keep h0 h0 [o, t] := Keep.refl h0 [o, t]
  refine OwnGo.st (fun _ kk => XS.lloadN X0.here hx rfl (hb hby d3_0) rfl  kk) ?_
  show OwnGo p e below s _ _ _ s₁ (mkF m 1 #[.val (.ref o), .val (.long p1), .second, .unset, .unset, .unset] [(.long p1)])
  obtain ⟨_, _, ⟨T21, L21, k21, n21⟩, -, X21, ⟨Lc21, hQ21, l21, y21, z21⟩, st21⟩ := Jvm.LawKit.callS X0 hx (y := (⟨"com/example/utsatt/utsatt/KeyHashes", "stored", "(J)J"⟩ : MethodName)) hown (mvT hZ (hw _ (List.mem_of_getElem? (i := 17) rfl))) (mvT hZ (hw _ (List.mem_of_getElem? (i := 18) rfl))) (mvT hZ (hw _ (List.mem_of_getElem? (i := 2) rfl))) (mvT hZ (hw _ (List.mem_of_getElem? (i := 19) rfl))) (by decide) (backOf (W := 0) (rmsto l Z a0 hw [] p1 h0 n0 Z_ ) hZ (hw _ (List.mem_of_getElem? (i := 19) rfl)) (hw _ (List.mem_of_getElem? (i := 2) rfl)) (by decide) (by decide)) (g := (mkF m 1 #[.val (.ref o), .val (.long p1), .second, .unset, .unset, .unset] [(.long p1)])) rfl (by rw [hml]; rfl) (argsL := [(.long p1)]) (rest := []) (lenOf pd_2 rfl) rfl (by show 2 * 0 + _ ≤ _; exact Nat.le_of_eq rfl) (hb hby d3_1) (fun _ _ => ⟨rfl, e0, (by decide : 0 + 0 ≤ _), (by decide : 0 + 0 ≤ _)⟩)
  dsimp only [Pt.U, Pt.locs, Pt.cells, Pt.slots] at X21 l21 y21 z21 st21 hQ21
  subst l21 y21 z21
  obtain ⟨rfl, N21q, e21⟩ := hQ21
  have N21 := Fr.app N0 N21q
  refine OwnGo.st st21 ?_
  show OwnGo p e below s _ _ _ T21 (mkF m 4 #[.val (.ref o), .val (.long p1), .second, .unset, .unset, .unset] [(.long (own_st p1))])
  refine OwnGo.st (fun _ kk => XS.lstoreN X21.here hx rfl (hb hby d3_4) rfl (l' := #[.val (.ref o), .val (.long p1), .second, .val (.long (own_st p1)), .second, .unset]) rfl kk) ?_
  show OwnGo p e below s _ _ _ T21 (mkF m 5 #[.val (.ref o), .val (.long p1), .second, .val (.long (own_st p1)), .second, .unset] [])
  refine OwnGo.st (fun _ kk => XS.aloadN X21.here hx rfl (hb hby d3_5) rfl rfl  kk) ?_
  show OwnGo p e below s _ _ _ T21 (mkF m 6 #[.val (.ref o), .val (.long p1), .second, .val (.long (own_st p1)), .second, .unset] [(.ref o)])
  refine OwnGo.st (fun _ kk => XS.lloadN X21.here hx rfl (hb hby d3_6) rfl  kk) ?_
  show OwnGo p e below s _ _ _ T21 (mkF m 7 #[.val (.ref o), .val (.long p1), .second, .val (.long (own_st p1)), .second, .unset] [(.long (own_st p1)), (.ref o)])
  obtain ⟨cq22, q22, q22'⟩ := E_o.cell
  obtain ⟨_, _, ⟨T22, L22, k22, n22⟩, -, X22, ⟨Lc22, hQ22, l22, y22, z22⟩, st22⟩ := X21.privateBack hx (y := (⟨"com/example/utsatt/utsatt/KeyHashes", "slotOf", "(J)I"⟩ : MethodName)) hown (mvT hZ (hw _ (List.mem_of_getElem? (i := 20) rfl))) (mvT hZ (hw _ (List.mem_of_getElem? (i := 21) rfl))) (own_selp (z := (⟨"com/example/utsatt/utsatt/KeyHashes", "add", "(J)Z"⟩ : MethodName)) (mvT hZ (hw _ (List.mem_of_getElem? (i := 15) rfl))) rfl (Cond.privateMethod_at (mvP hZ (hw _ (List.mem_of_getElem? (i := 22) rfl)) (args := #[]))) (mvT hZ (hw _ (List.mem_of_getElem? (i := 21) rfl))) (by decide)) (Cond.privateMethod_at (mvP hZ (hw _ (List.mem_of_getElem? (i := 22) rfl)) (args := #[]))) (mvT hZ (hw _ (List.mem_of_getElem? (i := 23) rfl))) (by decide) (backOf (W := 0) (rmslot l Z a0 hw [] o t kc vs (own_st p1) h0 n0 Z_ E_o Fs V hl (own_free hl hfree _)) hZ (hw _ (List.mem_of_getElem? (i := 23) rfl)) (hw _ (List.mem_of_getElem? (i := 2) rfl)) (by decide) (by decide)) (g := (mkF m 7 #[.val (.ref o), .val (.long p1), .second, .val (.long (own_st p1)), .second, .unset] [(.long (own_st p1)), (.ref o)])) rfl (by rw [hml]; rfl) (Steps.refl _) (a := o) (by rw [e21]; exact q22) q22' (argsL := [(.long (own_st p1))]) (rest := []) (lenOf pd_3 rfl) rfl (by show 2 * 0 + _ ≤ _; exact Nat.le_of_eq rfl) (hb hby d3_7) (fun _ _ => ⟨rfl, e21, (by decide : 0 + 0 ≤ _), (by decide : 0 + 0 ≤ _)⟩)
  dsimp only [Pt.U, Pt.locs, Pt.cells, Pt.slots] at X22 l22 y22 z22 st22 hQ22
  subst l22 y22 z22
  obtain ⟨r, k, hr, rfl, hk, N22q, e22⟩ := hQ22
  have N22 := Fr.app N21 N22q
  refine OwnGo.st (fun _ kk => st22.trans kk) ?_
  show OwnGo p e below s _ _ _ T22 (mkF m 10 #[.val (.ref o), .val (.long p1), .second, .val (.long (own_st p1)), .second, .unset] [(.int (Int32.ofNat r))])
  refine OwnGo.st (fun _ kk => XS.istore X22.here hx rfl (hb hby d3_10) rfl (l' := #[.val (.ref o), .val (.long p1), .second, .val (.long (own_st p1)), .second, .val (.int (Int32.ofNat r))]) rfl kk) ?_
  show OwnGo p e below s _ _ _ T22 (mkF m 12 #[.val (.ref o), .val (.long p1), .second, .val (.long (own_st p1)), .second, .val (.int (Int32.ofNat r))] [])
  refine OwnGo.st (fun _ kk => XS.aloadN X22.here hx rfl (hb hby d3_12) rfl rfl  kk) ?_
  show OwnGo p e below s _ _ _ T22 (mkF m 13 #[.val (.ref o), .val (.long p1), .second, .val (.long (own_st p1)), .second, .val (.int (Int32.ofNat r))] [(.ref o)])
  obtain ⟨T23, X23, e23, st23⟩ := getF X22 hx hZ hown (host := "") (Or.inl (hw _ (List.mem_of_getElem? (i := 10) rfl))) Via.refl e22 Fs (g := (mkF m 13 #[.val (.ref o), .val (.long p1), .second, .val (.long (own_st p1)), .second, .val (.int (Int32.ofNat r))] [(.ref o)])) rfl rfl (hb hby d3_13)
  refine OwnGo.st st23 ?_
  show OwnGo p e below s _ _ _ T23 (mkF m 16 #[.val (.ref o), .val (.long p1), .second, .val (.long (own_st p1)), .second, .val (.int (Int32.ofNat r))] [(.ref t)])
  refine OwnGo.st (fun _ kk => XS.iload X23.here hx rfl (hb hby d3_16) rfl  kk) ?_
  show OwnGo p e below s _ _ _ T23 (mkF m 18 #[.val (.ref o), .val (.long p1), .second, .val (.long (own_st p1)), .second, .val (.int (Int32.ofNat r))] [(.int (Int32.ofNat r)), (.ref t)])
  obtain ⟨cl24, Ar24, -, S24, -, H24, -⟩ := id V
  have hin24 : ¬ ((Int32.ofNat r) < 0 ∨ cl24.slots.size ≤ ((Int32.ofNat r)).toNatClampNeg) := inb_of S24 (own_inb hr)
  refine OwnGo.st (fun _ kk => X23.laload hx (j := (Int32.ofNat r)) (v := (.long (own_at vs r))) (by first | exact Ar24.1 | (rw [e23]; exact Ar24.1)) (State.isArrayOf_alike hZ.alike Ar24.2.1) Ar24.2.2 hin24 (H24.at hin24 (own_get hl hr)) (g := (mkF m 18 #[.val (.ref o), .val (.long p1), .second, .val (.long (own_st p1)), .second, .val (.int (Int32.ofNat r))] [(.int (Int32.ofNat r)), (.ref t)])) rfl rfl (hb hby d3_18) _ kk) ?_
  show OwnGo p e below s _ _ _ T23 (mkF m 19 #[.val (.ref o), .val (.long p1), .second, .val (.long (own_st p1)), .second, .val (.int (Int32.ofNat r))] [(.long (own_at vs r))])
  refine OwnGo.st (fun _ kk => XS.lloadN X23.here hx rfl (hb hby d3_19) rfl  kk) ?_
  show OwnGo p e below s _ _ _ T23 (mkF m 20 #[.val (.ref o), .val (.long p1), .second, .val (.long (own_st p1)), .second, .val (.int (Int32.ofNat r))] [(.long (own_st p1)), (.long (own_at vs r))])
  refine OwnGo.st (fun _ kk => XS.lcmp X23.here hx rfl (hb hby d3_20) rfl kk) ?_
  show OwnGo p e below s _ _ _ T23 (mkF m 21 #[.val (.ref o), .val (.long p1), .second, .val (.long (own_st p1)), .second, .val (.int (Int32.ofNat r))] [(.int (lcmpW (own_at vs r) (own_st p1)))])
  have hm := hmiss k r hk
  have hz := (own_path_end k hk).resolve_right hm
  refine OwnGo.st (fun _ kk => XS.ifYes X23.here hx rfl (pc0 := 21) (pc' := 26) rfl (hb hby d3_21) rfl ((if0 _ _).trans (feq ((fun q => hm ((lw_eq _ _).1 q)) : ¬ ((lcmpW (own_at vs r) (own_st p1)) = (0 : Int32)))).2) (by decide) (by decide) kk) ?_
  show OwnGo p e below s _ _ _ T23 (mkF m 26 #[.val (.ref o), .val (.long p1), .second, .val (.long (own_st p1)), .second, .val (.int (Int32.ofNat r))] [])
  refine OwnGo.st (fun _ kk => XS.aloadN X23.here hx rfl (hb hby d3_26) rfl rfl  kk) ?_
  show OwnGo p e below s _ _ _ T23 (mkF m 27 #[.val (.ref o), .val (.long p1), .second, .val (.long (own_st p1)), .second, .val (.int (Int32.ofNat r))] [(.ref o)])
  obtain ⟨T25, X25, e25, st25⟩ := getF X23 hx hZ hown (host := "") (Or.inl (hw _ (List.mem_of_getElem? (i := 10) rfl))) Via.refl e23 Fs (g := (mkF m 27 #[.val (.ref o), .val (.long p1), .second, .val (.long (own_st p1)), .second, .val (.int (Int32.ofNat r))] [(.ref o)])) rfl rfl (hb hby d3_27)
  refine OwnGo.st st25 ?_
  show OwnGo p e below s _ _ _ T25 (mkF m 30 #[.val (.ref o), .val (.long p1), .second, .val (.long (own_st p1)), .second, .val (.int (Int32.ofNat r))] [(.ref t)])
  refine OwnGo.st (fun _ kk => XS.iload X25.here hx rfl (hb hby d3_30) rfl  kk) ?_
  show OwnGo p e below s _ _ _ T25 (mkF m 32 #[.val (.ref o), .val (.long p1), .second, .val (.long (own_st p1)), .second, .val (.int (Int32.ofNat r))] [(.int (Int32.ofNat r)), (.ref t)])
  refine OwnGo.st (fun _ kk => XS.lloadN X25.here hx rfl (hb hby d3_32) rfl  kk) ?_
  show OwnGo p e below s _ _ _ T25 (mkF m 33 #[.val (.ref o), .val (.long p1), .second, .val (.long (own_st p1)), .second, .val (.int (Int32.ofNat r))] [(.long (own_st p1)), (.int (Int32.ofNat r)), (.ref t)])
  obtain ⟨cl26, Ar26, q26, S26, N26, H26, G26⟩ := id V
  obtain ⟨T26, h26, X26, e26, W26, st26⟩ := stJ X25 hx hZ e25 Ar26 (j := (Int32.ofNat r)) (inb_of S26 (own_inb hr)) (g := (mkF m 33 #[.val (.ref o), .val (.long p1), .second, .val (.long (own_st p1)), .second, .val (.int (Int32.ofNat r))] [(.long (own_st p1)), (.int (Int32.ofNat r)), (.ref t)])) rfl rfl (hb hby d3_33)
  have V' := Arv.set Ar26 q26 S26 N26 H26 G26 rfl W26 r (own_nat hr) (by rw [List.length_map, hl]; exact hr)
  rw [own_set] at V'
  have F_size := F_size.other W26 (Or.inl (Ne.symm ne_t_o))
  have E_o := E_o.wr W26
  have Fs := Fs.other W26 (Or.inl (Ne.symm ne_t_o))
  have Kp := Kp.wr W26 (Or.inl (List.mem_of_getElem? (i := 1) rfl))
  have N26 := Fr.snoc X26 N22 g_t
  have Z_ : n0 ≤ h26.size := by rw [W26.size]; exact Z_
  have V := V'
  refine OwnGo.st st26 ?_
  show OwnGo p e below s _ _ _ T26 (mkF m 34 #[.val (.ref o), .val (.long p1), .second, .val (.long (own_st p1)), .second, .val (.int (Int32.ofNat r))] [])
  refine OwnGo.st (fun _ kk => XS.aloadN X26.here hx rfl (hb hby d3_34) rfl rfl  kk) ?_
  show OwnGo p e below s _ _ _ T26 (mkF m 35 #[.val (.ref o), .val (.long p1), .second, .val (.long (own_st p1)), .second, .val (.int (Int32.ofNat r))] [(.ref o)])
  refine OwnGo.st (fun _ kk => XS.dup X26.here hx rfl (hb hby d3_35) rfl rfl kk) ?_
  show OwnGo p e below s _ _ _ T26 (mkF m 36 #[.val (.ref o), .val (.long p1), .second, .val (.long (own_st p1)), .second, .val (.int (Int32.ofNat r))] [(.ref o), (.ref o)])
  obtain ⟨T27, X27, e27, st27⟩ := getF X26 hx hZ hown (host := "") (Or.inl (hw _ (List.mem_of_getElem? (i := 27) rfl))) Via.refl e26 F_size (g := (mkF m 36 #[.val (.ref o), .val (.long p1), .second, .val (.long (own_st p1)), .second, .val (.int (Int32.ofNat r))] [(.ref o), (.ref o)])) rfl rfl (hb hby d3_36)
  refine OwnGo.st st27 ?_
  show OwnGo p e below s _ _ _ T27 (mkF m 39 #[.val (.ref o), .val (.long p1), .second, .val (.long (own_st p1)), .second, .val (.int (Int32.ofNat r))] [(.int (0 : Int32)), (.ref o)])
  refine OwnGo.st (fun _ kk => XS.iconst X27.here hx rfl (hb hby d3_39) kk) ?_
  show OwnGo p e below s _ _ _ T27 (mkF m 40 #[.val (.ref o), .val (.long p1), .second, .val (.long (own_st p1)), .second, .val (.int (Int32.ofNat r))] [(.int (1 : Int32)), (.int (0 : Int32)), (.ref o)])
  refine OwnGo.st (fun _ kk => XS.iadd X27.here hx rfl (hb hby d3_40) rfl kk) ?_
  show OwnGo p e below s _ _ _ T27 (mkF m 41 #[.val (.ref o), .val (.long p1), .second, .val (.long (own_st p1)), .second, .val (.int (Int32.ofNat r))] [(.int (1 : Int32)), (.ref o)])
  show OwnGo p e below s _ _ _ T27 (mkF m 41 #[.val (.ref o), .val (.long p1), .second, .val (.long (own_st p1)), .second, .val (.int (Int32.ofNat r))] [(.int (1 : Int32)), (.ref o)])
  obtain ⟨T28, h28, X28, e28, W28, st28⟩ := putF X27 hx hZ hown (host := "") (Or.inl (hw _ (List.mem_of_getElem? (i := 27) rfl))) Via.refl e27 F_size E_o (Or.inl (hw _ (List.mem_of_getElem? (i := 28) rfl))) (hw _ (List.mem_of_getElem? (i := 1) rfl)) (ty := .int) (by decide) rfl rfl (g := (mkF m 41 #[.val (.ref o), .val (.long p1), .second, .val (.long (own_st p1)), .second, .val (.int (Int32.ofNat r))] [(.int (1 : Int32)), (.ref o)])) rfl rfl (hb hby d3_41)
  have F_size := F_size.same W28
  have E_o := E_o.wr W28
  have Fs := Fs.other W28 (Or.inr (slot_ne (Or.inl (hw _ (List.mem_of_getElem? (i := 11) rfl))) (Or.inl (hw _ (List.mem_of_getElem? (i := 28) rfl))) (by decide) (t := (.array .long)) (t' := .int) (by decide) (by decide)))
  have V := V.other W28 ne_t_o
  have Kp := Kp.wr W28 (Or.inl (List.mem_of_getElem? (i := 0) rfl))
  have N28 := Fr.snoc X28 N26 g_o
  have Z_ : n0 ≤ h28.size := by rw [W28.size]; exact Z_
  refine OwnGo.st st28 ?_
  show OwnGo p e below s _ _ _ T28 (mkF m 44 #[.val (.ref o), .val (.long p1), .second, .val (.long (own_st p1)), .second, .val (.int (Int32.ofNat r))] [])
  refine OwnGo.st (fun _ kk => XS.aloadN X28.here hx rfl (hb hby d3_44) rfl rfl  kk) ?_
  show OwnGo p e below s _ _ _ T28 (mkF m 45 #[.val (.ref o), .val (.long p1), .second, .val (.long (own_st p1)), .second, .val (.int (Int32.ofNat r))] [(.ref o)])
  obtain ⟨T29, X29, e29, st29⟩ := getF X28 hx hZ hown (host := "") (Or.inl (hw _ (List.mem_of_getElem? (i := 27) rfl))) Via.refl e28 F_size (g := (mkF m 45 #[.val (.ref o), .val (.long p1), .second, .val (.long (own_st p1)), .second, .val (.int (Int32.ofNat r))] [(.ref o)])) rfl rfl (hb hby d3_45)
  refine OwnGo.st st29 ?_
  show OwnGo p e below s _ _ _ T29 (mkF m 48 #[.val (.ref o), .val (.long p1), .second, .val (.long (own_st p1)), .second, .val (.int (Int32.ofNat r))] [(.int (1 : Int32))])
  refine OwnGo.st (fun _ kk => XS.i2dS X29.here hx rfl (v := (4607182418800017408 : UInt64)) (hb hby d3_48) rfl (by decide +kernel) kk) ?_
  show OwnGo p e below s _ _ _ T29 (mkF m 49 #[.val (.ref o), .val (.long p1), .second, .val (.long (own_st p1)), .second, .val (.int (Int32.ofNat r))] [(.double (4607182418800017408 : UInt64))])
  refine OwnGo.st (fun _ kk => XS.aloadN X29.here hx rfl (hb hby d3_49) rfl rfl  kk) ?_
  show OwnGo p e below s _ _ _ T29 (mkF m 50 #[.val (.ref o), .val (.long p1), .second, .val (.long (own_st p1)), .second, .val (.int (Int32.ofNat r))] [(.ref o), (.double (4607182418800017408 : UInt64))])
  obtain ⟨T30, X30, e30, st30⟩ := getF X29 hx hZ hown (host := "") (Or.inl (hw _ (List.mem_of_getElem? (i := 10) rfl))) Via.refl e29 Fs (g := (mkF m 50 #[.val (.ref o), .val (.long p1), .second, .val (.long (own_st p1)), .second, .val (.int (Int32.ofNat r))] [(.ref o), (.double (4607182418800017408 : UInt64))])) rfl rfl (hb hby d3_50)
  refine OwnGo.st st30 ?_
  show OwnGo p e below s _ _ _ T30 (mkF m 53 #[.val (.ref o), .val (.long p1), .second, .val (.long (own_st p1)), .second, .val (.int (Int32.ofNat r))] [(.ref t), (.double (4607182418800017408 : UInt64))])
  obtain ⟨cl31, Ar31, -, S31, N31, -, -⟩ := id V
  refine OwnGo.st (fun _ kk => own_len hZ (len_of S31 N31) Ar31 X30 e30 hx (g := (mkF m 53 #[.val (.ref o), .val (.long p1), .second, .val (.long (own_st p1)), .second, .val (.int (Int32.ofNat r))] [(.ref t), (.double (4607182418800017408 : UInt64))])) rfl rfl (hb hby d3_53) _ kk) ?_
  show OwnGo p e below s _ _ _ T30 (mkF m 54 #[.val (.ref o), .val (.long p1), .second, .val (.long (own_st p1)), .second, .val (.int (Int32.ofNat r))] [(.int (16 : Int32)), (.double (4607182418800017408 : UInt64))])
  refine OwnGo.st (fun _ kk => XS.i2dS X30.here hx rfl (v := (4625196817309499392 : UInt64)) (hb hby d3_54) rfl (by decide +kernel) kk) ?_
  show OwnGo p e below s _ _ _ T30 (mkF m 55 #[.val (.ref o), .val (.long p1), .second, .val (.long (own_st p1)), .second, .val (.int (Int32.ofNat r))] [(.double (4625196817309499392 : UInt64)), (.double (4607182418800017408 : UInt64))])
  refine OwnGo.st (fun _ kk => X30.ldc2DoubleC hx hown (mvT hZ (hw _ (List.mem_of_getElem? (i := 29) rfl))) (g := (mkF m 55 #[.val (.ref o), .val (.long p1), .second, .val (.long (own_st p1)), .second, .val (.int (Int32.ofNat r))] [(.double (4625196817309499392 : UInt64)), (.double (4607182418800017408 : UInt64))])) rfl (hb hby d3_55) _ kk) ?_
  show OwnGo p e below s _ _ _ T30 (mkF m 58 #[.val (.ref o), .val (.long p1), .second, .val (.long (own_st p1)), .second, .val (.int (Int32.ofNat r))] [(.double (4605380978949069210 : UInt64)), (.double (4625196817309499392 : UInt64)), (.double (4607182418800017408 : UInt64))])
  refine OwnGo.st (fun _ kk => XS.dmulS X30.here hx rfl (v := (4623395377458551194 : UInt64)) (hb hby d3_58) rfl (show _ ≤ _ by decide +kernel) (by decide +kernel) kk) ?_
  show OwnGo p e below s _ _ _ T30 (mkF m 59 #[.val (.ref o), .val (.long p1), .second, .val (.long (own_st p1)), .second, .val (.int (Int32.ofNat r))] [(.double (4623395377458551194 : UInt64)), (.double (4607182418800017408 : UInt64))])
  refine OwnGo.st (fun _ kk => XS.dcmpS X30.here hx rfl (v := (-1 : Int32)) (hb hby d3_59) rfl (by decide +kernel) kk) ?_
  show OwnGo p e below s _ _ _ T30 (mkF m 60 #[.val (.ref o), .val (.long p1), .second, .val (.long (own_st p1)), .second, .val (.int (Int32.ofNat r))] [(.int (-1 : Int32))])
  refine OwnGo.st (fun _ kk => XS.ifYes X30.here hx rfl (pc0 := 60) (pc' := 80) rfl (hb hby d3_60) rfl ((if0 _ _).trans (flt ((by decide) : ¬ ((0 : Int32) < (-1 : Int32)))).2.2.2) (by decide) (by decide) kk) ?_
  show OwnGo p e below s _ _ _ T30 (mkF m 80 #[.val (.ref o), .val (.long p1), .second, .val (.long (own_st p1)), .second, .val (.int (Int32.ofNat r))] [])
  refine OwnGo.st (fun _ kk => XS.iconst X30.here hx rfl (hb hby d3_80) kk) ?_
  show OwnGo p e below s _ _ _ T30 (mkF m 81 #[.val (.ref o), .val (.long p1), .second, .val (.long (own_st p1)), .second, .val (.int (Int32.ofNat r))] [(.int (1 : Int32))])
  exact OwnGo.retN X30 hx (t := .boolean) hret hlk (by simp) (hb hby d3_81) (by show QaddN0 Z o t kc vs p1 h0 n0 _ T30.heap _; rw [e30]; exact ⟨r, k, hr, hz, hk, rfl, N28, Kp, E_o, Fs, F_size, V⟩) (by decide) (by decide)
def QaddN1 (Z : State) (o : Addr) (t : Addr) (kc : ClassId) (vs : List Int64) (p1 : Int64) (h0 : Heap) (n0 : Nat) (v : Option Value) (h : Heap) (L : List Loc) : Prop := ∃ r k : Nat, r < 16 ∧ own_at vs r = 0 ∧ own_path vs (own_st p1) k (own_home (own_st p1)) r ∧ v = some (.int (1 : Int32)) ∧ Fr n0 L ∧ Keep h0 h [o, t] ∧ Exa Z h o "com/example/utsatt/utsatt/KeyHashes" ∧ Fld Z h o "com/example/utsatt/utsatt/KeyHashes" "slots" "[J" (.ref t) ∧ Fld Z h o "com/example/utsatt/utsatt/KeyHashes" "size" "I" (.int (2 : Int32)) ∧ Arv Z h t kc .long (16 : Int32) ((vs.set r (own_st p1)).map Value.long) (.long (0 : Int64))
set_option maxRecDepth 65536 in
set_option maxHeartbeats 40000000 in
theorem rmaddN1 (l : Launch) (Z : State) (a0 : Array Value) (hw : ∀ d ∈ tables_1, d.before a0 Z = true) (ws : List Jvm.Cond) (o : Addr) (t : Addr) (kc : ClassId) (vs : List Int64) (p1 : Int64) (h0 : Heap) (n0 : Nat) (Z0 : n0 ≤ h0.size) (E_o : Exa Z h0 o "com/example/utsatt/utsatt/KeyHashes") (Fs : Fld Z h0 o "com/example/utsatt/utsatt/KeyHashes" "slots" "[J" (.ref t)) (V : Arv Z h0 t kc .long (16 : Int32) (vs.map Value.long) (.long (0 : Int64))) (hl : vs.length = 16) (F_size : Fld Z h0 o "com/example/utsatt/utsatt/KeyHashes" "size" "I" (.int (1 : Int32))) (g_o : n0 ≤ o) (g_t : n0 ≤ t) (ne_t_o : t ≠ o) (hfree : 0 < own_zeros vs) (hmiss : ∀ k r, own_path vs (own_st p1) k (own_home (own_st p1)) r → ¬ own_at vs r = own_st p1) :
    MetFree l (⟨"com/example/utsatt/utsatt/KeyHashes", "add", "(J)Z"⟩ : MethodName) (head1 (Jvm.Cond.code (⟨"com/example/utsatt/utsatt/KeyHashes", "add", "(J)Z"⟩ : MethodName) prog_2_method_4_code 6 (some .boolean) :: ws) ({ frames := 2, cells := 0, slots := 0, locals := 32 } : Room)) (fun as_ UU => as_ = #[(.ref o), (.long p1)] ∧ Z.Warmed39 UU.vm ∧ UU.heap = h0) (fun _ _ _ _ _ => True) (fun _ UU oo UU' => ∃ vv LL, oo = .returned vv ∧ (QaddN1 Z o t kc vs p1 h0 n0) vv UU'.heap LL ∧ FrameEnd UU oo UU' LL ({ frames := 2, cells := 0, slots := 0, locals := 32 } : Room).cells ({ frames := 2, cells := 0, slots := 0, locals := 32 } : Room).slots) := by
  refine own_met (plainFor_of_name pn_1) ?_
  intro p e s m below meth c s₁ X0 hx hby hml hret hlk hown hnm hZ e0
  have N0 := Fr.nil n0
  have Z_ := Z0
  refine OwnGo.cast (ef_addN1 m o p1) ?_
  show OwnGo p e below s _ _ _ s₁ (mkF m 0 #[.val (.ref o), .val (.long p1), .second, .unset, .unset, .unset] [])
  have Kp : Keep h0 h0 [o, t] := Keep.refl h0 [o, t]
  refine OwnGo.st (fun _ kk => XS.lloadN X0.here hx rfl (hb hby d3_0) rfl  kk) ?_
  show OwnGo p e below s _ _ _ s₁ (mkF m 1 #[.val (.ref o), .val (.long p1), .second, .unset, .unset, .unset] [(.long p1)])
  obtain ⟨_, _, ⟨T32, L32, k32, n32⟩, -, X32, ⟨Lc32, hQ32, l32, y32, z32⟩, st32⟩ := Jvm.LawKit.callS X0 hx (y := (⟨"com/example/utsatt/utsatt/KeyHashes", "stored", "(J)J"⟩ : MethodName)) hown (mvT hZ (hw _ (List.mem_of_getElem? (i := 17) rfl))) (mvT hZ (hw _ (List.mem_of_getElem? (i := 18) rfl))) (mvT hZ (hw _ (List.mem_of_getElem? (i := 2) rfl))) (mvT hZ (hw _ (List.mem_of_getElem? (i := 19) rfl))) (by decide) (backOf (W := 0) (rmsto l Z a0 hw [] p1 h0 n0 Z_ ) hZ (hw _ (List.mem_of_getElem? (i := 19) rfl)) (hw _ (List.mem_of_getElem? (i := 2) rfl)) (by decide) (by decide)) (g := (mkF m 1 #[.val (.ref o), .val (.long p1), .second, .unset, .unset, .unset] [(.long p1)])) rfl (by rw [hml]; rfl) (argsL := [(.long p1)]) (rest := []) (lenOf pd_2 rfl) rfl (by show 2 * 0 + _ ≤ _; exact Nat.le_of_eq rfl) (hb hby d3_1) (fun _ _ => ⟨rfl, e0, (by decide : 0 + 0 ≤ _), (by decide : 0 + 0 ≤ _)⟩)
  dsimp only [Pt.U, Pt.locs, Pt.cells, Pt.slots] at X32 l32 y32 z32 st32 hQ32
  subst l32 y32 z32
  obtain ⟨rfl, N32q, e32⟩ := hQ32
  have N32 := Fr.app N0 N32q
  refine OwnGo.st st32 ?_
  show OwnGo p e below s _ _ _ T32 (mkF m 4 #[.val (.ref o), .val (.long p1), .second, .unset, .unset, .unset] [(.long (own_st p1))])
  refine OwnGo.st (fun _ kk => XS.lstoreN X32.here hx rfl (hb hby d3_4) rfl (l' := #[.val (.ref o), .val (.long p1), .second, .val (.long (own_st p1)), .second, .unset]) rfl kk) ?_
  show OwnGo p e below s _ _ _ T32 (mkF m 5 #[.val (.ref o), .val (.long p1), .second, .val (.long (own_st p1)), .second, .unset] [])
  refine OwnGo.st (fun _ kk => XS.aloadN X32.here hx rfl (hb hby d3_5) rfl rfl  kk) ?_
  show OwnGo p e below s _ _ _ T32 (mkF m 6 #[.val (.ref o), .val (.long p1), .second, .val (.long (own_st p1)), .second, .unset] [(.ref o)])
  refine OwnGo.st (fun _ kk => XS.lloadN X32.here hx rfl (hb hby d3_6) rfl  kk) ?_
  show OwnGo p e below s _ _ _ T32 (mkF m 7 #[.val (.ref o), .val (.long p1), .second, .val (.long (own_st p1)), .second, .unset] [(.long (own_st p1)), (.ref o)])
  obtain ⟨cq33, q33, q33'⟩ := E_o.cell
  obtain ⟨_, _, ⟨T33, L33, k33, n33⟩, -, X33, ⟨Lc33, hQ33, l33, y33, z33⟩, st33⟩ := X32.privateBack hx (y := (⟨"com/example/utsatt/utsatt/KeyHashes", "slotOf", "(J)I"⟩ : MethodName)) hown (mvT hZ (hw _ (List.mem_of_getElem? (i := 20) rfl))) (mvT hZ (hw _ (List.mem_of_getElem? (i := 21) rfl))) (own_selp (z := (⟨"com/example/utsatt/utsatt/KeyHashes", "add", "(J)Z"⟩ : MethodName)) (mvT hZ (hw _ (List.mem_of_getElem? (i := 15) rfl))) rfl (Cond.privateMethod_at (mvP hZ (hw _ (List.mem_of_getElem? (i := 22) rfl)) (args := #[]))) (mvT hZ (hw _ (List.mem_of_getElem? (i := 21) rfl))) (by decide)) (Cond.privateMethod_at (mvP hZ (hw _ (List.mem_of_getElem? (i := 22) rfl)) (args := #[]))) (mvT hZ (hw _ (List.mem_of_getElem? (i := 23) rfl))) (by decide) (backOf (W := 0) (rmslot l Z a0 hw [] o t kc vs (own_st p1) h0 n0 Z_ E_o Fs V hl (own_free hl hfree _)) hZ (hw _ (List.mem_of_getElem? (i := 23) rfl)) (hw _ (List.mem_of_getElem? (i := 2) rfl)) (by decide) (by decide)) (g := (mkF m 7 #[.val (.ref o), .val (.long p1), .second, .val (.long (own_st p1)), .second, .unset] [(.long (own_st p1)), (.ref o)])) rfl (by rw [hml]; rfl) (Steps.refl _) (a := o) (by rw [e32]; exact q33) q33' (argsL := [(.long (own_st p1))]) (rest := []) (lenOf pd_3 rfl) rfl (by show 2 * 0 + _ ≤ _; exact Nat.le_of_eq rfl) (hb hby d3_7) (fun _ _ => ⟨rfl, e32, (by decide : 0 + 0 ≤ _), (by decide : 0 + 0 ≤ _)⟩)
  dsimp only [Pt.U, Pt.locs, Pt.cells, Pt.slots] at X33 l33 y33 z33 st33 hQ33
  subst l33 y33 z33
  obtain ⟨r, k, hr, rfl, hk, N33q, e33⟩ := hQ33
  have N33 := Fr.app N32 N33q
  refine OwnGo.st (fun _ kk => st33.trans kk) ?_
  show OwnGo p e below s _ _ _ T33 (mkF m 10 #[.val (.ref o), .val (.long p1), .second, .val (.long (own_st p1)), .second, .unset] [(.int (Int32.ofNat r))])
  refine OwnGo.st (fun _ kk => XS.istore X33.here hx rfl (hb hby d3_10) rfl (l' := #[.val (.ref o), .val (.long p1), .second, .val (.long (own_st p1)), .second, .val (.int (Int32.ofNat r))]) rfl kk) ?_
  show OwnGo p e below s _ _ _ T33 (mkF m 12 #[.val (.ref o), .val (.long p1), .second, .val (.long (own_st p1)), .second, .val (.int (Int32.ofNat r))] [])
  refine OwnGo.st (fun _ kk => XS.aloadN X33.here hx rfl (hb hby d3_12) rfl rfl  kk) ?_
  show OwnGo p e below s _ _ _ T33 (mkF m 13 #[.val (.ref o), .val (.long p1), .second, .val (.long (own_st p1)), .second, .val (.int (Int32.ofNat r))] [(.ref o)])
  obtain ⟨T34, X34, e34, st34⟩ := getF X33 hx hZ hown (host := "") (Or.inl (hw _ (List.mem_of_getElem? (i := 10) rfl))) Via.refl e33 Fs (g := (mkF m 13 #[.val (.ref o), .val (.long p1), .second, .val (.long (own_st p1)), .second, .val (.int (Int32.ofNat r))] [(.ref o)])) rfl rfl (hb hby d3_13)
  refine OwnGo.st st34 ?_
  show OwnGo p e below s _ _ _ T34 (mkF m 16 #[.val (.ref o), .val (.long p1), .second, .val (.long (own_st p1)), .second, .val (.int (Int32.ofNat r))] [(.ref t)])
  refine OwnGo.st (fun _ kk => XS.iload X34.here hx rfl (hb hby d3_16) rfl  kk) ?_
  show OwnGo p e below s _ _ _ T34 (mkF m 18 #[.val (.ref o), .val (.long p1), .second, .val (.long (own_st p1)), .second, .val (.int (Int32.ofNat r))] [(.int (Int32.ofNat r)), (.ref t)])
  obtain ⟨cl35, Ar35, -, S35, -, H35, -⟩ := id V
  have hin35 : ¬ ((Int32.ofNat r) < 0 ∨ cl35.slots.size ≤ ((Int32.ofNat r)).toNatClampNeg) := inb_of S35 (own_inb hr)
  refine OwnGo.st (fun _ kk => X34.laload hx (j := (Int32.ofNat r)) (v := (.long (own_at vs r))) (by first | exact Ar35.1 | (rw [e34]; exact Ar35.1)) (State.isArrayOf_alike hZ.alike Ar35.2.1) Ar35.2.2 hin35 (H35.at hin35 (own_get hl hr)) (g := (mkF m 18 #[.val (.ref o), .val (.long p1), .second, .val (.long (own_st p1)), .second, .val (.int (Int32.ofNat r))] [(.int (Int32.ofNat r)), (.ref t)])) rfl rfl (hb hby d3_18) _ kk) ?_
  show OwnGo p e below s _ _ _ T34 (mkF m 19 #[.val (.ref o), .val (.long p1), .second, .val (.long (own_st p1)), .second, .val (.int (Int32.ofNat r))] [(.long (own_at vs r))])
  refine OwnGo.st (fun _ kk => XS.lloadN X34.here hx rfl (hb hby d3_19) rfl  kk) ?_
  show OwnGo p e below s _ _ _ T34 (mkF m 20 #[.val (.ref o), .val (.long p1), .second, .val (.long (own_st p1)), .second, .val (.int (Int32.ofNat r))] [(.long (own_st p1)), (.long (own_at vs r))])
  refine OwnGo.st (fun _ kk => XS.lcmp X34.here hx rfl (hb hby d3_20) rfl kk) ?_
  show OwnGo p e below s _ _ _ T34 (mkF m 21 #[.val (.ref o), .val (.long p1), .second, .val (.long (own_st p1)), .second, .val (.int (Int32.ofNat r))] [(.int (lcmpW (own_at vs r) (own_st p1)))])
  have hm := hmiss k r hk
  have hz := (own_path_end k hk).resolve_right hm
  refine OwnGo.st (fun _ kk => XS.ifYes X34.here hx rfl (pc0 := 21) (pc' := 26) rfl (hb hby d3_21) rfl ((if0 _ _).trans (feq ((fun q => hm ((lw_eq _ _).1 q)) : ¬ ((lcmpW (own_at vs r) (own_st p1)) = (0 : Int32)))).2) (by decide) (by decide) kk) ?_
  show OwnGo p e below s _ _ _ T34 (mkF m 26 #[.val (.ref o), .val (.long p1), .second, .val (.long (own_st p1)), .second, .val (.int (Int32.ofNat r))] [])
  refine OwnGo.st (fun _ kk => XS.aloadN X34.here hx rfl (hb hby d3_26) rfl rfl  kk) ?_
  show OwnGo p e below s _ _ _ T34 (mkF m 27 #[.val (.ref o), .val (.long p1), .second, .val (.long (own_st p1)), .second, .val (.int (Int32.ofNat r))] [(.ref o)])
  obtain ⟨T36, X36, e36, st36⟩ := getF X34 hx hZ hown (host := "") (Or.inl (hw _ (List.mem_of_getElem? (i := 10) rfl))) Via.refl e34 Fs (g := (mkF m 27 #[.val (.ref o), .val (.long p1), .second, .val (.long (own_st p1)), .second, .val (.int (Int32.ofNat r))] [(.ref o)])) rfl rfl (hb hby d3_27)
  refine OwnGo.st st36 ?_
  show OwnGo p e below s _ _ _ T36 (mkF m 30 #[.val (.ref o), .val (.long p1), .second, .val (.long (own_st p1)), .second, .val (.int (Int32.ofNat r))] [(.ref t)])
  refine OwnGo.st (fun _ kk => XS.iload X36.here hx rfl (hb hby d3_30) rfl  kk) ?_
  show OwnGo p e below s _ _ _ T36 (mkF m 32 #[.val (.ref o), .val (.long p1), .second, .val (.long (own_st p1)), .second, .val (.int (Int32.ofNat r))] [(.int (Int32.ofNat r)), (.ref t)])
  refine OwnGo.st (fun _ kk => XS.lloadN X36.here hx rfl (hb hby d3_32) rfl  kk) ?_
  show OwnGo p e below s _ _ _ T36 (mkF m 33 #[.val (.ref o), .val (.long p1), .second, .val (.long (own_st p1)), .second, .val (.int (Int32.ofNat r))] [(.long (own_st p1)), (.int (Int32.ofNat r)), (.ref t)])
  obtain ⟨cl37, Ar37, q37, S37, N37, H37, G37⟩ := id V
  obtain ⟨T37, h37, X37, e37, W37, st37⟩ := stJ X36 hx hZ e36 Ar37 (j := (Int32.ofNat r)) (inb_of S37 (own_inb hr)) (g := (mkF m 33 #[.val (.ref o), .val (.long p1), .second, .val (.long (own_st p1)), .second, .val (.int (Int32.ofNat r))] [(.long (own_st p1)), (.int (Int32.ofNat r)), (.ref t)])) rfl rfl (hb hby d3_33)
  have V' := Arv.set Ar37 q37 S37 N37 H37 G37 rfl W37 r (own_nat hr) (by rw [List.length_map, hl]; exact hr)
  rw [own_set] at V'
  have F_size := F_size.other W37 (Or.inl (Ne.symm ne_t_o))
  have E_o := E_o.wr W37
  have Fs := Fs.other W37 (Or.inl (Ne.symm ne_t_o))
  have Kp := Kp.wr W37 (Or.inl (List.mem_of_getElem? (i := 1) rfl))
  have N37 := Fr.snoc X37 N33 g_t
  have Z_ : n0 ≤ h37.size := by rw [W37.size]; exact Z_
  have V := V'
  refine OwnGo.st st37 ?_
  show OwnGo p e below s _ _ _ T37 (mkF m 34 #[.val (.ref o), .val (.long p1), .second, .val (.long (own_st p1)), .second, .val (.int (Int32.ofNat r))] [])
  refine OwnGo.st (fun _ kk => XS.aloadN X37.here hx rfl (hb hby d3_34) rfl rfl  kk) ?_
  show OwnGo p e below s _ _ _ T37 (mkF m 35 #[.val (.ref o), .val (.long p1), .second, .val (.long (own_st p1)), .second, .val (.int (Int32.ofNat r))] [(.ref o)])
  refine OwnGo.st (fun _ kk => XS.dup X37.here hx rfl (hb hby d3_35) rfl rfl kk) ?_
  show OwnGo p e below s _ _ _ T37 (mkF m 36 #[.val (.ref o), .val (.long p1), .second, .val (.long (own_st p1)), .second, .val (.int (Int32.ofNat r))] [(.ref o), (.ref o)])
  obtain ⟨T38, X38, e38, st38⟩ := getF X37 hx hZ hown (host := "") (Or.inl (hw _ (List.mem_of_getElem? (i := 27) rfl))) Via.refl e37 F_size (g := (mkF m 36 #[.val (.ref o), .val (.long p1), .second, .val (.long (own_st p1)), .second, .val (.int (Int32.ofNat r))] [(.ref o), (.ref o)])) rfl rfl (hb hby d3_36)
  refine OwnGo.st st38 ?_
  show OwnGo p e below s _ _ _ T38 (mkF m 39 #[.val (.ref o), .val (.long p1), .second, .val (.long (own_st p1)), .second, .val (.int (Int32.ofNat r))] [(.int (1 : Int32)), (.ref o)])
  refine OwnGo.st (fun _ kk => XS.iconst X38.here hx rfl (hb hby d3_39) kk) ?_
  show OwnGo p e below s _ _ _ T38 (mkF m 40 #[.val (.ref o), .val (.long p1), .second, .val (.long (own_st p1)), .second, .val (.int (Int32.ofNat r))] [(.int (1 : Int32)), (.int (1 : Int32)), (.ref o)])
  refine OwnGo.st (fun _ kk => XS.iadd X38.here hx rfl (hb hby d3_40) rfl kk) ?_
  show OwnGo p e below s _ _ _ T38 (mkF m 41 #[.val (.ref o), .val (.long p1), .second, .val (.long (own_st p1)), .second, .val (.int (Int32.ofNat r))] [(.int (2 : Int32)), (.ref o)])
  show OwnGo p e below s _ _ _ T38 (mkF m 41 #[.val (.ref o), .val (.long p1), .second, .val (.long (own_st p1)), .second, .val (.int (Int32.ofNat r))] [(.int (2 : Int32)), (.ref o)])
  obtain ⟨T39, h39, X39, e39, W39, st39⟩ := putF X38 hx hZ hown (host := "") (Or.inl (hw _ (List.mem_of_getElem? (i := 27) rfl))) Via.refl e38 F_size E_o (Or.inl (hw _ (List.mem_of_getElem? (i := 28) rfl))) (hw _ (List.mem_of_getElem? (i := 1) rfl)) (ty := .int) (by decide) rfl rfl (g := (mkF m 41 #[.val (.ref o), .val (.long p1), .second, .val (.long (own_st p1)), .second, .val (.int (Int32.ofNat r))] [(.int (2 : Int32)), (.ref o)])) rfl rfl (hb hby d3_41)
  have F_size := F_size.same W39
  have E_o := E_o.wr W39
  have Fs := Fs.other W39 (Or.inr (slot_ne (Or.inl (hw _ (List.mem_of_getElem? (i := 11) rfl))) (Or.inl (hw _ (List.mem_of_getElem? (i := 28) rfl))) (by decide) (t := (.array .long)) (t' := .int) (by decide) (by decide)))
  have V := V.other W39 ne_t_o
  have Kp := Kp.wr W39 (Or.inl (List.mem_of_getElem? (i := 0) rfl))
  have N39 := Fr.snoc X39 N37 g_o
  have Z_ : n0 ≤ h39.size := by rw [W39.size]; exact Z_
  refine OwnGo.st st39 ?_
  show OwnGo p e below s _ _ _ T39 (mkF m 44 #[.val (.ref o), .val (.long p1), .second, .val (.long (own_st p1)), .second, .val (.int (Int32.ofNat r))] [])
  refine OwnGo.st (fun _ kk => XS.aloadN X39.here hx rfl (hb hby d3_44) rfl rfl  kk) ?_
  show OwnGo p e below s _ _ _ T39 (mkF m 45 #[.val (.ref o), .val (.long p1), .second, .val (.long (own_st p1)), .second, .val (.int (Int32.ofNat r))] [(.ref o)])
  obtain ⟨T40, X40, e40, st40⟩ := getF X39 hx hZ hown (host := "") (Or.inl (hw _ (List.mem_of_getElem? (i := 27) rfl))) Via.refl e39 F_size (g := (mkF m 45 #[.val (.ref o), .val (.long p1), .second, .val (.long (own_st p1)), .second, .val (.int (Int32.ofNat r))] [(.ref o)])) rfl rfl (hb hby d3_45)
  refine OwnGo.st st40 ?_
  show OwnGo p e below s _ _ _ T40 (mkF m 48 #[.val (.ref o), .val (.long p1), .second, .val (.long (own_st p1)), .second, .val (.int (Int32.ofNat r))] [(.int (2 : Int32))])
  refine OwnGo.st (fun _ kk => XS.i2dS X40.here hx rfl (v := (4611686018427387904 : UInt64)) (hb hby d3_48) rfl (by decide +kernel) kk) ?_
  show OwnGo p e below s _ _ _ T40 (mkF m 49 #[.val (.ref o), .val (.long p1), .second, .val (.long (own_st p1)), .second, .val (.int (Int32.ofNat r))] [(.double (4611686018427387904 : UInt64))])
  refine OwnGo.st (fun _ kk => XS.aloadN X40.here hx rfl (hb hby d3_49) rfl rfl  kk) ?_
  show OwnGo p e below s _ _ _ T40 (mkF m 50 #[.val (.ref o), .val (.long p1), .second, .val (.long (own_st p1)), .second, .val (.int (Int32.ofNat r))] [(.ref o), (.double (4611686018427387904 : UInt64))])
  obtain ⟨T41, X41, e41, st41⟩ := getF X40 hx hZ hown (host := "") (Or.inl (hw _ (List.mem_of_getElem? (i := 10) rfl))) Via.refl e40 Fs (g := (mkF m 50 #[.val (.ref o), .val (.long p1), .second, .val (.long (own_st p1)), .second, .val (.int (Int32.ofNat r))] [(.ref o), (.double (4611686018427387904 : UInt64))])) rfl rfl (hb hby d3_50)
  refine OwnGo.st st41 ?_
  show OwnGo p e below s _ _ _ T41 (mkF m 53 #[.val (.ref o), .val (.long p1), .second, .val (.long (own_st p1)), .second, .val (.int (Int32.ofNat r))] [(.ref t), (.double (4611686018427387904 : UInt64))])
  obtain ⟨cl42, Ar42, -, S42, N42, -, -⟩ := id V
  refine OwnGo.st (fun _ kk => own_len hZ (len_of S42 N42) Ar42 X41 e41 hx (g := (mkF m 53 #[.val (.ref o), .val (.long p1), .second, .val (.long (own_st p1)), .second, .val (.int (Int32.ofNat r))] [(.ref t), (.double (4611686018427387904 : UInt64))])) rfl rfl (hb hby d3_53) _ kk) ?_
  show OwnGo p e below s _ _ _ T41 (mkF m 54 #[.val (.ref o), .val (.long p1), .second, .val (.long (own_st p1)), .second, .val (.int (Int32.ofNat r))] [(.int (16 : Int32)), (.double (4611686018427387904 : UInt64))])
  refine OwnGo.st (fun _ kk => XS.i2dS X41.here hx rfl (v := (4625196817309499392 : UInt64)) (hb hby d3_54) rfl (by decide +kernel) kk) ?_
  show OwnGo p e below s _ _ _ T41 (mkF m 55 #[.val (.ref o), .val (.long p1), .second, .val (.long (own_st p1)), .second, .val (.int (Int32.ofNat r))] [(.double (4625196817309499392 : UInt64)), (.double (4611686018427387904 : UInt64))])
  refine OwnGo.st (fun _ kk => X41.ldc2DoubleC hx hown (mvT hZ (hw _ (List.mem_of_getElem? (i := 29) rfl))) (g := (mkF m 55 #[.val (.ref o), .val (.long p1), .second, .val (.long (own_st p1)), .second, .val (.int (Int32.ofNat r))] [(.double (4625196817309499392 : UInt64)), (.double (4611686018427387904 : UInt64))])) rfl (hb hby d3_55) _ kk) ?_
  show OwnGo p e below s _ _ _ T41 (mkF m 58 #[.val (.ref o), .val (.long p1), .second, .val (.long (own_st p1)), .second, .val (.int (Int32.ofNat r))] [(.double (4605380978949069210 : UInt64)), (.double (4625196817309499392 : UInt64)), (.double (4611686018427387904 : UInt64))])
  refine OwnGo.st (fun _ kk => XS.dmulS X41.here hx rfl (v := (4623395377458551194 : UInt64)) (hb hby d3_58) rfl (show _ ≤ _ by decide +kernel) (by decide +kernel) kk) ?_
  show OwnGo p e below s _ _ _ T41 (mkF m 59 #[.val (.ref o), .val (.long p1), .second, .val (.long (own_st p1)), .second, .val (.int (Int32.ofNat r))] [(.double (4623395377458551194 : UInt64)), (.double (4611686018427387904 : UInt64))])
  refine OwnGo.st (fun _ kk => XS.dcmpS X41.here hx rfl (v := (-1 : Int32)) (hb hby d3_59) rfl (by decide +kernel) kk) ?_
  show OwnGo p e below s _ _ _ T41 (mkF m 60 #[.val (.ref o), .val (.long p1), .second, .val (.long (own_st p1)), .second, .val (.int (Int32.ofNat r))] [(.int (-1 : Int32))])
  refine OwnGo.st (fun _ kk => XS.ifYes X41.here hx rfl (pc0 := 60) (pc' := 80) rfl (hb hby d3_60) rfl ((if0 _ _).trans (flt ((by decide) : ¬ ((0 : Int32) < (-1 : Int32)))).2.2.2) (by decide) (by decide) kk) ?_
  show OwnGo p e below s _ _ _ T41 (mkF m 80 #[.val (.ref o), .val (.long p1), .second, .val (.long (own_st p1)), .second, .val (.int (Int32.ofNat r))] [])
  refine OwnGo.st (fun _ kk => XS.iconst X41.here hx rfl (hb hby d3_80) kk) ?_
  show OwnGo p e below s _ _ _ T41 (mkF m 81 #[.val (.ref o), .val (.long p1), .second, .val (.long (own_st p1)), .second, .val (.int (Int32.ofNat r))] [(.int (1 : Int32))])
  exact OwnGo.retN X41 hx (t := .boolean) hret hlk (by simp) (hb hby d3_81) (by show QaddN1 Z o t kc vs p1 h0 n0 _ T41.heap _; rw [e41]; exact ⟨r, k, hr, hz, hk, rfl, N39, Kp, E_o, Fs, F_size, V⟩) (by decide) (by decide)
def QaddN2 (Z : State) (o : Addr) (t : Addr) (kc : ClassId) (vs : List Int64) (p1 : Int64) (h0 : Heap) (n0 : Nat) (v : Option Value) (h : Heap) (L : List Loc) : Prop := ∃ r k : Nat, r < 16 ∧ own_at vs r = 0 ∧ own_path vs (own_st p1) k (own_home (own_st p1)) r ∧ v = some (.int (1 : Int32)) ∧ Fr n0 L ∧ Keep h0 h [o, t] ∧ Exa Z h o "com/example/utsatt/utsatt/KeyHashes" ∧ Fld Z h o "com/example/utsatt/utsatt/KeyHashes" "slots" "[J" (.ref t) ∧ Fld Z h o "com/example/utsatt/utsatt/KeyHashes" "size" "I" (.int (3 : Int32)) ∧ Arv Z h t kc .long (16 : Int32) ((vs.set r (own_st p1)).map Value.long) (.long (0 : Int64))
set_option maxRecDepth 65536 in
set_option maxHeartbeats 40000000 in
theorem rmaddN2 (l : Launch) (Z : State) (a0 : Array Value) (hw : ∀ d ∈ tables_1, d.before a0 Z = true) (ws : List Jvm.Cond) (o : Addr) (t : Addr) (kc : ClassId) (vs : List Int64) (p1 : Int64) (h0 : Heap) (n0 : Nat) (Z0 : n0 ≤ h0.size) (E_o : Exa Z h0 o "com/example/utsatt/utsatt/KeyHashes") (Fs : Fld Z h0 o "com/example/utsatt/utsatt/KeyHashes" "slots" "[J" (.ref t)) (V : Arv Z h0 t kc .long (16 : Int32) (vs.map Value.long) (.long (0 : Int64))) (hl : vs.length = 16) (F_size : Fld Z h0 o "com/example/utsatt/utsatt/KeyHashes" "size" "I" (.int (2 : Int32))) (g_o : n0 ≤ o) (g_t : n0 ≤ t) (ne_t_o : t ≠ o) (hfree : 0 < own_zeros vs) (hmiss : ∀ k r, own_path vs (own_st p1) k (own_home (own_st p1)) r → ¬ own_at vs r = own_st p1) :
    MetFree l (⟨"com/example/utsatt/utsatt/KeyHashes", "add", "(J)Z"⟩ : MethodName) (head1 (Jvm.Cond.code (⟨"com/example/utsatt/utsatt/KeyHashes", "add", "(J)Z"⟩ : MethodName) prog_2_method_4_code 6 (some .boolean) :: ws) ({ frames := 2, cells := 0, slots := 0, locals := 32 } : Room)) (fun as_ UU => as_ = #[(.ref o), (.long p1)] ∧ Z.Warmed39 UU.vm ∧ UU.heap = h0) (fun _ _ _ _ _ => True) (fun _ UU oo UU' => ∃ vv LL, oo = .returned vv ∧ (QaddN2 Z o t kc vs p1 h0 n0) vv UU'.heap LL ∧ FrameEnd UU oo UU' LL ({ frames := 2, cells := 0, slots := 0, locals := 32 } : Room).cells ({ frames := 2, cells := 0, slots := 0, locals := 32 } : Room).slots) := by
  refine own_met (plainFor_of_name pn_1) ?_
  intro p e s m below meth c s₁ X0 hx hby hml hret hlk hown hnm hZ e0
  have N0 := Fr.nil n0
  have Z_ := Z0
  refine OwnGo.cast (ef_addN2 m o p1) ?_
  show OwnGo p e below s _ _ _ s₁ (mkF m 0 #[.val (.ref o), .val (.long p1), .second, .unset, .unset, .unset] [])
  have Kp : Keep h0 h0 [o, t] := Keep.refl h0 [o, t]
  refine OwnGo.st (fun _ kk => XS.lloadN X0.here hx rfl (hb hby d3_0) rfl  kk) ?_
  show OwnGo p e below s _ _ _ s₁ (mkF m 1 #[.val (.ref o), .val (.long p1), .second, .unset, .unset, .unset] [(.long p1)])
  obtain ⟨_, _, ⟨T43, L43, k43, n43⟩, -, X43, ⟨Lc43, hQ43, l43, y43, z43⟩, st43⟩ := Jvm.LawKit.callS X0 hx (y := (⟨"com/example/utsatt/utsatt/KeyHashes", "stored", "(J)J"⟩ : MethodName)) hown (mvT hZ (hw _ (List.mem_of_getElem? (i := 17) rfl))) (mvT hZ (hw _ (List.mem_of_getElem? (i := 18) rfl))) (mvT hZ (hw _ (List.mem_of_getElem? (i := 2) rfl))) (mvT hZ (hw _ (List.mem_of_getElem? (i := 19) rfl))) (by decide) (backOf (W := 0) (rmsto l Z a0 hw [] p1 h0 n0 Z_ ) hZ (hw _ (List.mem_of_getElem? (i := 19) rfl)) (hw _ (List.mem_of_getElem? (i := 2) rfl)) (by decide) (by decide)) (g := (mkF m 1 #[.val (.ref o), .val (.long p1), .second, .unset, .unset, .unset] [(.long p1)])) rfl (by rw [hml]; rfl) (argsL := [(.long p1)]) (rest := []) (lenOf pd_2 rfl) rfl (by show 2 * 0 + _ ≤ _; exact Nat.le_of_eq rfl) (hb hby d3_1) (fun _ _ => ⟨rfl, e0, (by decide : 0 + 0 ≤ _), (by decide : 0 + 0 ≤ _)⟩)
  dsimp only [Pt.U, Pt.locs, Pt.cells, Pt.slots] at X43 l43 y43 z43 st43 hQ43
  subst l43 y43 z43
  obtain ⟨rfl, N43q, e43⟩ := hQ43
  have N43 := Fr.app N0 N43q
  refine OwnGo.st st43 ?_
  show OwnGo p e below s _ _ _ T43 (mkF m 4 #[.val (.ref o), .val (.long p1), .second, .unset, .unset, .unset] [(.long (own_st p1))])
  refine OwnGo.st (fun _ kk => XS.lstoreN X43.here hx rfl (hb hby d3_4) rfl (l' := #[.val (.ref o), .val (.long p1), .second, .val (.long (own_st p1)), .second, .unset]) rfl kk) ?_
  show OwnGo p e below s _ _ _ T43 (mkF m 5 #[.val (.ref o), .val (.long p1), .second, .val (.long (own_st p1)), .second, .unset] [])
  refine OwnGo.st (fun _ kk => XS.aloadN X43.here hx rfl (hb hby d3_5) rfl rfl  kk) ?_
  show OwnGo p e below s _ _ _ T43 (mkF m 6 #[.val (.ref o), .val (.long p1), .second, .val (.long (own_st p1)), .second, .unset] [(.ref o)])
  refine OwnGo.st (fun _ kk => XS.lloadN X43.here hx rfl (hb hby d3_6) rfl  kk) ?_
  show OwnGo p e below s _ _ _ T43 (mkF m 7 #[.val (.ref o), .val (.long p1), .second, .val (.long (own_st p1)), .second, .unset] [(.long (own_st p1)), (.ref o)])
  obtain ⟨cq44, q44, q44'⟩ := E_o.cell
  obtain ⟨_, _, ⟨T44, L44, k44, n44⟩, -, X44, ⟨Lc44, hQ44, l44, y44, z44⟩, st44⟩ := X43.privateBack hx (y := (⟨"com/example/utsatt/utsatt/KeyHashes", "slotOf", "(J)I"⟩ : MethodName)) hown (mvT hZ (hw _ (List.mem_of_getElem? (i := 20) rfl))) (mvT hZ (hw _ (List.mem_of_getElem? (i := 21) rfl))) (own_selp (z := (⟨"com/example/utsatt/utsatt/KeyHashes", "add", "(J)Z"⟩ : MethodName)) (mvT hZ (hw _ (List.mem_of_getElem? (i := 15) rfl))) rfl (Cond.privateMethod_at (mvP hZ (hw _ (List.mem_of_getElem? (i := 22) rfl)) (args := #[]))) (mvT hZ (hw _ (List.mem_of_getElem? (i := 21) rfl))) (by decide)) (Cond.privateMethod_at (mvP hZ (hw _ (List.mem_of_getElem? (i := 22) rfl)) (args := #[]))) (mvT hZ (hw _ (List.mem_of_getElem? (i := 23) rfl))) (by decide) (backOf (W := 0) (rmslot l Z a0 hw [] o t kc vs (own_st p1) h0 n0 Z_ E_o Fs V hl (own_free hl hfree _)) hZ (hw _ (List.mem_of_getElem? (i := 23) rfl)) (hw _ (List.mem_of_getElem? (i := 2) rfl)) (by decide) (by decide)) (g := (mkF m 7 #[.val (.ref o), .val (.long p1), .second, .val (.long (own_st p1)), .second, .unset] [(.long (own_st p1)), (.ref o)])) rfl (by rw [hml]; rfl) (Steps.refl _) (a := o) (by rw [e43]; exact q44) q44' (argsL := [(.long (own_st p1))]) (rest := []) (lenOf pd_3 rfl) rfl (by show 2 * 0 + _ ≤ _; exact Nat.le_of_eq rfl) (hb hby d3_7) (fun _ _ => ⟨rfl, e43, (by decide : 0 + 0 ≤ _), (by decide : 0 + 0 ≤ _)⟩)
  dsimp only [Pt.U, Pt.locs, Pt.cells, Pt.slots] at X44 l44 y44 z44 st44 hQ44
  subst l44 y44 z44
  obtain ⟨r, k, hr, rfl, hk, N44q, e44⟩ := hQ44
  have N44 := Fr.app N43 N44q
  refine OwnGo.st (fun _ kk => st44.trans kk) ?_
  show OwnGo p e below s _ _ _ T44 (mkF m 10 #[.val (.ref o), .val (.long p1), .second, .val (.long (own_st p1)), .second, .unset] [(.int (Int32.ofNat r))])
  refine OwnGo.st (fun _ kk => XS.istore X44.here hx rfl (hb hby d3_10) rfl (l' := #[.val (.ref o), .val (.long p1), .second, .val (.long (own_st p1)), .second, .val (.int (Int32.ofNat r))]) rfl kk) ?_
  show OwnGo p e below s _ _ _ T44 (mkF m 12 #[.val (.ref o), .val (.long p1), .second, .val (.long (own_st p1)), .second, .val (.int (Int32.ofNat r))] [])
  refine OwnGo.st (fun _ kk => XS.aloadN X44.here hx rfl (hb hby d3_12) rfl rfl  kk) ?_
  show OwnGo p e below s _ _ _ T44 (mkF m 13 #[.val (.ref o), .val (.long p1), .second, .val (.long (own_st p1)), .second, .val (.int (Int32.ofNat r))] [(.ref o)])
  obtain ⟨T45, X45, e45, st45⟩ := getF X44 hx hZ hown (host := "") (Or.inl (hw _ (List.mem_of_getElem? (i := 10) rfl))) Via.refl e44 Fs (g := (mkF m 13 #[.val (.ref o), .val (.long p1), .second, .val (.long (own_st p1)), .second, .val (.int (Int32.ofNat r))] [(.ref o)])) rfl rfl (hb hby d3_13)
  refine OwnGo.st st45 ?_
  show OwnGo p e below s _ _ _ T45 (mkF m 16 #[.val (.ref o), .val (.long p1), .second, .val (.long (own_st p1)), .second, .val (.int (Int32.ofNat r))] [(.ref t)])
  refine OwnGo.st (fun _ kk => XS.iload X45.here hx rfl (hb hby d3_16) rfl  kk) ?_
  show OwnGo p e below s _ _ _ T45 (mkF m 18 #[.val (.ref o), .val (.long p1), .second, .val (.long (own_st p1)), .second, .val (.int (Int32.ofNat r))] [(.int (Int32.ofNat r)), (.ref t)])
  obtain ⟨cl46, Ar46, -, S46, -, H46, -⟩ := id V
  have hin46 : ¬ ((Int32.ofNat r) < 0 ∨ cl46.slots.size ≤ ((Int32.ofNat r)).toNatClampNeg) := inb_of S46 (own_inb hr)
  refine OwnGo.st (fun _ kk => X45.laload hx (j := (Int32.ofNat r)) (v := (.long (own_at vs r))) (by first | exact Ar46.1 | (rw [e45]; exact Ar46.1)) (State.isArrayOf_alike hZ.alike Ar46.2.1) Ar46.2.2 hin46 (H46.at hin46 (own_get hl hr)) (g := (mkF m 18 #[.val (.ref o), .val (.long p1), .second, .val (.long (own_st p1)), .second, .val (.int (Int32.ofNat r))] [(.int (Int32.ofNat r)), (.ref t)])) rfl rfl (hb hby d3_18) _ kk) ?_
  show OwnGo p e below s _ _ _ T45 (mkF m 19 #[.val (.ref o), .val (.long p1), .second, .val (.long (own_st p1)), .second, .val (.int (Int32.ofNat r))] [(.long (own_at vs r))])
  refine OwnGo.st (fun _ kk => XS.lloadN X45.here hx rfl (hb hby d3_19) rfl  kk) ?_
  show OwnGo p e below s _ _ _ T45 (mkF m 20 #[.val (.ref o), .val (.long p1), .second, .val (.long (own_st p1)), .second, .val (.int (Int32.ofNat r))] [(.long (own_st p1)), (.long (own_at vs r))])
  refine OwnGo.st (fun _ kk => XS.lcmp X45.here hx rfl (hb hby d3_20) rfl kk) ?_
  show OwnGo p e below s _ _ _ T45 (mkF m 21 #[.val (.ref o), .val (.long p1), .second, .val (.long (own_st p1)), .second, .val (.int (Int32.ofNat r))] [(.int (lcmpW (own_at vs r) (own_st p1)))])
  have hm := hmiss k r hk
  have hz := (own_path_end k hk).resolve_right hm
  refine OwnGo.st (fun _ kk => XS.ifYes X45.here hx rfl (pc0 := 21) (pc' := 26) rfl (hb hby d3_21) rfl ((if0 _ _).trans (feq ((fun q => hm ((lw_eq _ _).1 q)) : ¬ ((lcmpW (own_at vs r) (own_st p1)) = (0 : Int32)))).2) (by decide) (by decide) kk) ?_
  show OwnGo p e below s _ _ _ T45 (mkF m 26 #[.val (.ref o), .val (.long p1), .second, .val (.long (own_st p1)), .second, .val (.int (Int32.ofNat r))] [])
  refine OwnGo.st (fun _ kk => XS.aloadN X45.here hx rfl (hb hby d3_26) rfl rfl  kk) ?_
  show OwnGo p e below s _ _ _ T45 (mkF m 27 #[.val (.ref o), .val (.long p1), .second, .val (.long (own_st p1)), .second, .val (.int (Int32.ofNat r))] [(.ref o)])
  obtain ⟨T47, X47, e47, st47⟩ := getF X45 hx hZ hown (host := "") (Or.inl (hw _ (List.mem_of_getElem? (i := 10) rfl))) Via.refl e45 Fs (g := (mkF m 27 #[.val (.ref o), .val (.long p1), .second, .val (.long (own_st p1)), .second, .val (.int (Int32.ofNat r))] [(.ref o)])) rfl rfl (hb hby d3_27)
  refine OwnGo.st st47 ?_
  show OwnGo p e below s _ _ _ T47 (mkF m 30 #[.val (.ref o), .val (.long p1), .second, .val (.long (own_st p1)), .second, .val (.int (Int32.ofNat r))] [(.ref t)])
  refine OwnGo.st (fun _ kk => XS.iload X47.here hx rfl (hb hby d3_30) rfl  kk) ?_
  show OwnGo p e below s _ _ _ T47 (mkF m 32 #[.val (.ref o), .val (.long p1), .second, .val (.long (own_st p1)), .second, .val (.int (Int32.ofNat r))] [(.int (Int32.ofNat r)), (.ref t)])
  refine OwnGo.st (fun _ kk => XS.lloadN X47.here hx rfl (hb hby d3_32) rfl  kk) ?_
  show OwnGo p e below s _ _ _ T47 (mkF m 33 #[.val (.ref o), .val (.long p1), .second, .val (.long (own_st p1)), .second, .val (.int (Int32.ofNat r))] [(.long (own_st p1)), (.int (Int32.ofNat r)), (.ref t)])
  obtain ⟨cl48, Ar48, q48, S48, N48, H48, G48⟩ := id V
  obtain ⟨T48, h48, X48, e48, W48, st48⟩ := stJ X47 hx hZ e47 Ar48 (j := (Int32.ofNat r)) (inb_of S48 (own_inb hr)) (g := (mkF m 33 #[.val (.ref o), .val (.long p1), .second, .val (.long (own_st p1)), .second, .val (.int (Int32.ofNat r))] [(.long (own_st p1)), (.int (Int32.ofNat r)), (.ref t)])) rfl rfl (hb hby d3_33)
  have V' := Arv.set Ar48 q48 S48 N48 H48 G48 rfl W48 r (own_nat hr) (by rw [List.length_map, hl]; exact hr)
  rw [own_set] at V'
  have F_size := F_size.other W48 (Or.inl (Ne.symm ne_t_o))
  have E_o := E_o.wr W48
  have Fs := Fs.other W48 (Or.inl (Ne.symm ne_t_o))
  have Kp := Kp.wr W48 (Or.inl (List.mem_of_getElem? (i := 1) rfl))
  have N48 := Fr.snoc X48 N44 g_t
  have Z_ : n0 ≤ h48.size := by rw [W48.size]; exact Z_
  have V := V'
  refine OwnGo.st st48 ?_
  show OwnGo p e below s _ _ _ T48 (mkF m 34 #[.val (.ref o), .val (.long p1), .second, .val (.long (own_st p1)), .second, .val (.int (Int32.ofNat r))] [])
  refine OwnGo.st (fun _ kk => XS.aloadN X48.here hx rfl (hb hby d3_34) rfl rfl  kk) ?_
  show OwnGo p e below s _ _ _ T48 (mkF m 35 #[.val (.ref o), .val (.long p1), .second, .val (.long (own_st p1)), .second, .val (.int (Int32.ofNat r))] [(.ref o)])
  refine OwnGo.st (fun _ kk => XS.dup X48.here hx rfl (hb hby d3_35) rfl rfl kk) ?_
  show OwnGo p e below s _ _ _ T48 (mkF m 36 #[.val (.ref o), .val (.long p1), .second, .val (.long (own_st p1)), .second, .val (.int (Int32.ofNat r))] [(.ref o), (.ref o)])
  obtain ⟨T49, X49, e49, st49⟩ := getF X48 hx hZ hown (host := "") (Or.inl (hw _ (List.mem_of_getElem? (i := 27) rfl))) Via.refl e48 F_size (g := (mkF m 36 #[.val (.ref o), .val (.long p1), .second, .val (.long (own_st p1)), .second, .val (.int (Int32.ofNat r))] [(.ref o), (.ref o)])) rfl rfl (hb hby d3_36)
  refine OwnGo.st st49 ?_
  show OwnGo p e below s _ _ _ T49 (mkF m 39 #[.val (.ref o), .val (.long p1), .second, .val (.long (own_st p1)), .second, .val (.int (Int32.ofNat r))] [(.int (2 : Int32)), (.ref o)])
  refine OwnGo.st (fun _ kk => XS.iconst X49.here hx rfl (hb hby d3_39) kk) ?_
  show OwnGo p e below s _ _ _ T49 (mkF m 40 #[.val (.ref o), .val (.long p1), .second, .val (.long (own_st p1)), .second, .val (.int (Int32.ofNat r))] [(.int (1 : Int32)), (.int (2 : Int32)), (.ref o)])
  refine OwnGo.st (fun _ kk => XS.iadd X49.here hx rfl (hb hby d3_40) rfl kk) ?_
  show OwnGo p e below s _ _ _ T49 (mkF m 41 #[.val (.ref o), .val (.long p1), .second, .val (.long (own_st p1)), .second, .val (.int (Int32.ofNat r))] [(.int (3 : Int32)), (.ref o)])
  show OwnGo p e below s _ _ _ T49 (mkF m 41 #[.val (.ref o), .val (.long p1), .second, .val (.long (own_st p1)), .second, .val (.int (Int32.ofNat r))] [(.int (3 : Int32)), (.ref o)])
  obtain ⟨T50, h50, X50, e50, W50, st50⟩ := putF X49 hx hZ hown (host := "") (Or.inl (hw _ (List.mem_of_getElem? (i := 27) rfl))) Via.refl e49 F_size E_o (Or.inl (hw _ (List.mem_of_getElem? (i := 28) rfl))) (hw _ (List.mem_of_getElem? (i := 1) rfl)) (ty := .int) (by decide) rfl rfl (g := (mkF m 41 #[.val (.ref o), .val (.long p1), .second, .val (.long (own_st p1)), .second, .val (.int (Int32.ofNat r))] [(.int (3 : Int32)), (.ref o)])) rfl rfl (hb hby d3_41)
  have F_size := F_size.same W50
  have E_o := E_o.wr W50
  have Fs := Fs.other W50 (Or.inr (slot_ne (Or.inl (hw _ (List.mem_of_getElem? (i := 11) rfl))) (Or.inl (hw _ (List.mem_of_getElem? (i := 28) rfl))) (by decide) (t := (.array .long)) (t' := .int) (by decide) (by decide)))
  have V := V.other W50 ne_t_o
  have Kp := Kp.wr W50 (Or.inl (List.mem_of_getElem? (i := 0) rfl))
  have N50 := Fr.snoc X50 N48 g_o
  have Z_ : n0 ≤ h50.size := by rw [W50.size]; exact Z_
  refine OwnGo.st st50 ?_
  show OwnGo p e below s _ _ _ T50 (mkF m 44 #[.val (.ref o), .val (.long p1), .second, .val (.long (own_st p1)), .second, .val (.int (Int32.ofNat r))] [])
  refine OwnGo.st (fun _ kk => XS.aloadN X50.here hx rfl (hb hby d3_44) rfl rfl  kk) ?_
  show OwnGo p e below s _ _ _ T50 (mkF m 45 #[.val (.ref o), .val (.long p1), .second, .val (.long (own_st p1)), .second, .val (.int (Int32.ofNat r))] [(.ref o)])
  obtain ⟨T51, X51, e51, st51⟩ := getF X50 hx hZ hown (host := "") (Or.inl (hw _ (List.mem_of_getElem? (i := 27) rfl))) Via.refl e50 F_size (g := (mkF m 45 #[.val (.ref o), .val (.long p1), .second, .val (.long (own_st p1)), .second, .val (.int (Int32.ofNat r))] [(.ref o)])) rfl rfl (hb hby d3_45)
  refine OwnGo.st st51 ?_
  show OwnGo p e below s _ _ _ T51 (mkF m 48 #[.val (.ref o), .val (.long p1), .second, .val (.long (own_st p1)), .second, .val (.int (Int32.ofNat r))] [(.int (3 : Int32))])
  refine OwnGo.st (fun _ kk => XS.i2dS X51.here hx rfl (v := (4613937818241073152 : UInt64)) (hb hby d3_48) rfl (by decide +kernel) kk) ?_
  show OwnGo p e below s _ _ _ T51 (mkF m 49 #[.val (.ref o), .val (.long p1), .second, .val (.long (own_st p1)), .second, .val (.int (Int32.ofNat r))] [(.double (4613937818241073152 : UInt64))])
  refine OwnGo.st (fun _ kk => XS.aloadN X51.here hx rfl (hb hby d3_49) rfl rfl  kk) ?_
  show OwnGo p e below s _ _ _ T51 (mkF m 50 #[.val (.ref o), .val (.long p1), .second, .val (.long (own_st p1)), .second, .val (.int (Int32.ofNat r))] [(.ref o), (.double (4613937818241073152 : UInt64))])
  obtain ⟨T52, X52, e52, st52⟩ := getF X51 hx hZ hown (host := "") (Or.inl (hw _ (List.mem_of_getElem? (i := 10) rfl))) Via.refl e51 Fs (g := (mkF m 50 #[.val (.ref o), .val (.long p1), .second, .val (.long (own_st p1)), .second, .val (.int (Int32.ofNat r))] [(.ref o), (.double (4613937818241073152 : UInt64))])) rfl rfl (hb hby d3_50)
  refine OwnGo.st st52 ?_
  show OwnGo p e below s _ _ _ T52 (mkF m 53 #[.val (.ref o), .val (.long p1), .second, .val (.long (own_st p1)), .second, .val (.int (Int32.ofNat r))] [(.ref t), (.double (4613937818241073152 : UInt64))])
  obtain ⟨cl53, Ar53, -, S53, N53, -, -⟩ := id V
  refine OwnGo.st (fun _ kk => own_len hZ (len_of S53 N53) Ar53 X52 e52 hx (g := (mkF m 53 #[.val (.ref o), .val (.long p1), .second, .val (.long (own_st p1)), .second, .val (.int (Int32.ofNat r))] [(.ref t), (.double (4613937818241073152 : UInt64))])) rfl rfl (hb hby d3_53) _ kk) ?_
  show OwnGo p e below s _ _ _ T52 (mkF m 54 #[.val (.ref o), .val (.long p1), .second, .val (.long (own_st p1)), .second, .val (.int (Int32.ofNat r))] [(.int (16 : Int32)), (.double (4613937818241073152 : UInt64))])
  refine OwnGo.st (fun _ kk => XS.i2dS X52.here hx rfl (v := (4625196817309499392 : UInt64)) (hb hby d3_54) rfl (by decide +kernel) kk) ?_
  show OwnGo p e below s _ _ _ T52 (mkF m 55 #[.val (.ref o), .val (.long p1), .second, .val (.long (own_st p1)), .second, .val (.int (Int32.ofNat r))] [(.double (4625196817309499392 : UInt64)), (.double (4613937818241073152 : UInt64))])
  refine OwnGo.st (fun _ kk => X52.ldc2DoubleC hx hown (mvT hZ (hw _ (List.mem_of_getElem? (i := 29) rfl))) (g := (mkF m 55 #[.val (.ref o), .val (.long p1), .second, .val (.long (own_st p1)), .second, .val (.int (Int32.ofNat r))] [(.double (4625196817309499392 : UInt64)), (.double (4613937818241073152 : UInt64))])) rfl (hb hby d3_55) _ kk) ?_
  show OwnGo p e below s _ _ _ T52 (mkF m 58 #[.val (.ref o), .val (.long p1), .second, .val (.long (own_st p1)), .second, .val (.int (Int32.ofNat r))] [(.double (4605380978949069210 : UInt64)), (.double (4625196817309499392 : UInt64)), (.double (4613937818241073152 : UInt64))])
  refine OwnGo.st (fun _ kk => XS.dmulS X52.here hx rfl (v := (4623395377458551194 : UInt64)) (hb hby d3_58) rfl (show _ ≤ _ by decide +kernel) (by decide +kernel) kk) ?_
  show OwnGo p e below s _ _ _ T52 (mkF m 59 #[.val (.ref o), .val (.long p1), .second, .val (.long (own_st p1)), .second, .val (.int (Int32.ofNat r))] [(.double (4623395377458551194 : UInt64)), (.double (4613937818241073152 : UInt64))])
  refine OwnGo.st (fun _ kk => XS.dcmpS X52.here hx rfl (v := (-1 : Int32)) (hb hby d3_59) rfl (by decide +kernel) kk) ?_
  show OwnGo p e below s _ _ _ T52 (mkF m 60 #[.val (.ref o), .val (.long p1), .second, .val (.long (own_st p1)), .second, .val (.int (Int32.ofNat r))] [(.int (-1 : Int32))])
  refine OwnGo.st (fun _ kk => XS.ifYes X52.here hx rfl (pc0 := 60) (pc' := 80) rfl (hb hby d3_60) rfl ((if0 _ _).trans (flt ((by decide) : ¬ ((0 : Int32) < (-1 : Int32)))).2.2.2) (by decide) (by decide) kk) ?_
  show OwnGo p e below s _ _ _ T52 (mkF m 80 #[.val (.ref o), .val (.long p1), .second, .val (.long (own_st p1)), .second, .val (.int (Int32.ofNat r))] [])
  refine OwnGo.st (fun _ kk => XS.iconst X52.here hx rfl (hb hby d3_80) kk) ?_
  show OwnGo p e below s _ _ _ T52 (mkF m 81 #[.val (.ref o), .val (.long p1), .second, .val (.long (own_st p1)), .second, .val (.int (Int32.ofNat r))] [(.int (1 : Int32))])
  exact OwnGo.retN X52 hx (t := .boolean) hret hlk (by simp) (hb hby d3_81) (by show QaddN2 Z o t kc vs p1 h0 n0 _ T52.heap _; rw [e52]; exact ⟨r, k, hr, hz, hk, rfl, N50, Kp, E_o, Fs, F_size, V⟩) (by decide) (by decide)
def Qnrm (Z : State) (p1 : Int64) (h0 : Heap) (n0 : Nat) (v : Option Value) (h : Heap) (L : List Loc) : Prop := v = some (.long (own_st p1)) ∧ Fr n0 L ∧ h = h0
set_option maxRecDepth 65536 in
set_option maxHeartbeats 40000000 in
theorem rmnrm (l : Launch) (Z : State) (a0 : Array Value) (hw : ∀ d ∈ tables_1, d.before a0 Z = true) (ws : List Jvm.Cond) (p1 : Int64) (h0 : Heap) (n0 : Nat) (Z0 : n0 ≤ h0.size) :
    MetFree l (⟨"com/example/utsatt/utsatt/KeyHashesAddPinLaw", "norm", "(J)J"⟩ : MethodName) (head1 (Jvm.Cond.code (⟨"com/example/utsatt/utsatt/KeyHashesAddPinLaw", "norm", "(J)J"⟩ : MethodName) method_2_code 2 (some .long) :: ws) ({ frames := 0, cells := 0, slots := 0, locals := 0 } : Room)) (fun as_ UU => as_ = #[(.long p1)] ∧ Z.Warmed39 UU.vm ∧ UU.heap = h0) (fun _ _ _ _ _ => True) (fun _ UU oo UU' => ∃ vv LL, oo = .returned vv ∧ (Qnrm Z p1 h0 n0) vv UU'.heap LL ∧ FrameEnd UU oo UU' LL ({ frames := 0, cells := 0, slots := 0, locals := 0 } : Room).cells ({ frames := 0, cells := 0, slots := 0, locals := 0 } : Room).slots) := by
  refine own_met (plainFor_of_name pn_9) ?_
  intro p e s m below meth c s₁ X0 hx hby hml hret hlk hown hnm hZ e0
  have N0 := Fr.nil n0
  have Z_ := Z0
  refine OwnGo.cast (ef_nrm m p1) ?_
  show OwnGo p e below s _ _ _ s₁ (mkF m 0 #[.val (.long p1), .second] [])
  refine OwnGo.st (fun _ kk => XS.lloadN X0.here hx rfl (hb hby d9_0) rfl  kk) ?_
  show OwnGo p e below s _ _ _ s₁ (mkF m 1 #[.val (.long p1), .second] [(.long p1)])
  refine OwnGo.st (fun _ kk => XS.lconst X0.here hx rfl (hb hby d9_1) kk) ?_
  show OwnGo p e below s _ _ _ s₁ (mkF m 2 #[.val (.long p1), .second] [(.long (0 : Int64)), (.long p1)])
  refine OwnGo.st (fun _ kk => XS.lcmp X0.here hx rfl (hb hby d9_2) rfl kk) ?_
  show OwnGo p e below s _ _ _ s₁ (mkF m 3 #[.val (.long p1), .second] [(.int (lcmpW p1 (0 : Int64)))])
  by_cases hz : p1 = (0 : Int64)
  · refine OwnGo.st (fun _ kk => XS.ifNo X0.here hx rfl (hb hby d9_3) rfl ((if0 _ _).trans (teq (((lw_eq _ _).2 hz) : (lcmpW p1 (0 : Int64)) = (0 : Int32))).2) kk) ?_
    show OwnGo p e below s _ _ _ s₁ (mkF m 6 #[.val (.long p1), .second] [])
    refine OwnGo.st (fun _ kk => XS.lconst X0.here hx rfl (hb hby d9_6) kk) ?_
    show OwnGo p e below s _ _ _ s₁ (mkF m 7 #[.val (.long p1), .second] [(.long (1 : Int64))])
    refine OwnGo.st (fun _ kk => XS.goto X0.here hx rfl (pc0 := 7) (pc' := 11) rfl (hb hby d9_7) (by decide) (by decide) kk) ?_
    show OwnGo p e below s _ _ _ s₁ (mkF m 11 #[.val (.long p1), .second] [(.long (1 : Int64))])
    exact OwnGo.ret X0 hx hret hlk rfl (Or.inr (Or.inl ⟨rfl, rfl, _, rfl⟩)) (hb hby d9_11) (by show Qnrm Z p1 h0 n0 _ s₁.heap _; rw [e0]; exact ⟨congrArg (fun z => some (Value.long z)) (own_st0 hz).symm, N0, rfl⟩) (by decide) (by decide)
  · refine OwnGo.st (fun _ kk => XS.ifYes X0.here hx rfl (pc0 := 3) (pc' := 10) rfl (hb hby d9_3) rfl ((if0 _ _).trans (feq ((fun q => hz ((lw_eq _ _).1 q)) : ¬ ((lcmpW p1 (0 : Int64)) = (0 : Int32)))).2) (by decide) (by decide) kk) ?_
    show OwnGo p e below s _ _ _ s₁ (mkF m 10 #[.val (.long p1), .second] [])
    refine OwnGo.st (fun _ kk => XS.lloadN X0.here hx rfl (hb hby d9_10) rfl  kk) ?_
    show OwnGo p e below s _ _ _ s₁ (mkF m 11 #[.val (.long p1), .second] [(.long p1)])
    exact OwnGo.ret X0 hx hret hlk rfl (Or.inr (Or.inl ⟨rfl, rfl, _, rfl⟩)) (hb hby d9_11) (by show Qnrm Z p1 h0 n0 _ s₁.heap _; rw [e0]; exact ⟨congrArg (fun z => some (Value.long z)) (own_st1 hz).symm, N0, rfl⟩) (by decide) (by decide)
def Q0 (Z : State) (p1 : Int64) (p2 : Int64) (p3 : Int64) (h0 : Heap) (n0 : Nat) (v : Option Value) (h : Heap) (L : List Loc) : Prop := v = some (.int (1 : Int32)) ∧ Fr n0 L
set_option maxRecDepth 65536 in
set_option maxHeartbeats 40000000 in
theorem rm0 (l : Launch) (Z : State) (a0 : Array Value) (hw : ∀ d ∈ tables_1, d.before a0 Z = true) (ws : List Jvm.Cond) (p1 : Int64) (p2 : Int64) (p3 : Int64) (h0 : Heap) (n0 : Nat) (Z0 : n0 ≤ h0.size) :
    MetFree l x (head1 (Jvm.Cond.code x code maxLocals ret :: ws) room_1) (fun as_ UU => as_ = #[(.long p1), (.long p2), (.long p3)] ∧ Z.Warmed39 UU.vm ∧ UU.heap = h0) (fun _ _ _ _ _ => True) (fun _ UU oo UU' => ∃ vv LL, oo = .returned vv ∧ (Q0 Z p1 p2 p3 h0 n0) vv UU'.heap LL ∧ FrameEnd UU oo UU' LL room_1.cells room_1.slots) := by
  refine own_met (plainFor_of_name pn_9) ?_
  intro p e s m below meth c s₁ X0 hx hby hml hret hlk hown hnm hZ e0
  have N0 := Fr.nil n0
  have Z_ := Z0
  refine OwnGo.cast (ef_0 m p1 p2 p3) ?_
  have hml : c.maxLocals = 23 := hml
  show OwnGo p e below s _ _ _ s₁ (mkF m 0 #[.val (.long p1), .second, .val (.long p2), .second, .val (.long p3), .second, .unset, .unset, .unset, .unset, .unset, .unset, .unset, .unset, .unset, .unset, .unset, .unset, .unset, .unset, .unset, .unset, .unset] [])
  obtain ⟨T54, h54, X54, e54, E54, A54, D54, -, st54⟩ := newO X0 hx hZ hown (hw _ (List.mem_of_getElem? (i := 0) rfl)) (hw _ (List.mem_of_getElem? (i := 1) rfl)) (hw _ (List.mem_of_getElem? (i := 2) rfl)) e0 (g := (mkF m 0 #[.val (.long p1), .second, .val (.long p2), .second, .val (.long p3), .second, .unset, .unset, .unset, .unset, .unset, .unset, .unset, .unset, .unset, .unset, .unset, .unset, .unset, .unset, .unset, .unset, .unset] [])) rfl (hb hby at_0) (by decide) (by decide)
  obtain ⟨b54, g54⟩ : ∃ z, z = h0.size := ⟨_, rfl⟩
  rw [← g54] at A54 D54 st54
  have g_b54 : n0 ≤ b54 := Nat.le_trans Z_ (Nat.le_of_eq g54.symm)
  have Z_ : n0 ≤ h54.size := Nat.le_trans Z_ E54.1
  have E_b54 := A54
  have F_slots_b54 : Fld Z h54 b54 "com/example/utsatt/utsatt/KeyHashes" "slots" "[J" .null := D54 (Or.inl (hw _ (List.mem_of_getElem? (i := 11) rfl))) (ty := (.array .long)) (by decide)
  have F_size_b54 : Fld Z h54 b54 "com/example/utsatt/utsatt/KeyHashes" "size" "I" (.int (0 : Int32)) := D54 (Or.inl (hw _ (List.mem_of_getElem? (i := 28) rfl))) (ty := .int) (by decide)
  refine OwnGo.st st54 ?_
  show OwnGo p e below s _ _ _ T54 (mkF m 3 #[.val (.long p1), .second, .val (.long p2), .second, .val (.long p3), .second, .unset, .unset, .unset, .unset, .unset, .unset, .unset, .unset, .unset, .unset, .unset, .unset, .unset, .unset, .unset, .unset, .unset] [(.ref b54)])
  refine OwnGo.st (fun _ kk => XS.dup X54.here hx rfl (hb hby at_3) rfl rfl kk) ?_
  show OwnGo p e below s _ _ _ T54 (mkF m 4 #[.val (.long p1), .second, .val (.long p2), .second, .val (.long p3), .second, .unset, .unset, .unset, .unset, .unset, .unset, .unset, .unset, .unset, .unset, .unset, .unset, .unset, .unset, .unset, .unset, .unset] [(.ref b54), (.ref b54)])
  obtain ⟨_, _, ⟨T55, L55, k55, n55⟩, -, X55, ⟨Lc55, hQ55, l55, y55, z55⟩, st55⟩ := X54.specialBack hx (y := (⟨"com/example/utsatt/utsatt/KeyHashes", "<init>", "()V"⟩ : MethodName)) rfl hown (mvT hZ (hw _ (List.mem_of_getElem? (i := 3) rfl))) (mvT hZ (hw _ (List.mem_of_getElem? (i := 4) rfl))) (mvT hZ (hw _ (List.mem_of_getElem? (i := 5) rfl))) (by decide) (backOf (W := 1) (rmini l Z a0 hw [] b54 h54 n0 Z_ E_b54 F_slots_b54 F_size_b54 g_b54) hZ (hw _ (List.mem_of_getElem? (i := 5) rfl)) (hw _ (List.mem_of_getElem? (i := 2) rfl)) (by decide) (by decide)) (g := (mkF m 4 #[.val (.long p1), .second, .val (.long p2), .second, .val (.long p3), .second, .unset, .unset, .unset, .unset, .unset, .unset, .unset, .unset, .unset, .unset, .unset, .unset, .unset, .unset, .unset, .unset, .unset] [(.ref b54), (.ref b54)])) rfl (by rw [hml]; rfl) (Steps.refl _) (a := b54) (argsL := []) (rest := [(.ref b54)]) (lenOf pd_4 rfl) rfl (by show 2 * 0 + _ ≤ _; exact Nat.le_of_eq rfl) (hb hby at_4) (fun _ _ => ⟨rfl, e54, (by decide : 1 + 1 ≤ _), (by decide : 2 + 16 ≤ _)⟩)
  dsimp only [Pt.U, Pt.locs, Pt.cells, Pt.slots] at X55 l55 y55 z55 st55 hQ55
  subst l55 y55 z55
  obtain ⟨rfl, N55q, K55, Eo55, Fz55, t55, kc55, Fs55, V55, zt55⟩ := hQ55
  have N55 := Fr.app N0 N55q
  have ne_b54_t55 : b54 ≠ t55 := Nat.ne_of_lt (Nat.lt_of_lt_of_le E_b54.lt zt55)
  have g_t55 : n0 ≤ t55 := Nat.le_trans Z_ zt55
  have Z_ : n0 ≤ T55.heap.size := Nat.le_trans Z_ K55.1
  have E_b54 := E_b54.keep K55
  refine OwnGo.st (fun _ kk => st55.trans kk) ?_
  show OwnGo p e below s _ _ _ T55 (mkF m 7 #[.val (.long p1), .second, .val (.long p2), .second, .val (.long p3), .second, .unset, .unset, .unset, .unset, .unset, .unset, .unset, .unset, .unset, .unset, .unset, .unset, .unset, .unset, .unset, .unset, .unset] [(.ref b54)])
  have hl0 : own_emp.length = 16 := rfl
  have on0 : own_only own_emp [] := fun j hj => absurd (own_emp0 j) hj
  have ze0 : 16 ≤ own_zeros own_emp := by decide
  refine OwnGo.st (fun _ kk => XS.astore X55.here hx rfl (hb hby at_7) rfl rfl (l' := #[.val (.long p1), .second, .val (.long p2), .second, .val (.long p3), .second, .val (.ref b54), .unset, .unset, .unset, .unset, .unset, .unset, .unset, .unset, .unset, .unset, .unset, .unset, .unset, .unset, .unset, .unset]) rfl kk) ?_
  show OwnGo p e below s _ _ _ T55 (mkF m 9 #[.val (.long p1), .second, .val (.long p2), .second, .val (.long p3), .second, .val (.ref b54), .unset, .unset, .unset, .unset, .unset, .unset, .unset, .unset, .unset, .unset, .unset, .unset, .unset, .unset, .unset, .unset] [])
  refine OwnGo.st (fun _ kk => XS.aload X55.here hx rfl (hb hby at_9) rfl rfl  kk) ?_
  show OwnGo p e below s _ _ _ T55 (mkF m 11 #[.val (.long p1), .second, .val (.long p2), .second, .val (.long p3), .second, .val (.ref b54), .unset, .unset, .unset, .unset, .unset, .unset, .unset, .unset, .unset, .unset, .unset, .unset, .unset, .unset, .unset, .unset] [(.ref b54)])
  refine OwnGo.st (fun _ kk => XS.lloadN X55.here hx rfl (hb hby at_11) rfl  kk) ?_
  show OwnGo p e below s _ _ _ T55 (mkF m 12 #[.val (.long p1), .second, .val (.long p2), .second, .val (.long p3), .second, .val (.ref b54), .unset, .unset, .unset, .unset, .unset, .unset, .unset, .unset, .unset, .unset, .unset, .unset, .unset, .unset, .unset, .unset] [(.long p1), (.ref b54)])
  obtain ⟨cq56, kq56, q56a, q56b, q56c⟩ := isOf hZ rfl E_b54
  obtain ⟨_, _, ⟨T56, L56, k56, n56⟩, -, X56, ⟨Lc56, hQ56, l56, y56, z56⟩, st56⟩ := X55.virtualBack hx (y := (⟨"com/example/utsatt/utsatt/KeyHashes", "add", "(J)Z"⟩ : MethodName)) (z := (⟨"com/example/utsatt/utsatt/KeyHashes", "add", "(J)Z"⟩ : MethodName)) hown (mvT hZ (hw _ (List.mem_of_getElem? (i := 12) rfl))) (mvT hZ (hw _ (List.mem_of_getElem? (i := 13) rfl))) (notFace_of_selects (args := #[]) (mvT hZ (hw _ (List.mem_of_getElem? (i := 15) rfl)))) (mvT hZ (hw _ (List.mem_of_getElem? (i := 15) rfl))) (mvT hZ (hw _ (List.mem_of_getElem? (i := 14) rfl))) (by decide) (backOf (W := 0) (rmaddN0 l Z a0 hw [] b54 t55 kc55 own_emp p1 T55.heap n0 Z_ E_b54 Fs55 V55 hl0 Fz55 g_b54 g_t55 (Ne.symm ne_b54_t55) (Nat.lt_of_lt_of_le (by decide) ze0) (own_miss on0 (own_stn _) (fun q => nomatch q))) hZ (hw _ (List.mem_of_getElem? (i := 16) rfl)) (hw _ (List.mem_of_getElem? (i := 2) rfl)) (by decide) (by decide)) q56a q56c (g := (mkF m 12 #[.val (.long p1), .second, .val (.long p2), .second, .val (.long p3), .second, .val (.ref b54), .unset, .unset, .unset, .unset, .unset, .unset, .unset, .unset, .unset, .unset, .unset, .unset, .unset, .unset, .unset, .unset] [(.long p1), (.ref b54)])) rfl (by rw [hml]; rfl) (Steps.refl _) (argsL := [(.long p1)]) (rest := []) (lenOf pd_5 rfl) rfl (by show 2 * 0 + _ ≤ _; exact Nat.le_of_eq rfl) (hb hby at_12) (fun _ _ => ⟨rfl, rfl, (by decide : 2 + 0 ≤ _), (by decide : 18 + 0 ≤ _)⟩)
  dsimp only [Pt.U, Pt.locs, Pt.cells, Pt.slots] at X56 l56 y56 z56 st56 hQ56
  subst l56 y56 z56
  obtain ⟨r56, k56, hr56, hz56, hk56, rfl, N56q, K56, Eo56, Fs56, Fz56, V56⟩ := hQ56
  have N56 := Fr.app N55 N56q
  have Z_ : n0 ≤ T56.heap.size := Nat.le_trans Z_ K56.1
  have E_b54 := E_b54.keep K56
  refine OwnGo.st (fun _ kk => st56.trans kk) ?_
  show OwnGo p e below s _ _ _ T56 (mkF m 15 #[.val (.long p1), .second, .val (.long p2), .second, .val (.long p3), .second, .val (.ref b54), .unset, .unset, .unset, .unset, .unset, .unset, .unset, .unset, .unset, .unset, .unset, .unset, .unset, .unset, .unset, .unset] [(.int (1 : Int32))])
  obtain ⟨w56, hw56⟩ : ∃ l : List Int64, l = own_emp.set r56 (own_st p1) := ⟨_, rfl⟩
  rw [← hw56] at V56
  have hl56 : w56.length = 16 := by rw [hw56, List.length_set]; exact hl0
  have in_p1_56 : own_in w56 (own_st p1) := hw56 ▸ own_in_new (show r56 < List.length own_emp by rw [hl0]; exact hr56) hz56 hk56
  have on_56 : own_only w56 ((own_st p1) :: []) := hw56 ▸ own_only_set (show r56 < List.length own_emp by rw [hl0]; exact hr56) on0
  have ze_56 : 15 ≤ own_zeros w56 := by have q := own_zeros_set (own_st p1) own_emp r56; rw [← hw56] at q; have q' := ze0; omega
  refine OwnGo.st (fun _ kk => XS.istore X56.here hx rfl (hb hby at_15) rfl (l' := #[.val (.long p1), .second, .val (.long p2), .second, .val (.long p3), .second, .val (.ref b54), .val (.int (1 : Int32)), .unset, .unset, .unset, .unset, .unset, .unset, .unset, .unset, .unset, .unset, .unset, .unset, .unset, .unset, .unset]) rfl kk) ?_
  show OwnGo p e below s _ _ _ T56 (mkF m 17 #[.val (.long p1), .second, .val (.long p2), .second, .val (.long p3), .second, .val (.ref b54), .val (.int (1 : Int32)), .unset, .unset, .unset, .unset, .unset, .unset, .unset, .unset, .unset, .unset, .unset, .unset, .unset, .unset, .unset] [])
  refine OwnGo.st (fun _ kk => XS.aload X56.here hx rfl (hb hby at_17) rfl rfl  kk) ?_
  show OwnGo p e below s _ _ _ T56 (mkF m 19 #[.val (.long p1), .second, .val (.long p2), .second, .val (.long p3), .second, .val (.ref b54), .val (.int (1 : Int32)), .unset, .unset, .unset, .unset, .unset, .unset, .unset, .unset, .unset, .unset, .unset, .unset, .unset, .unset, .unset] [(.ref b54)])
  refine OwnGo.st (fun _ kk => XS.lloadN X56.here hx rfl (hb hby at_19) rfl  kk) ?_
  show OwnGo p e below s _ _ _ T56 (mkF m 20 #[.val (.long p1), .second, .val (.long p2), .second, .val (.long p3), .second, .val (.ref b54), .val (.int (1 : Int32)), .unset, .unset, .unset, .unset, .unset, .unset, .unset, .unset, .unset, .unset, .unset, .unset, .unset, .unset, .unset] [(.long p2), (.ref b54)])
  by_cases hba : own_st p2 = own_st p1
  · by_cases hcn1 : own_st p3 = own_st p1
    · have hc : own_st p1 = own_st p3 ∨ own_st p2 = own_st p3 := Or.inl hcn1.symm
      obtain ⟨cq57, kq57, q57a, q57b, q57c⟩ := isOf hZ rfl E_b54
      obtain ⟨_, _, ⟨T57, L57, k57, n57⟩, -, X57, ⟨Lc57, hQ57, l57, y57, z57⟩, st57⟩ := X56.virtualBack hx (y := (⟨"com/example/utsatt/utsatt/KeyHashes", "add", "(J)Z"⟩ : MethodName)) (z := (⟨"com/example/utsatt/utsatt/KeyHashes", "add", "(J)Z"⟩ : MethodName)) hown (mvT hZ (hw _ (List.mem_of_getElem? (i := 12) rfl))) (mvT hZ (hw _ (List.mem_of_getElem? (i := 13) rfl))) (notFace_of_selects (args := #[]) (mvT hZ (hw _ (List.mem_of_getElem? (i := 15) rfl)))) (mvT hZ (hw _ (List.mem_of_getElem? (i := 15) rfl))) (mvT hZ (hw _ (List.mem_of_getElem? (i := 14) rfl))) (by decide) (backOf (W := 0) (rmaddO l Z a0 hw [] b54 t55 kc55 w56 p2 T56.heap n0 Z_ E_b54 Fs56 V56 hl56 (Nat.lt_of_lt_of_le (by decide) ze_56) (hba ▸ in_p1_56)) hZ (hw _ (List.mem_of_getElem? (i := 16) rfl)) (hw _ (List.mem_of_getElem? (i := 2) rfl)) (by decide) (by decide)) q57a q57c (g := (mkF m 20 #[.val (.long p1), .second, .val (.long p2), .second, .val (.long p3), .second, .val (.ref b54), .val (.int (1 : Int32)), .unset, .unset, .unset, .unset, .unset, .unset, .unset, .unset, .unset, .unset, .unset, .unset, .unset, .unset, .unset] [(.long p2), (.ref b54)])) rfl (by rw [hml]; rfl) (Steps.refl _) (argsL := [(.long p2)]) (rest := []) (lenOf pd_5 rfl) rfl (by show 2 * 0 + _ ≤ _; exact Nat.le_of_eq rfl) (hb hby at_20) (fun _ _ => ⟨rfl, rfl, (by decide : 2 + 0 ≤ _), (by decide : 18 + 0 ≤ _)⟩)
      dsimp only [Pt.U, Pt.locs, Pt.cells, Pt.slots] at X57 l57 y57 z57 st57 hQ57
      subst l57 y57 z57
      obtain ⟨rfl, N57q, e57⟩ := hQ57
      have N57 := Fr.app N56 N57q
      refine OwnGo.st (fun _ kk => st57.trans kk) ?_
      show OwnGo p e below s _ _ _ T57 (mkF m 23 #[.val (.long p1), .second, .val (.long p2), .second, .val (.long p3), .second, .val (.ref b54), .val (.int (1 : Int32)), .unset, .unset, .unset, .unset, .unset, .unset, .unset, .unset, .unset, .unset, .unset, .unset, .unset, .unset, .unset] [(.int (0 : Int32))])
      refine OwnGo.st (fun _ kk => XS.istore X57.here hx rfl (hb hby at_23) rfl (l' := #[.val (.long p1), .second, .val (.long p2), .second, .val (.long p3), .second, .val (.ref b54), .val (.int (1 : Int32)), .val (.int (0 : Int32)), .unset, .unset, .unset, .unset, .unset, .unset, .unset, .unset, .unset, .unset, .unset, .unset, .unset, .unset]) rfl kk) ?_
      show OwnGo p e below s _ _ _ T57 (mkF m 25 #[.val (.long p1), .second, .val (.long p2), .second, .val (.long p3), .second, .val (.ref b54), .val (.int (1 : Int32)), .val (.int (0 : Int32)), .unset, .unset, .unset, .unset, .unset, .unset, .unset, .unset, .unset, .unset, .unset, .unset, .unset, .unset] [])
      refine OwnGo.st (fun _ kk => XS.aload X57.here hx rfl (hb hby at_25) rfl rfl  kk) ?_
      show OwnGo p e below s _ _ _ T57 (mkF m 27 #[.val (.long p1), .second, .val (.long p2), .second, .val (.long p3), .second, .val (.ref b54), .val (.int (1 : Int32)), .val (.int (0 : Int32)), .unset, .unset, .unset, .unset, .unset, .unset, .unset, .unset, .unset, .unset, .unset, .unset, .unset, .unset] [(.ref b54)])
      refine OwnGo.st (fun _ kk => XS.lload X57.here hx rfl (hb hby at_27) rfl  kk) ?_
      show OwnGo p e below s _ _ _ T57 (mkF m 29 #[.val (.long p1), .second, .val (.long p2), .second, .val (.long p3), .second, .val (.ref b54), .val (.int (1 : Int32)), .val (.int (0 : Int32)), .unset, .unset, .unset, .unset, .unset, .unset, .unset, .unset, .unset, .unset, .unset, .unset, .unset, .unset] [(.long p3), (.ref b54)])
      have in_p3 : own_in w56 (own_st p3) := hc.elim (fun q => q ▸ in_p1_56) (fun q => q ▸ (hba ▸ in_p1_56))
      obtain ⟨cq58, kq58, q58a, q58b, q58c⟩ := isOf hZ e57 E_b54
      obtain ⟨_, _, ⟨T58, L58, k58, n58⟩, -, X58, ⟨Lc58, hQ58, l58, y58, z58⟩, st58⟩ := X57.virtualBack hx (y := (⟨"com/example/utsatt/utsatt/KeyHashes", "add", "(J)Z"⟩ : MethodName)) (z := (⟨"com/example/utsatt/utsatt/KeyHashes", "add", "(J)Z"⟩ : MethodName)) hown (mvT hZ (hw _ (List.mem_of_getElem? (i := 12) rfl))) (mvT hZ (hw _ (List.mem_of_getElem? (i := 13) rfl))) (notFace_of_selects (args := #[]) (mvT hZ (hw _ (List.mem_of_getElem? (i := 15) rfl)))) (mvT hZ (hw _ (List.mem_of_getElem? (i := 15) rfl))) (mvT hZ (hw _ (List.mem_of_getElem? (i := 14) rfl))) (by decide) (backOf (W := 0) (rmaddO l Z a0 hw [] b54 t55 kc55 w56 p3 T56.heap n0 Z_ E_b54 Fs56 V56 hl56 (Nat.lt_of_lt_of_le (by decide) ze_56) in_p3) hZ (hw _ (List.mem_of_getElem? (i := 16) rfl)) (hw _ (List.mem_of_getElem? (i := 2) rfl)) (by decide) (by decide)) q58a q58c (g := (mkF m 29 #[.val (.long p1), .second, .val (.long p2), .second, .val (.long p3), .second, .val (.ref b54), .val (.int (1 : Int32)), .val (.int (0 : Int32)), .unset, .unset, .unset, .unset, .unset, .unset, .unset, .unset, .unset, .unset, .unset, .unset, .unset, .unset] [(.long p3), (.ref b54)])) rfl (by rw [hml]; rfl) (Steps.refl _) (argsL := [(.long p3)]) (rest := []) (lenOf pd_5 rfl) rfl (by show 2 * 0 + _ ≤ _; exact Nat.le_of_eq rfl) (hb hby at_29) (fun _ _ => ⟨rfl, e57, (by decide : 2 + 0 ≤ _), (by decide : 18 + 0 ≤ _)⟩)
      dsimp only [Pt.U, Pt.locs, Pt.cells, Pt.slots] at X58 l58 y58 z58 st58 hQ58
      subst l58 y58 z58
      obtain ⟨rfl, N58q, e58⟩ := hQ58
      have N58 := Fr.app N57 N58q
      refine OwnGo.st (fun _ kk => st58.trans kk) ?_
      show OwnGo p e below s _ _ _ T58 (mkF m 32 #[.val (.long p1), .second, .val (.long p2), .second, .val (.long p3), .second, .val (.ref b54), .val (.int (1 : Int32)), .val (.int (0 : Int32)), .unset, .unset, .unset, .unset, .unset, .unset, .unset, .unset, .unset, .unset, .unset, .unset, .unset, .unset] [(.int (0 : Int32))])
      refine OwnGo.st (fun _ kk => XS.istore X58.here hx rfl (hb hby at_32) rfl (l' := #[.val (.long p1), .second, .val (.long p2), .second, .val (.long p3), .second, .val (.ref b54), .val (.int (1 : Int32)), .val (.int (0 : Int32)), .val (.int (0 : Int32)), .unset, .unset, .unset, .unset, .unset, .unset, .unset, .unset, .unset, .unset, .unset, .unset, .unset]) rfl kk) ?_
      show OwnGo p e below s _ _ _ T58 (mkF m 34 #[.val (.long p1), .second, .val (.long p2), .second, .val (.long p3), .second, .val (.ref b54), .val (.int (1 : Int32)), .val (.int (0 : Int32)), .val (.int (0 : Int32)), .unset, .unset, .unset, .unset, .unset, .unset, .unset, .unset, .unset, .unset, .unset, .unset, .unset] [])
      refine OwnGo.st (fun _ kk => XS.aload X58.here hx rfl (hb hby at_34) rfl rfl  kk) ?_
      show OwnGo p e below s _ _ _ T58 (mkF m 36 #[.val (.long p1), .second, .val (.long p2), .second, .val (.long p3), .second, .val (.ref b54), .val (.int (1 : Int32)), .val (.int (0 : Int32)), .val (.int (0 : Int32)), .unset, .unset, .unset, .unset, .unset, .unset, .unset, .unset, .unset, .unset, .unset, .unset, .unset] [(.ref b54)])
      refine OwnGo.st (fun _ kk => XS.lloadN X58.here hx rfl (hb hby at_36) rfl  kk) ?_
      show OwnGo p e below s _ _ _ T58 (mkF m 37 #[.val (.long p1), .second, .val (.long p2), .second, .val (.long p3), .second, .val (.ref b54), .val (.int (1 : Int32)), .val (.int (0 : Int32)), .val (.int (0 : Int32)), .unset, .unset, .unset, .unset, .unset, .unset, .unset, .unset, .unset, .unset, .unset, .unset, .unset] [(.long p1), (.ref b54)])
      obtain ⟨cq59, kq59, q59a, q59b, q59c⟩ := isOf hZ e58 E_b54
      obtain ⟨_, _, ⟨T59, L59, k59, n59⟩, -, X59, ⟨Lc59, hQ59, l59, y59, z59⟩, st59⟩ := X58.virtualBack hx (y := (⟨"com/example/utsatt/utsatt/KeyHashes", "add", "(J)Z"⟩ : MethodName)) (z := (⟨"com/example/utsatt/utsatt/KeyHashes", "add", "(J)Z"⟩ : MethodName)) hown (mvT hZ (hw _ (List.mem_of_getElem? (i := 12) rfl))) (mvT hZ (hw _ (List.mem_of_getElem? (i := 13) rfl))) (notFace_of_selects (args := #[]) (mvT hZ (hw _ (List.mem_of_getElem? (i := 15) rfl)))) (mvT hZ (hw _ (List.mem_of_getElem? (i := 15) rfl))) (mvT hZ (hw _ (List.mem_of_getElem? (i := 14) rfl))) (by decide) (backOf (W := 0) (rmaddO l Z a0 hw [] b54 t55 kc55 w56 p1 T56.heap n0 Z_ E_b54 Fs56 V56 hl56 (Nat.lt_of_lt_of_le (by decide) ze_56) in_p1_56) hZ (hw _ (List.mem_of_getElem? (i := 16) rfl)) (hw _ (List.mem_of_getElem? (i := 2) rfl)) (by decide) (by decide)) q59a q59c (g := (mkF m 37 #[.val (.long p1), .second, .val (.long p2), .second, .val (.long p3), .second, .val (.ref b54), .val (.int (1 : Int32)), .val (.int (0 : Int32)), .val (.int (0 : Int32)), .unset, .unset, .unset, .unset, .unset, .unset, .unset, .unset, .unset, .unset, .unset, .unset, .unset] [(.long p1), (.ref b54)])) rfl (by rw [hml]; rfl) (Steps.refl _) (argsL := [(.long p1)]) (rest := []) (lenOf pd_5 rfl) rfl (by show 2 * 0 + _ ≤ _; exact Nat.le_of_eq rfl) (hb hby at_37) (fun _ _ => ⟨rfl, e58, (by decide : 2 + 0 ≤ _), (by decide : 18 + 0 ≤ _)⟩)
      dsimp only [Pt.U, Pt.locs, Pt.cells, Pt.slots] at X59 l59 y59 z59 st59 hQ59
      subst l59 y59 z59
      obtain ⟨rfl, N59q, e59⟩ := hQ59
      have N59 := Fr.app N58 N59q
      refine OwnGo.st (fun _ kk => st59.trans kk) ?_
      show OwnGo p e below s _ _ _ T59 (mkF m 40 #[.val (.long p1), .second, .val (.long p2), .second, .val (.long p3), .second, .val (.ref b54), .val (.int (1 : Int32)), .val (.int (0 : Int32)), .val (.int (0 : Int32)), .unset, .unset, .unset, .unset, .unset, .unset, .unset, .unset, .unset, .unset, .unset, .unset, .unset] [(.int (0 : Int32))])
      refine OwnGo.st (fun _ kk => XS.istore X59.here hx rfl (hb hby at_40) rfl (l' := #[.val (.long p1), .second, .val (.long p2), .second, .val (.long p3), .second, .val (.ref b54), .val (.int (1 : Int32)), .val (.int (0 : Int32)), .val (.int (0 : Int32)), .val (.int (0 : Int32)), .unset, .unset, .unset, .unset, .unset, .unset, .unset, .unset, .unset, .unset, .unset, .unset]) rfl kk) ?_
      show OwnGo p e below s _ _ _ T59 (mkF m 42 #[.val (.long p1), .second, .val (.long p2), .second, .val (.long p3), .second, .val (.ref b54), .val (.int (1 : Int32)), .val (.int (0 : Int32)), .val (.int (0 : Int32)), .val (.int (0 : Int32)), .unset, .unset, .unset, .unset, .unset, .unset, .unset, .unset, .unset, .unset, .unset, .unset] [])
      refine OwnGo.st (fun _ kk => XS.aload X59.here hx rfl (hb hby at_42) rfl rfl  kk) ?_
      show OwnGo p e below s _ _ _ T59 (mkF m 44 #[.val (.long p1), .second, .val (.long p2), .second, .val (.long p3), .second, .val (.ref b54), .val (.int (1 : Int32)), .val (.int (0 : Int32)), .val (.int (0 : Int32)), .val (.int (0 : Int32)), .unset, .unset, .unset, .unset, .unset, .unset, .unset, .unset, .unset, .unset, .unset, .unset] [(.ref b54)])
      refine OwnGo.st (fun _ kk => XS.lloadN X59.here hx rfl (hb hby at_44) rfl  kk) ?_
      show OwnGo p e below s _ _ _ T59 (mkF m 45 #[.val (.long p1), .second, .val (.long p2), .second, .val (.long p3), .second, .val (.ref b54), .val (.int (1 : Int32)), .val (.int (0 : Int32)), .val (.int (0 : Int32)), .val (.int (0 : Int32)), .unset, .unset, .unset, .unset, .unset, .unset, .unset, .unset, .unset, .unset, .unset, .unset] [(.long p2), (.ref b54)])
      have in_p2 : own_in w56 (own_st p2) := hba.symm ▸ in_p1_56
      obtain ⟨cq60, kq60, q60a, q60b, q60c⟩ := isOf hZ e59 E_b54
      obtain ⟨_, _, ⟨T60, L60, k60, n60⟩, -, X60, ⟨Lc60, hQ60, l60, y60, z60⟩, st60⟩ := X59.virtualBack hx (y := (⟨"com/example/utsatt/utsatt/KeyHashes", "add", "(J)Z"⟩ : MethodName)) (z := (⟨"com/example/utsatt/utsatt/KeyHashes", "add", "(J)Z"⟩ : MethodName)) hown (mvT hZ (hw _ (List.mem_of_getElem? (i := 12) rfl))) (mvT hZ (hw _ (List.mem_of_getElem? (i := 13) rfl))) (notFace_of_selects (args := #[]) (mvT hZ (hw _ (List.mem_of_getElem? (i := 15) rfl)))) (mvT hZ (hw _ (List.mem_of_getElem? (i := 15) rfl))) (mvT hZ (hw _ (List.mem_of_getElem? (i := 14) rfl))) (by decide) (backOf (W := 0) (rmaddO l Z a0 hw [] b54 t55 kc55 w56 p2 T56.heap n0 Z_ E_b54 Fs56 V56 hl56 (Nat.lt_of_lt_of_le (by decide) ze_56) in_p2) hZ (hw _ (List.mem_of_getElem? (i := 16) rfl)) (hw _ (List.mem_of_getElem? (i := 2) rfl)) (by decide) (by decide)) q60a q60c (g := (mkF m 45 #[.val (.long p1), .second, .val (.long p2), .second, .val (.long p3), .second, .val (.ref b54), .val (.int (1 : Int32)), .val (.int (0 : Int32)), .val (.int (0 : Int32)), .val (.int (0 : Int32)), .unset, .unset, .unset, .unset, .unset, .unset, .unset, .unset, .unset, .unset, .unset, .unset] [(.long p2), (.ref b54)])) rfl (by rw [hml]; rfl) (Steps.refl _) (argsL := [(.long p2)]) (rest := []) (lenOf pd_5 rfl) rfl (by show 2 * 0 + _ ≤ _; exact Nat.le_of_eq rfl) (hb hby at_45) (fun _ _ => ⟨rfl, e59, (by decide : 2 + 0 ≤ _), (by decide : 18 + 0 ≤ _)⟩)
      dsimp only [Pt.U, Pt.locs, Pt.cells, Pt.slots] at X60 l60 y60 z60 st60 hQ60
      subst l60 y60 z60
      obtain ⟨rfl, N60q, e60⟩ := hQ60
      have N60 := Fr.app N59 N60q
      refine OwnGo.st (fun _ kk => st60.trans kk) ?_
      show OwnGo p e below s _ _ _ T60 (mkF m 48 #[.val (.long p1), .second, .val (.long p2), .second, .val (.long p3), .second, .val (.ref b54), .val (.int (1 : Int32)), .val (.int (0 : Int32)), .val (.int (0 : Int32)), .val (.int (0 : Int32)), .unset, .unset, .unset, .unset, .unset, .unset, .unset, .unset, .unset, .unset, .unset, .unset] [(.int (0 : Int32))])
      refine OwnGo.st (fun _ kk => XS.istore X60.here hx rfl (hb hby at_48) rfl (l' := #[.val (.long p1), .second, .val (.long p2), .second, .val (.long p3), .second, .val (.ref b54), .val (.int (1 : Int32)), .val (.int (0 : Int32)), .val (.int (0 : Int32)), .val (.int (0 : Int32)), .val (.int (0 : Int32)), .unset, .unset, .unset, .unset, .unset, .unset, .unset, .unset, .unset, .unset, .unset]) rfl kk) ?_
      show OwnGo p e below s _ _ _ T60 (mkF m 50 #[.val (.long p1), .second, .val (.long p2), .second, .val (.long p3), .second, .val (.ref b54), .val (.int (1 : Int32)), .val (.int (0 : Int32)), .val (.int (0 : Int32)), .val (.int (0 : Int32)), .val (.int (0 : Int32)), .unset, .unset, .unset, .unset, .unset, .unset, .unset, .unset, .unset, .unset, .unset] [])
      refine OwnGo.st (fun _ kk => XS.aload X60.here hx rfl (hb hby at_50) rfl rfl  kk) ?_
      show OwnGo p e below s _ _ _ T60 (mkF m 52 #[.val (.long p1), .second, .val (.long p2), .second, .val (.long p3), .second, .val (.ref b54), .val (.int (1 : Int32)), .val (.int (0 : Int32)), .val (.int (0 : Int32)), .val (.int (0 : Int32)), .val (.int (0 : Int32)), .unset, .unset, .unset, .unset, .unset, .unset, .unset, .unset, .unset, .unset, .unset] [(.ref b54)])
      refine OwnGo.st (fun _ kk => XS.lload X60.here hx rfl (hb hby at_52) rfl  kk) ?_
      show OwnGo p e below s _ _ _ T60 (mkF m 54 #[.val (.long p1), .second, .val (.long p2), .second, .val (.long p3), .second, .val (.ref b54), .val (.int (1 : Int32)), .val (.int (0 : Int32)), .val (.int (0 : Int32)), .val (.int (0 : Int32)), .val (.int (0 : Int32)), .unset, .unset, .unset, .unset, .unset, .unset, .unset, .unset, .unset, .unset, .unset] [(.long p3), (.ref b54)])
      obtain ⟨cq61, kq61, q61a, q61b, q61c⟩ := isOf hZ e60 E_b54
      obtain ⟨_, _, ⟨T61, L61, k61, n61⟩, -, X61, ⟨Lc61, hQ61, l61, y61, z61⟩, st61⟩ := X60.virtualBack hx (y := (⟨"com/example/utsatt/utsatt/KeyHashes", "add", "(J)Z"⟩ : MethodName)) (z := (⟨"com/example/utsatt/utsatt/KeyHashes", "add", "(J)Z"⟩ : MethodName)) hown (mvT hZ (hw _ (List.mem_of_getElem? (i := 12) rfl))) (mvT hZ (hw _ (List.mem_of_getElem? (i := 13) rfl))) (notFace_of_selects (args := #[]) (mvT hZ (hw _ (List.mem_of_getElem? (i := 15) rfl)))) (mvT hZ (hw _ (List.mem_of_getElem? (i := 15) rfl))) (mvT hZ (hw _ (List.mem_of_getElem? (i := 14) rfl))) (by decide) (backOf (W := 0) (rmaddO l Z a0 hw [] b54 t55 kc55 w56 p3 T56.heap n0 Z_ E_b54 Fs56 V56 hl56 (Nat.lt_of_lt_of_le (by decide) ze_56) in_p3) hZ (hw _ (List.mem_of_getElem? (i := 16) rfl)) (hw _ (List.mem_of_getElem? (i := 2) rfl)) (by decide) (by decide)) q61a q61c (g := (mkF m 54 #[.val (.long p1), .second, .val (.long p2), .second, .val (.long p3), .second, .val (.ref b54), .val (.int (1 : Int32)), .val (.int (0 : Int32)), .val (.int (0 : Int32)), .val (.int (0 : Int32)), .val (.int (0 : Int32)), .unset, .unset, .unset, .unset, .unset, .unset, .unset, .unset, .unset, .unset, .unset] [(.long p3), (.ref b54)])) rfl (by rw [hml]; rfl) (Steps.refl _) (argsL := [(.long p3)]) (rest := []) (lenOf pd_5 rfl) rfl (by show 2 * 0 + _ ≤ _; exact Nat.le_of_eq rfl) (hb hby at_54) (fun _ _ => ⟨rfl, e60, (by decide : 2 + 0 ≤ _), (by decide : 18 + 0 ≤ _)⟩)
      dsimp only [Pt.U, Pt.locs, Pt.cells, Pt.slots] at X61 l61 y61 z61 st61 hQ61
      subst l61 y61 z61
      obtain ⟨rfl, N61q, e61⟩ := hQ61
      have N61 := Fr.app N60 N61q
      refine OwnGo.st (fun _ kk => st61.trans kk) ?_
      show OwnGo p e below s _ _ _ T61 (mkF m 57 #[.val (.long p1), .second, .val (.long p2), .second, .val (.long p3), .second, .val (.ref b54), .val (.int (1 : Int32)), .val (.int (0 : Int32)), .val (.int (0 : Int32)), .val (.int (0 : Int32)), .val (.int (0 : Int32)), .unset, .unset, .unset, .unset, .unset, .unset, .unset, .unset, .unset, .unset, .unset] [(.int (0 : Int32))])
      refine OwnGo.st (fun _ kk => XS.istore X61.here hx rfl (hb hby at_57) rfl (l' := #[.val (.long p1), .second, .val (.long p2), .second, .val (.long p3), .second, .val (.ref b54), .val (.int (1 : Int32)), .val (.int (0 : Int32)), .val (.int (0 : Int32)), .val (.int (0 : Int32)), .val (.int (0 : Int32)), .val (.int (0 : Int32)), .unset, .unset, .unset, .unset, .unset, .unset, .unset, .unset, .unset, .unset]) rfl kk) ?_
      show OwnGo p e below s _ _ _ T61 (mkF m 59 #[.val (.long p1), .second, .val (.long p2), .second, .val (.long p3), .second, .val (.ref b54), .val (.int (1 : Int32)), .val (.int (0 : Int32)), .val (.int (0 : Int32)), .val (.int (0 : Int32)), .val (.int (0 : Int32)), .val (.int (0 : Int32)), .unset, .unset, .unset, .unset, .unset, .unset, .unset, .unset, .unset, .unset] [])
      refine OwnGo.st (fun _ kk => XS.aload X61.here hx rfl (hb hby at_59) rfl rfl  kk) ?_
      show OwnGo p e below s _ _ _ T61 (mkF m 61 #[.val (.long p1), .second, .val (.long p2), .second, .val (.long p3), .second, .val (.ref b54), .val (.int (1 : Int32)), .val (.int (0 : Int32)), .val (.int (0 : Int32)), .val (.int (0 : Int32)), .val (.int (0 : Int32)), .val (.int (0 : Int32)), .unset, .unset, .unset, .unset, .unset, .unset, .unset, .unset, .unset, .unset] [(.ref b54)])
      obtain ⟨cq62, kq62, q62a, q62b, q62c⟩ := isOf hZ e61 E_b54
      obtain ⟨_, _, ⟨T62, L62, k62, n62⟩, -, X62, ⟨Lc62, hQ62, l62, y62, z62⟩, st62⟩ := X61.virtualBack hx (y := (⟨"com/example/utsatt/utsatt/KeyHashes", "size", "()I"⟩ : MethodName)) (z := (⟨"com/example/utsatt/utsatt/KeyHashes", "size", "()I"⟩ : MethodName)) hown (mvT hZ (hw _ (List.mem_of_getElem? (i := 34) rfl))) (mvT hZ (hw _ (List.mem_of_getElem? (i := 35) rfl))) (notFace_of_selects (args := #[]) (mvT hZ (hw _ (List.mem_of_getElem? (i := 37) rfl)))) (mvT hZ (hw _ (List.mem_of_getElem? (i := 37) rfl))) (mvT hZ (hw _ (List.mem_of_getElem? (i := 36) rfl))) (by decide) (backOf (W := 0) (rmsiz l Z a0 hw [] b54 (1 : Int32) T56.heap n0 Z_ Fz56) hZ (hw _ (List.mem_of_getElem? (i := 38) rfl)) (hw _ (List.mem_of_getElem? (i := 2) rfl)) (by decide) (by decide)) q62a q62c (g := (mkF m 61 #[.val (.long p1), .second, .val (.long p2), .second, .val (.long p3), .second, .val (.ref b54), .val (.int (1 : Int32)), .val (.int (0 : Int32)), .val (.int (0 : Int32)), .val (.int (0 : Int32)), .val (.int (0 : Int32)), .val (.int (0 : Int32)), .unset, .unset, .unset, .unset, .unset, .unset, .unset, .unset, .unset, .unset] [(.ref b54)])) rfl (by rw [hml]; rfl) (Steps.refl _) (argsL := []) (rest := []) (lenOf pd_6 rfl) rfl (by show 2 * 0 + _ ≤ _; exact Nat.le_of_eq rfl) (hb hby at_61) (fun _ _ => ⟨rfl, e61, (by decide : 2 + 0 ≤ _), (by decide : 18 + 0 ≤ _)⟩)
      dsimp only [Pt.U, Pt.locs, Pt.cells, Pt.slots] at X62 l62 y62 z62 st62 hQ62
      subst l62 y62 z62
      obtain ⟨rfl, N62q, e62⟩ := hQ62
      have N62 := Fr.app N61 N62q
      refine OwnGo.st (fun _ kk => st62.trans kk) ?_
      show OwnGo p e below s _ _ _ T62 (mkF m 64 #[.val (.long p1), .second, .val (.long p2), .second, .val (.long p3), .second, .val (.ref b54), .val (.int (1 : Int32)), .val (.int (0 : Int32)), .val (.int (0 : Int32)), .val (.int (0 : Int32)), .val (.int (0 : Int32)), .val (.int (0 : Int32)), .unset, .unset, .unset, .unset, .unset, .unset, .unset, .unset, .unset, .unset] [(.int (1 : Int32))])
      refine OwnGo.st (fun _ kk => XS.istore X62.here hx rfl (hb hby at_64) rfl (l' := #[.val (.long p1), .second, .val (.long p2), .second, .val (.long p3), .second, .val (.ref b54), .val (.int (1 : Int32)), .val (.int (0 : Int32)), .val (.int (0 : Int32)), .val (.int (0 : Int32)), .val (.int (0 : Int32)), .val (.int (0 : Int32)), .val (.int (1 : Int32)), .unset, .unset, .unset, .unset, .unset, .unset, .unset, .unset, .unset]) rfl kk) ?_
      show OwnGo p e below s _ _ _ T62 (mkF m 66 #[.val (.long p1), .second, .val (.long p2), .second, .val (.long p3), .second, .val (.ref b54), .val (.int (1 : Int32)), .val (.int (0 : Int32)), .val (.int (0 : Int32)), .val (.int (0 : Int32)), .val (.int (0 : Int32)), .val (.int (0 : Int32)), .val (.int (1 : Int32)), .unset, .unset, .unset, .unset, .unset, .unset, .unset, .unset, .unset] [])
      refine OwnGo.st (fun _ kk => XS.lloadN X62.here hx rfl (hb hby at_66) rfl  kk) ?_
      show OwnGo p e below s _ _ _ T62 (mkF m 67 #[.val (.long p1), .second, .val (.long p2), .second, .val (.long p3), .second, .val (.ref b54), .val (.int (1 : Int32)), .val (.int (0 : Int32)), .val (.int (0 : Int32)), .val (.int (0 : Int32)), .val (.int (0 : Int32)), .val (.int (0 : Int32)), .val (.int (1 : Int32)), .unset, .unset, .unset, .unset, .unset, .unset, .unset, .unset, .unset] [(.long p1)])
      obtain ⟨_, _, ⟨T63, L63, k63, n63⟩, -, X63, ⟨Lc63, hQ63, l63, y63, z63⟩, st63⟩ := Jvm.LawKit.callS X62 hx (y := (⟨"com/example/utsatt/utsatt/KeyHashesAddPinLaw", "norm", "(J)J"⟩ : MethodName)) hown (mvT hZ (hw _ (List.mem_of_getElem? (i := 39) rfl))) (mvT hZ (hw _ (List.mem_of_getElem? (i := 40) rfl))) (mvT hZ (hw _ (List.mem_of_getElem? (i := 41) rfl))) (mvT hZ (hw _ (List.mem_of_getElem? (i := 42) rfl))) (by decide) (backOf (W := 0) (rmnrm l Z a0 hw [] p1 T56.heap n0 Z_ ) hZ (hw _ (List.mem_of_getElem? (i := 42) rfl)) (hw _ (List.mem_of_getElem? (i := 41) rfl)) (by decide) (by decide)) (g := (mkF m 67 #[.val (.long p1), .second, .val (.long p2), .second, .val (.long p3), .second, .val (.ref b54), .val (.int (1 : Int32)), .val (.int (0 : Int32)), .val (.int (0 : Int32)), .val (.int (0 : Int32)), .val (.int (0 : Int32)), .val (.int (0 : Int32)), .val (.int (1 : Int32)), .unset, .unset, .unset, .unset, .unset, .unset, .unset, .unset, .unset] [(.long p1)])) rfl (by rw [hml]; rfl) (argsL := [(.long p1)]) (rest := []) (lenOf pd_2 rfl) rfl (by show 2 * 0 + _ ≤ _; exact Nat.le_of_eq rfl) (hb hby at_67) (fun _ _ => ⟨rfl, e62, (by decide : 2 + 0 ≤ _), (by decide : 18 + 0 ≤ _)⟩)
      dsimp only [Pt.U, Pt.locs, Pt.cells, Pt.slots] at X63 l63 y63 z63 st63 hQ63
      subst l63 y63 z63
      obtain ⟨rfl, N63q, e63⟩ := hQ63
      have N63 := Fr.app N62 N63q
      refine OwnGo.st st63 ?_
      show OwnGo p e below s _ _ _ T63 (mkF m 70 #[.val (.long p1), .second, .val (.long p2), .second, .val (.long p3), .second, .val (.ref b54), .val (.int (1 : Int32)), .val (.int (0 : Int32)), .val (.int (0 : Int32)), .val (.int (0 : Int32)), .val (.int (0 : Int32)), .val (.int (0 : Int32)), .val (.int (1 : Int32)), .unset, .unset, .unset, .unset, .unset, .unset, .unset, .unset, .unset] [(.long (own_st p1))])
      refine OwnGo.st (fun _ kk => XS.lstore X63.here hx rfl (hb hby at_70) rfl (l' := #[.val (.long p1), .second, .val (.long p2), .second, .val (.long p3), .second, .val (.ref b54), .val (.int (1 : Int32)), .val (.int (0 : Int32)), .val (.int (0 : Int32)), .val (.int (0 : Int32)), .val (.int (0 : Int32)), .val (.int (0 : Int32)), .val (.int (1 : Int32)), .val (.long (own_st p1)), .second, .unset, .unset, .unset, .unset, .unset, .unset, .unset]) rfl kk) ?_
      show OwnGo p e below s _ _ _ T63 (mkF m 72 #[.val (.long p1), .second, .val (.long p2), .second, .val (.long p3), .second, .val (.ref b54), .val (.int (1 : Int32)), .val (.int (0 : Int32)), .val (.int (0 : Int32)), .val (.int (0 : Int32)), .val (.int (0 : Int32)), .val (.int (0 : Int32)), .val (.int (1 : Int32)), .val (.long (own_st p1)), .second, .unset, .unset, .unset, .unset, .unset, .unset, .unset] [])
      refine OwnGo.st (fun _ kk => XS.lloadN X63.here hx rfl (hb hby at_72) rfl  kk) ?_
      show OwnGo p e below s _ _ _ T63 (mkF m 73 #[.val (.long p1), .second, .val (.long p2), .second, .val (.long p3), .second, .val (.ref b54), .val (.int (1 : Int32)), .val (.int (0 : Int32)), .val (.int (0 : Int32)), .val (.int (0 : Int32)), .val (.int (0 : Int32)), .val (.int (0 : Int32)), .val (.int (1 : Int32)), .val (.long (own_st p1)), .second, .unset, .unset, .unset, .unset, .unset, .unset, .unset] [(.long p2)])
      obtain ⟨_, _, ⟨T64, L64, k64, n64⟩, -, X64, ⟨Lc64, hQ64, l64, y64, z64⟩, st64⟩ := Jvm.LawKit.callS X63 hx (y := (⟨"com/example/utsatt/utsatt/KeyHashesAddPinLaw", "norm", "(J)J"⟩ : MethodName)) hown (mvT hZ (hw _ (List.mem_of_getElem? (i := 39) rfl))) (mvT hZ (hw _ (List.mem_of_getElem? (i := 40) rfl))) (mvT hZ (hw _ (List.mem_of_getElem? (i := 41) rfl))) (mvT hZ (hw _ (List.mem_of_getElem? (i := 42) rfl))) (by decide) (backOf (W := 0) (rmnrm l Z a0 hw [] p2 T56.heap n0 Z_ ) hZ (hw _ (List.mem_of_getElem? (i := 42) rfl)) (hw _ (List.mem_of_getElem? (i := 41) rfl)) (by decide) (by decide)) (g := (mkF m 73 #[.val (.long p1), .second, .val (.long p2), .second, .val (.long p3), .second, .val (.ref b54), .val (.int (1 : Int32)), .val (.int (0 : Int32)), .val (.int (0 : Int32)), .val (.int (0 : Int32)), .val (.int (0 : Int32)), .val (.int (0 : Int32)), .val (.int (1 : Int32)), .val (.long (own_st p1)), .second, .unset, .unset, .unset, .unset, .unset, .unset, .unset] [(.long p2)])) rfl (by rw [hml]; rfl) (argsL := [(.long p2)]) (rest := []) (lenOf pd_2 rfl) rfl (by show 2 * 0 + _ ≤ _; exact Nat.le_of_eq rfl) (hb hby at_73) (fun _ _ => ⟨rfl, e63, (by decide : 2 + 0 ≤ _), (by decide : 18 + 0 ≤ _)⟩)
      dsimp only [Pt.U, Pt.locs, Pt.cells, Pt.slots] at X64 l64 y64 z64 st64 hQ64
      subst l64 y64 z64
      obtain ⟨rfl, N64q, e64⟩ := hQ64
      have N64 := Fr.app N63 N64q
      refine OwnGo.st st64 ?_
      show OwnGo p e below s _ _ _ T64 (mkF m 76 #[.val (.long p1), .second, .val (.long p2), .second, .val (.long p3), .second, .val (.ref b54), .val (.int (1 : Int32)), .val (.int (0 : Int32)), .val (.int (0 : Int32)), .val (.int (0 : Int32)), .val (.int (0 : Int32)), .val (.int (0 : Int32)), .val (.int (1 : Int32)), .val (.long (own_st p1)), .second, .unset, .unset, .unset, .unset, .unset, .unset, .unset] [(.long (own_st p2))])
      refine OwnGo.st (fun _ kk => XS.lstore X64.here hx rfl (hb hby at_76) rfl (l' := #[.val (.long p1), .second, .val (.long p2), .second, .val (.long p3), .second, .val (.ref b54), .val (.int (1 : Int32)), .val (.int (0 : Int32)), .val (.int (0 : Int32)), .val (.int (0 : Int32)), .val (.int (0 : Int32)), .val (.int (0 : Int32)), .val (.int (1 : Int32)), .val (.long (own_st p1)), .second, .val (.long (own_st p2)), .second, .unset, .unset, .unset, .unset, .unset]) rfl kk) ?_
      show OwnGo p e below s _ _ _ T64 (mkF m 78 #[.val (.long p1), .second, .val (.long p2), .second, .val (.long p3), .second, .val (.ref b54), .val (.int (1 : Int32)), .val (.int (0 : Int32)), .val (.int (0 : Int32)), .val (.int (0 : Int32)), .val (.int (0 : Int32)), .val (.int (0 : Int32)), .val (.int (1 : Int32)), .val (.long (own_st p1)), .second, .val (.long (own_st p2)), .second, .unset, .unset, .unset, .unset, .unset] [])
      refine OwnGo.st (fun _ kk => XS.lload X64.here hx rfl (hb hby at_78) rfl  kk) ?_
      show OwnGo p e below s _ _ _ T64 (mkF m 80 #[.val (.long p1), .second, .val (.long p2), .second, .val (.long p3), .second, .val (.ref b54), .val (.int (1 : Int32)), .val (.int (0 : Int32)), .val (.int (0 : Int32)), .val (.int (0 : Int32)), .val (.int (0 : Int32)), .val (.int (0 : Int32)), .val (.int (1 : Int32)), .val (.long (own_st p1)), .second, .val (.long (own_st p2)), .second, .unset, .unset, .unset, .unset, .unset] [(.long p3)])
      obtain ⟨_, _, ⟨T65, L65, k65, n65⟩, -, X65, ⟨Lc65, hQ65, l65, y65, z65⟩, st65⟩ := Jvm.LawKit.callS X64 hx (y := (⟨"com/example/utsatt/utsatt/KeyHashesAddPinLaw", "norm", "(J)J"⟩ : MethodName)) hown (mvT hZ (hw _ (List.mem_of_getElem? (i := 39) rfl))) (mvT hZ (hw _ (List.mem_of_getElem? (i := 40) rfl))) (mvT hZ (hw _ (List.mem_of_getElem? (i := 41) rfl))) (mvT hZ (hw _ (List.mem_of_getElem? (i := 42) rfl))) (by decide) (backOf (W := 0) (rmnrm l Z a0 hw [] p3 T56.heap n0 Z_ ) hZ (hw _ (List.mem_of_getElem? (i := 42) rfl)) (hw _ (List.mem_of_getElem? (i := 41) rfl)) (by decide) (by decide)) (g := (mkF m 80 #[.val (.long p1), .second, .val (.long p2), .second, .val (.long p3), .second, .val (.ref b54), .val (.int (1 : Int32)), .val (.int (0 : Int32)), .val (.int (0 : Int32)), .val (.int (0 : Int32)), .val (.int (0 : Int32)), .val (.int (0 : Int32)), .val (.int (1 : Int32)), .val (.long (own_st p1)), .second, .val (.long (own_st p2)), .second, .unset, .unset, .unset, .unset, .unset] [(.long p3)])) rfl (by rw [hml]; rfl) (argsL := [(.long p3)]) (rest := []) (lenOf pd_2 rfl) rfl (by show 2 * 0 + _ ≤ _; exact Nat.le_of_eq rfl) (hb hby at_80) (fun _ _ => ⟨rfl, e64, (by decide : 2 + 0 ≤ _), (by decide : 18 + 0 ≤ _)⟩)
      dsimp only [Pt.U, Pt.locs, Pt.cells, Pt.slots] at X65 l65 y65 z65 st65 hQ65
      subst l65 y65 z65
      obtain ⟨rfl, N65q, e65⟩ := hQ65
      have N65 := Fr.app N64 N65q
      refine OwnGo.st st65 ?_
      show OwnGo p e below s _ _ _ T65 (mkF m 83 #[.val (.long p1), .second, .val (.long p2), .second, .val (.long p3), .second, .val (.ref b54), .val (.int (1 : Int32)), .val (.int (0 : Int32)), .val (.int (0 : Int32)), .val (.int (0 : Int32)), .val (.int (0 : Int32)), .val (.int (0 : Int32)), .val (.int (1 : Int32)), .val (.long (own_st p1)), .second, .val (.long (own_st p2)), .second, .unset, .unset, .unset, .unset, .unset] [(.long (own_st p3))])
      refine OwnGo.st (fun _ kk => XS.lstore X65.here hx rfl (hb hby at_83) rfl (l' := #[.val (.long p1), .second, .val (.long p2), .second, .val (.long p3), .second, .val (.ref b54), .val (.int (1 : Int32)), .val (.int (0 : Int32)), .val (.int (0 : Int32)), .val (.int (0 : Int32)), .val (.int (0 : Int32)), .val (.int (0 : Int32)), .val (.int (1 : Int32)), .val (.long (own_st p1)), .second, .val (.long (own_st p2)), .second, .val (.long (own_st p3)), .second, .unset, .unset, .unset]) rfl kk) ?_
      show OwnGo p e below s _ _ _ T65 (mkF m 85 #[.val (.long p1), .second, .val (.long p2), .second, .val (.long p3), .second, .val (.ref b54), .val (.int (1 : Int32)), .val (.int (0 : Int32)), .val (.int (0 : Int32)), .val (.int (0 : Int32)), .val (.int (0 : Int32)), .val (.int (0 : Int32)), .val (.int (1 : Int32)), .val (.long (own_st p1)), .second, .val (.long (own_st p2)), .second, .val (.long (own_st p3)), .second, .unset, .unset, .unset] [])
      refine OwnGo.st (fun _ kk => XS.lload X65.here hx rfl (hb hby at_85) rfl  kk) ?_
      show OwnGo p e below s _ _ _ T65 (mkF m 87 #[.val (.long p1), .second, .val (.long p2), .second, .val (.long p3), .second, .val (.ref b54), .val (.int (1 : Int32)), .val (.int (0 : Int32)), .val (.int (0 : Int32)), .val (.int (0 : Int32)), .val (.int (0 : Int32)), .val (.int (0 : Int32)), .val (.int (1 : Int32)), .val (.long (own_st p1)), .second, .val (.long (own_st p2)), .second, .val (.long (own_st p3)), .second, .unset, .unset, .unset] [(.long (own_st p2))])
      refine OwnGo.st (fun _ kk => XS.lload X65.here hx rfl (hb hby at_87) rfl  kk) ?_
      show OwnGo p e below s _ _ _ T65 (mkF m 89 #[.val (.long p1), .second, .val (.long p2), .second, .val (.long p3), .second, .val (.ref b54), .val (.int (1 : Int32)), .val (.int (0 : Int32)), .val (.int (0 : Int32)), .val (.int (0 : Int32)), .val (.int (0 : Int32)), .val (.int (0 : Int32)), .val (.int (1 : Int32)), .val (.long (own_st p1)), .second, .val (.long (own_st p2)), .second, .val (.long (own_st p3)), .second, .unset, .unset, .unset] [(.long (own_st p1)), (.long (own_st p2))])
      refine OwnGo.st (fun _ kk => XS.lcmp X65.here hx rfl (hb hby at_89) rfl kk) ?_
      show OwnGo p e below s _ _ _ T65 (mkF m 90 #[.val (.long p1), .second, .val (.long p2), .second, .val (.long p3), .second, .val (.ref b54), .val (.int (1 : Int32)), .val (.int (0 : Int32)), .val (.int (0 : Int32)), .val (.int (0 : Int32)), .val (.int (0 : Int32)), .val (.int (0 : Int32)), .val (.int (1 : Int32)), .val (.long (own_st p1)), .second, .val (.long (own_st p2)), .second, .val (.long (own_st p3)), .second, .unset, .unset, .unset] [(.int (lcmpW (own_st p2) (own_st p1)))])
      refine OwnGo.st (fun _ kk => XS.ifYes X65.here hx rfl (pc0 := 90) (pc' := 97) rfl (hb hby at_90) rfl ((if0 _ _).trans (teq (((lw_eq _ _).2 hba) : (lcmpW (own_st p2) (own_st p1)) = (0 : Int32))).1) (by decide) (by decide) kk) ?_
      show OwnGo p e below s _ _ _ T65 (mkF m 97 #[.val (.long p1), .second, .val (.long p2), .second, .val (.long p3), .second, .val (.ref b54), .val (.int (1 : Int32)), .val (.int (0 : Int32)), .val (.int (0 : Int32)), .val (.int (0 : Int32)), .val (.int (0 : Int32)), .val (.int (0 : Int32)), .val (.int (1 : Int32)), .val (.long (own_st p1)), .second, .val (.long (own_st p2)), .second, .val (.long (own_st p3)), .second, .unset, .unset, .unset] [])
      refine OwnGo.st (fun _ kk => XS.iconst X65.here hx rfl (hb hby at_97) kk) ?_
      show OwnGo p e below s _ _ _ T65 (mkF m 98 #[.val (.long p1), .second, .val (.long p2), .second, .val (.long p3), .second, .val (.ref b54), .val (.int (1 : Int32)), .val (.int (0 : Int32)), .val (.int (0 : Int32)), .val (.int (0 : Int32)), .val (.int (0 : Int32)), .val (.int (0 : Int32)), .val (.int (1 : Int32)), .val (.long (own_st p1)), .second, .val (.long (own_st p2)), .second, .val (.long (own_st p3)), .second, .unset, .unset, .unset] [(.int (0 : Int32))])
      refine OwnGo.st (fun _ kk => XS.istore X65.here hx rfl (hb hby at_98) rfl (l' := #[.val (.long p1), .second, .val (.long p2), .second, .val (.long p3), .second, .val (.ref b54), .val (.int (1 : Int32)), .val (.int (0 : Int32)), .val (.int (0 : Int32)), .val (.int (0 : Int32)), .val (.int (0 : Int32)), .val (.int (0 : Int32)), .val (.int (1 : Int32)), .val (.long (own_st p1)), .second, .val (.long (own_st p2)), .second, .val (.long (own_st p3)), .second, .val (.int (0 : Int32)), .unset, .unset]) rfl kk) ?_
      show OwnGo p e below s _ _ _ T65 (mkF m 100 #[.val (.long p1), .second, .val (.long p2), .second, .val (.long p3), .second, .val (.ref b54), .val (.int (1 : Int32)), .val (.int (0 : Int32)), .val (.int (0 : Int32)), .val (.int (0 : Int32)), .val (.int (0 : Int32)), .val (.int (0 : Int32)), .val (.int (1 : Int32)), .val (.long (own_st p1)), .second, .val (.long (own_st p2)), .second, .val (.long (own_st p3)), .second, .val (.int (0 : Int32)), .unset, .unset] [])
      refine OwnGo.st (fun _ kk => XS.lload X65.here hx rfl (hb hby at_100) rfl  kk) ?_
      show OwnGo p e below s _ _ _ T65 (mkF m 102 #[.val (.long p1), .second, .val (.long p2), .second, .val (.long p3), .second, .val (.ref b54), .val (.int (1 : Int32)), .val (.int (0 : Int32)), .val (.int (0 : Int32)), .val (.int (0 : Int32)), .val (.int (0 : Int32)), .val (.int (0 : Int32)), .val (.int (1 : Int32)), .val (.long (own_st p1)), .second, .val (.long (own_st p2)), .second, .val (.long (own_st p3)), .second, .val (.int (0 : Int32)), .unset, .unset] [(.long (own_st p3))])
      refine OwnGo.st (fun _ kk => XS.lload X65.here hx rfl (hb hby at_102) rfl  kk) ?_
      show OwnGo p e below s _ _ _ T65 (mkF m 104 #[.val (.long p1), .second, .val (.long p2), .second, .val (.long p3), .second, .val (.ref b54), .val (.int (1 : Int32)), .val (.int (0 : Int32)), .val (.int (0 : Int32)), .val (.int (0 : Int32)), .val (.int (0 : Int32)), .val (.int (0 : Int32)), .val (.int (1 : Int32)), .val (.long (own_st p1)), .second, .val (.long (own_st p2)), .second, .val (.long (own_st p3)), .second, .val (.int (0 : Int32)), .unset, .unset] [(.long (own_st p1)), (.long (own_st p3))])
      refine OwnGo.st (fun _ kk => XS.lcmp X65.here hx rfl (hb hby at_104) rfl kk) ?_
      show OwnGo p e below s _ _ _ T65 (mkF m 105 #[.val (.long p1), .second, .val (.long p2), .second, .val (.long p3), .second, .val (.ref b54), .val (.int (1 : Int32)), .val (.int (0 : Int32)), .val (.int (0 : Int32)), .val (.int (0 : Int32)), .val (.int (0 : Int32)), .val (.int (0 : Int32)), .val (.int (1 : Int32)), .val (.long (own_st p1)), .second, .val (.long (own_st p2)), .second, .val (.long (own_st p3)), .second, .val (.int (0 : Int32)), .unset, .unset] [(.int (lcmpW (own_st p3) (own_st p1)))])
      by_cases hca : own_st p3 = own_st p1
      · refine OwnGo.st (fun _ kk => XS.ifYes X65.here hx rfl (pc0 := 105) (pc' := 120) rfl (hb hby at_105) rfl ((if0 _ _).trans (teq (((lw_eq _ _).2 hca) : (lcmpW (own_st p3) (own_st p1)) = (0 : Int32))).1) (by decide) (by decide) kk) ?_
        show OwnGo p e below s _ _ _ T65 (mkF m 120 #[.val (.long p1), .second, .val (.long p2), .second, .val (.long p3), .second, .val (.ref b54), .val (.int (1 : Int32)), .val (.int (0 : Int32)), .val (.int (0 : Int32)), .val (.int (0 : Int32)), .val (.int (0 : Int32)), .val (.int (0 : Int32)), .val (.int (1 : Int32)), .val (.long (own_st p1)), .second, .val (.long (own_st p2)), .second, .val (.long (own_st p3)), .second, .val (.int (0 : Int32)), .unset, .unset] [])
        refine OwnGo.st (fun _ kk => XS.iconst X65.here hx rfl (hb hby at_120) kk) ?_
        show OwnGo p e below s _ _ _ T65 (mkF m 121 #[.val (.long p1), .second, .val (.long p2), .second, .val (.long p3), .second, .val (.ref b54), .val (.int (1 : Int32)), .val (.int (0 : Int32)), .val (.int (0 : Int32)), .val (.int (0 : Int32)), .val (.int (0 : Int32)), .val (.int (0 : Int32)), .val (.int (1 : Int32)), .val (.long (own_st p1)), .second, .val (.long (own_st p2)), .second, .val (.long (own_st p3)), .second, .val (.int (0 : Int32)), .unset, .unset] [(.int (0 : Int32))])
        refine OwnGo.st (fun _ kk => XS.istore X65.here hx rfl (hb hby at_121) rfl (l' := #[.val (.long p1), .second, .val (.long p2), .second, .val (.long p3), .second, .val (.ref b54), .val (.int (1 : Int32)), .val (.int (0 : Int32)), .val (.int (0 : Int32)), .val (.int (0 : Int32)), .val (.int (0 : Int32)), .val (.int (0 : Int32)), .val (.int (1 : Int32)), .val (.long (own_st p1)), .second, .val (.long (own_st p2)), .second, .val (.long (own_st p3)), .second, .val (.int (0 : Int32)), .val (.int (0 : Int32)), .unset]) rfl kk) ?_
        show OwnGo p e below s _ _ _ T65 (mkF m 123 #[.val (.long p1), .second, .val (.long p2), .second, .val (.long p3), .second, .val (.ref b54), .val (.int (1 : Int32)), .val (.int (0 : Int32)), .val (.int (0 : Int32)), .val (.int (0 : Int32)), .val (.int (0 : Int32)), .val (.int (0 : Int32)), .val (.int (1 : Int32)), .val (.long (own_st p1)), .second, .val (.long (own_st p2)), .second, .val (.long (own_st p3)), .second, .val (.int (0 : Int32)), .val (.int (0 : Int32)), .unset] [])
        refine OwnGo.st (fun _ kk => XS.iconst X65.here hx rfl (hb hby at_123) kk) ?_
        show OwnGo p e below s _ _ _ T65 (mkF m 124 #[.val (.long p1), .second, .val (.long p2), .second, .val (.long p3), .second, .val (.ref b54), .val (.int (1 : Int32)), .val (.int (0 : Int32)), .val (.int (0 : Int32)), .val (.int (0 : Int32)), .val (.int (0 : Int32)), .val (.int (0 : Int32)), .val (.int (1 : Int32)), .val (.long (own_st p1)), .second, .val (.long (own_st p2)), .second, .val (.long (own_st p3)), .second, .val (.int (0 : Int32)), .val (.int (0 : Int32)), .unset] [(.int (1 : Int32))])
        refine OwnGo.st (fun _ kk => XS.iload X65.here hx rfl (hb hby at_124) rfl  kk) ?_
        show OwnGo p e below s _ _ _ T65 (mkF m 126 #[.val (.long p1), .second, .val (.long p2), .second, .val (.long p3), .second, .val (.ref b54), .val (.int (1 : Int32)), .val (.int (0 : Int32)), .val (.int (0 : Int32)), .val (.int (0 : Int32)), .val (.int (0 : Int32)), .val (.int (0 : Int32)), .val (.int (1 : Int32)), .val (.long (own_st p1)), .second, .val (.long (own_st p2)), .second, .val (.long (own_st p3)), .second, .val (.int (0 : Int32)), .val (.int (0 : Int32)), .unset] [(.int (0 : Int32)), (.int (1 : Int32))])
        refine OwnGo.st (fun _ kk => XS.ifYes X65.here hx rfl (pc0 := 126) (pc' := 133) rfl (hb hby at_126) rfl ((if0 _ _).trans (teq ((by decide) : (0 : Int32) = (0 : Int32))).1) (by decide) (by decide) kk) ?_
        show OwnGo p e below s _ _ _ T65 (mkF m 133 #[.val (.long p1), .second, .val (.long p2), .second, .val (.long p3), .second, .val (.ref b54), .val (.int (1 : Int32)), .val (.int (0 : Int32)), .val (.int (0 : Int32)), .val (.int (0 : Int32)), .val (.int (0 : Int32)), .val (.int (0 : Int32)), .val (.int (1 : Int32)), .val (.long (own_st p1)), .second, .val (.long (own_st p2)), .second, .val (.long (own_st p3)), .second, .val (.int (0 : Int32)), .val (.int (0 : Int32)), .unset] [(.int (1 : Int32))])
        refine OwnGo.st (fun _ kk => XS.iconst X65.here hx rfl (hb hby at_133) kk) ?_
        show OwnGo p e below s _ _ _ T65 (mkF m 134 #[.val (.long p1), .second, .val (.long p2), .second, .val (.long p3), .second, .val (.ref b54), .val (.int (1 : Int32)), .val (.int (0 : Int32)), .val (.int (0 : Int32)), .val (.int (0 : Int32)), .val (.int (0 : Int32)), .val (.int (0 : Int32)), .val (.int (1 : Int32)), .val (.long (own_st p1)), .second, .val (.long (own_st p2)), .second, .val (.long (own_st p3)), .second, .val (.int (0 : Int32)), .val (.int (0 : Int32)), .unset] [(.int (0 : Int32)), (.int (1 : Int32))])
        refine OwnGo.st (fun _ kk => XS.iadd X65.here hx rfl (hb hby at_134) rfl kk) ?_
        show OwnGo p e below s _ _ _ T65 (mkF m 135 #[.val (.long p1), .second, .val (.long p2), .second, .val (.long p3), .second, .val (.ref b54), .val (.int (1 : Int32)), .val (.int (0 : Int32)), .val (.int (0 : Int32)), .val (.int (0 : Int32)), .val (.int (0 : Int32)), .val (.int (0 : Int32)), .val (.int (1 : Int32)), .val (.long (own_st p1)), .second, .val (.long (own_st p2)), .second, .val (.long (own_st p3)), .second, .val (.int (0 : Int32)), .val (.int (0 : Int32)), .unset] [(.int (1 : Int32))])
        refine OwnGo.st (fun _ kk => XS.iload X65.here hx rfl (hb hby at_135) rfl  kk) ?_
        show OwnGo p e below s _ _ _ T65 (mkF m 137 #[.val (.long p1), .second, .val (.long p2), .second, .val (.long p3), .second, .val (.ref b54), .val (.int (1 : Int32)), .val (.int (0 : Int32)), .val (.int (0 : Int32)), .val (.int (0 : Int32)), .val (.int (0 : Int32)), .val (.int (0 : Int32)), .val (.int (1 : Int32)), .val (.long (own_st p1)), .second, .val (.long (own_st p2)), .second, .val (.long (own_st p3)), .second, .val (.int (0 : Int32)), .val (.int (0 : Int32)), .unset] [(.int (0 : Int32)), (.int (1 : Int32))])
        refine OwnGo.st (fun _ kk => XS.ifYes X65.here hx rfl (pc0 := 137) (pc' := 144) rfl (hb hby at_137) rfl ((if0 _ _).trans (teq ((by decide) : (0 : Int32) = (0 : Int32))).1) (by decide) (by decide) kk) ?_
        show OwnGo p e below s _ _ _ T65 (mkF m 144 #[.val (.long p1), .second, .val (.long p2), .second, .val (.long p3), .second, .val (.ref b54), .val (.int (1 : Int32)), .val (.int (0 : Int32)), .val (.int (0 : Int32)), .val (.int (0 : Int32)), .val (.int (0 : Int32)), .val (.int (0 : Int32)), .val (.int (1 : Int32)), .val (.long (own_st p1)), .second, .val (.long (own_st p2)), .second, .val (.long (own_st p3)), .second, .val (.int (0 : Int32)), .val (.int (0 : Int32)), .unset] [(.int (1 : Int32))])
        refine OwnGo.st (fun _ kk => XS.iconst X65.here hx rfl (hb hby at_144) kk) ?_
        show OwnGo p e below s _ _ _ T65 (mkF m 145 #[.val (.long p1), .second, .val (.long p2), .second, .val (.long p3), .second, .val (.ref b54), .val (.int (1 : Int32)), .val (.int (0 : Int32)), .val (.int (0 : Int32)), .val (.int (0 : Int32)), .val (.int (0 : Int32)), .val (.int (0 : Int32)), .val (.int (1 : Int32)), .val (.long (own_st p1)), .second, .val (.long (own_st p2)), .second, .val (.long (own_st p3)), .second, .val (.int (0 : Int32)), .val (.int (0 : Int32)), .unset] [(.int (0 : Int32)), (.int (1 : Int32))])
        refine OwnGo.st (fun _ kk => XS.iadd X65.here hx rfl (hb hby at_145) rfl kk) ?_
        show OwnGo p e below s _ _ _ T65 (mkF m 146 #[.val (.long p1), .second, .val (.long p2), .second, .val (.long p3), .second, .val (.ref b54), .val (.int (1 : Int32)), .val (.int (0 : Int32)), .val (.int (0 : Int32)), .val (.int (0 : Int32)), .val (.int (0 : Int32)), .val (.int (0 : Int32)), .val (.int (1 : Int32)), .val (.long (own_st p1)), .second, .val (.long (own_st p2)), .second, .val (.long (own_st p3)), .second, .val (.int (0 : Int32)), .val (.int (0 : Int32)), .unset] [(.int (1 : Int32))])
        refine OwnGo.st (fun _ kk => XS.istore X65.here hx rfl (hb hby at_146) rfl (l' := #[.val (.long p1), .second, .val (.long p2), .second, .val (.long p3), .second, .val (.ref b54), .val (.int (1 : Int32)), .val (.int (0 : Int32)), .val (.int (0 : Int32)), .val (.int (0 : Int32)), .val (.int (0 : Int32)), .val (.int (0 : Int32)), .val (.int (1 : Int32)), .val (.long (own_st p1)), .second, .val (.long (own_st p2)), .second, .val (.long (own_st p3)), .second, .val (.int (0 : Int32)), .val (.int (0 : Int32)), .val (.int (1 : Int32))]) rfl kk) ?_
        show OwnGo p e below s _ _ _ T65 (mkF m 148 #[.val (.long p1), .second, .val (.long p2), .second, .val (.long p3), .second, .val (.ref b54), .val (.int (1 : Int32)), .val (.int (0 : Int32)), .val (.int (0 : Int32)), .val (.int (0 : Int32)), .val (.int (0 : Int32)), .val (.int (0 : Int32)), .val (.int (1 : Int32)), .val (.long (own_st p1)), .second, .val (.long (own_st p2)), .second, .val (.long (own_st p3)), .second, .val (.int (0 : Int32)), .val (.int (0 : Int32)), .val (.int (1 : Int32))] [])
        refine OwnGo.st (fun _ kk => XS.iload X65.here hx rfl (hb hby at_148) rfl  kk) ?_
        show OwnGo p e below s _ _ _ T65 (mkF m 150 #[.val (.long p1), .second, .val (.long p2), .second, .val (.long p3), .second, .val (.ref b54), .val (.int (1 : Int32)), .val (.int (0 : Int32)), .val (.int (0 : Int32)), .val (.int (0 : Int32)), .val (.int (0 : Int32)), .val (.int (0 : Int32)), .val (.int (1 : Int32)), .val (.long (own_st p1)), .second, .val (.long (own_st p2)), .second, .val (.long (own_st p3)), .second, .val (.int (0 : Int32)), .val (.int (0 : Int32)), .val (.int (1 : Int32))] [(.int (1 : Int32))])
        refine OwnGo.st (fun _ kk => XS.ifNo X65.here hx rfl (hb hby at_150) rfl ((if0 _ _).trans (feq ((by decide) : ¬ ((1 : Int32) = (0 : Int32)))).1) kk) ?_
        show OwnGo p e below s _ _ _ T65 (mkF m 153 #[.val (.long p1), .second, .val (.long p2), .second, .val (.long p3), .second, .val (.ref b54), .val (.int (1 : Int32)), .val (.int (0 : Int32)), .val (.int (0 : Int32)), .val (.int (0 : Int32)), .val (.int (0 : Int32)), .val (.int (0 : Int32)), .val (.int (1 : Int32)), .val (.long (own_st p1)), .second, .val (.long (own_st p2)), .second, .val (.long (own_st p3)), .second, .val (.int (0 : Int32)), .val (.int (0 : Int32)), .val (.int (1 : Int32))] [])
        refine OwnGo.st (fun _ kk => XS.iload X65.here hx rfl (hb hby at_153) rfl  kk) ?_
        show OwnGo p e below s _ _ _ T65 (mkF m 155 #[.val (.long p1), .second, .val (.long p2), .second, .val (.long p3), .second, .val (.ref b54), .val (.int (1 : Int32)), .val (.int (0 : Int32)), .val (.int (0 : Int32)), .val (.int (0 : Int32)), .val (.int (0 : Int32)), .val (.int (0 : Int32)), .val (.int (1 : Int32)), .val (.long (own_st p1)), .second, .val (.long (own_st p2)), .second, .val (.long (own_st p3)), .second, .val (.int (0 : Int32)), .val (.int (0 : Int32)), .val (.int (1 : Int32))] [(.int (0 : Int32))])
        refine OwnGo.st (fun _ kk => XS.iload X65.here hx rfl (hb hby at_155) rfl  kk) ?_
        show OwnGo p e below s _ _ _ T65 (mkF m 157 #[.val (.long p1), .second, .val (.long p2), .second, .val (.long p3), .second, .val (.ref b54), .val (.int (1 : Int32)), .val (.int (0 : Int32)), .val (.int (0 : Int32)), .val (.int (0 : Int32)), .val (.int (0 : Int32)), .val (.int (0 : Int32)), .val (.int (1 : Int32)), .val (.long (own_st p1)), .second, .val (.long (own_st p2)), .second, .val (.long (own_st p3)), .second, .val (.int (0 : Int32)), .val (.int (0 : Int32)), .val (.int (1 : Int32))] [(.int (0 : Int32)), (.int (0 : Int32))])
        refine OwnGo.st (fun _ kk => XS.icmpNo X65.here hx rfl (hb hby at_157) rfl (teq ((by decide) : (0 : Int32) = (0 : Int32))).2 kk) ?_
        show OwnGo p e below s _ _ _ T65 (mkF m 160 #[.val (.long p1), .second, .val (.long p2), .second, .val (.long p3), .second, .val (.ref b54), .val (.int (1 : Int32)), .val (.int (0 : Int32)), .val (.int (0 : Int32)), .val (.int (0 : Int32)), .val (.int (0 : Int32)), .val (.int (0 : Int32)), .val (.int (1 : Int32)), .val (.long (own_st p1)), .second, .val (.long (own_st p2)), .second, .val (.long (own_st p3)), .second, .val (.int (0 : Int32)), .val (.int (0 : Int32)), .val (.int (1 : Int32))] [])
        refine OwnGo.st (fun _ kk => XS.iload X65.here hx rfl (hb hby at_160) rfl  kk) ?_
        show OwnGo p e below s _ _ _ T65 (mkF m 162 #[.val (.long p1), .second, .val (.long p2), .second, .val (.long p3), .second, .val (.ref b54), .val (.int (1 : Int32)), .val (.int (0 : Int32)), .val (.int (0 : Int32)), .val (.int (0 : Int32)), .val (.int (0 : Int32)), .val (.int (0 : Int32)), .val (.int (1 : Int32)), .val (.long (own_st p1)), .second, .val (.long (own_st p2)), .second, .val (.long (own_st p3)), .second, .val (.int (0 : Int32)), .val (.int (0 : Int32)), .val (.int (1 : Int32))] [(.int (0 : Int32))])
        refine OwnGo.st (fun _ kk => XS.iload X65.here hx rfl (hb hby at_162) rfl  kk) ?_
        show OwnGo p e below s _ _ _ T65 (mkF m 164 #[.val (.long p1), .second, .val (.long p2), .second, .val (.long p3), .second, .val (.ref b54), .val (.int (1 : Int32)), .val (.int (0 : Int32)), .val (.int (0 : Int32)), .val (.int (0 : Int32)), .val (.int (0 : Int32)), .val (.int (0 : Int32)), .val (.int (1 : Int32)), .val (.long (own_st p1)), .second, .val (.long (own_st p2)), .second, .val (.long (own_st p3)), .second, .val (.int (0 : Int32)), .val (.int (0 : Int32)), .val (.int (1 : Int32))] [(.int (0 : Int32)), (.int (0 : Int32))])
        refine OwnGo.st (fun _ kk => XS.icmpNo X65.here hx rfl (hb hby at_164) rfl (teq ((by decide) : (0 : Int32) = (0 : Int32))).2 kk) ?_
        show OwnGo p e below s _ _ _ T65 (mkF m 167 #[.val (.long p1), .second, .val (.long p2), .second, .val (.long p3), .second, .val (.ref b54), .val (.int (1 : Int32)), .val (.int (0 : Int32)), .val (.int (0 : Int32)), .val (.int (0 : Int32)), .val (.int (0 : Int32)), .val (.int (0 : Int32)), .val (.int (1 : Int32)), .val (.long (own_st p1)), .second, .val (.long (own_st p2)), .second, .val (.long (own_st p3)), .second, .val (.int (0 : Int32)), .val (.int (0 : Int32)), .val (.int (1 : Int32))] [])
        refine OwnGo.st (fun _ kk => XS.iload X65.here hx rfl (hb hby at_167) rfl  kk) ?_
        show OwnGo p e below s _ _ _ T65 (mkF m 169 #[.val (.long p1), .second, .val (.long p2), .second, .val (.long p3), .second, .val (.ref b54), .val (.int (1 : Int32)), .val (.int (0 : Int32)), .val (.int (0 : Int32)), .val (.int (0 : Int32)), .val (.int (0 : Int32)), .val (.int (0 : Int32)), .val (.int (1 : Int32)), .val (.long (own_st p1)), .second, .val (.long (own_st p2)), .second, .val (.long (own_st p3)), .second, .val (.int (0 : Int32)), .val (.int (0 : Int32)), .val (.int (1 : Int32))] [(.int (0 : Int32))])
        refine OwnGo.st (fun _ kk => XS.ifNo X65.here hx rfl (hb hby at_169) rfl ((if0 _ _).trans (teq ((by decide) : (0 : Int32) = (0 : Int32))).2) kk) ?_
        show OwnGo p e below s _ _ _ T65 (mkF m 172 #[.val (.long p1), .second, .val (.long p2), .second, .val (.long p3), .second, .val (.ref b54), .val (.int (1 : Int32)), .val (.int (0 : Int32)), .val (.int (0 : Int32)), .val (.int (0 : Int32)), .val (.int (0 : Int32)), .val (.int (0 : Int32)), .val (.int (1 : Int32)), .val (.long (own_st p1)), .second, .val (.long (own_st p2)), .second, .val (.long (own_st p3)), .second, .val (.int (0 : Int32)), .val (.int (0 : Int32)), .val (.int (1 : Int32))] [])
        refine OwnGo.st (fun _ kk => XS.iload X65.here hx rfl (hb hby at_172) rfl  kk) ?_
        show OwnGo p e below s _ _ _ T65 (mkF m 174 #[.val (.long p1), .second, .val (.long p2), .second, .val (.long p3), .second, .val (.ref b54), .val (.int (1 : Int32)), .val (.int (0 : Int32)), .val (.int (0 : Int32)), .val (.int (0 : Int32)), .val (.int (0 : Int32)), .val (.int (0 : Int32)), .val (.int (1 : Int32)), .val (.long (own_st p1)), .second, .val (.long (own_st p2)), .second, .val (.long (own_st p3)), .second, .val (.int (0 : Int32)), .val (.int (0 : Int32)), .val (.int (1 : Int32))] [(.int (0 : Int32))])
        refine OwnGo.st (fun _ kk => XS.ifNo X65.here hx rfl (hb hby at_174) rfl ((if0 _ _).trans (teq ((by decide) : (0 : Int32) = (0 : Int32))).2) kk) ?_
        show OwnGo p e below s _ _ _ T65 (mkF m 177 #[.val (.long p1), .second, .val (.long p2), .second, .val (.long p3), .second, .val (.ref b54), .val (.int (1 : Int32)), .val (.int (0 : Int32)), .val (.int (0 : Int32)), .val (.int (0 : Int32)), .val (.int (0 : Int32)), .val (.int (0 : Int32)), .val (.int (1 : Int32)), .val (.long (own_st p1)), .second, .val (.long (own_st p2)), .second, .val (.long (own_st p3)), .second, .val (.int (0 : Int32)), .val (.int (0 : Int32)), .val (.int (1 : Int32))] [])
        refine OwnGo.st (fun _ kk => XS.iload X65.here hx rfl (hb hby at_177) rfl  kk) ?_
        show OwnGo p e below s _ _ _ T65 (mkF m 179 #[.val (.long p1), .second, .val (.long p2), .second, .val (.long p3), .second, .val (.ref b54), .val (.int (1 : Int32)), .val (.int (0 : Int32)), .val (.int (0 : Int32)), .val (.int (0 : Int32)), .val (.int (0 : Int32)), .val (.int (0 : Int32)), .val (.int (1 : Int32)), .val (.long (own_st p1)), .second, .val (.long (own_st p2)), .second, .val (.long (own_st p3)), .second, .val (.int (0 : Int32)), .val (.int (0 : Int32)), .val (.int (1 : Int32))] [(.int (0 : Int32))])
        refine OwnGo.st (fun _ kk => XS.ifNo X65.here hx rfl (hb hby at_179) rfl ((if0 _ _).trans (teq ((by decide) : (0 : Int32) = (0 : Int32))).2) kk) ?_
        show OwnGo p e below s _ _ _ T65 (mkF m 182 #[.val (.long p1), .second, .val (.long p2), .second, .val (.long p3), .second, .val (.ref b54), .val (.int (1 : Int32)), .val (.int (0 : Int32)), .val (.int (0 : Int32)), .val (.int (0 : Int32)), .val (.int (0 : Int32)), .val (.int (0 : Int32)), .val (.int (1 : Int32)), .val (.long (own_st p1)), .second, .val (.long (own_st p2)), .second, .val (.long (own_st p3)), .second, .val (.int (0 : Int32)), .val (.int (0 : Int32)), .val (.int (1 : Int32))] [])
        refine OwnGo.st (fun _ kk => XS.iload X65.here hx rfl (hb hby at_182) rfl  kk) ?_
        show OwnGo p e below s _ _ _ T65 (mkF m 184 #[.val (.long p1), .second, .val (.long p2), .second, .val (.long p3), .second, .val (.ref b54), .val (.int (1 : Int32)), .val (.int (0 : Int32)), .val (.int (0 : Int32)), .val (.int (0 : Int32)), .val (.int (0 : Int32)), .val (.int (0 : Int32)), .val (.int (1 : Int32)), .val (.long (own_st p1)), .second, .val (.long (own_st p2)), .second, .val (.long (own_st p3)), .second, .val (.int (0 : Int32)), .val (.int (0 : Int32)), .val (.int (1 : Int32))] [(.int (1 : Int32))])
        refine OwnGo.st (fun _ kk => XS.iload X65.here hx rfl (hb hby at_184) rfl  kk) ?_
        show OwnGo p e below s _ _ _ T65 (mkF m 186 #[.val (.long p1), .second, .val (.long p2), .second, .val (.long p3), .second, .val (.ref b54), .val (.int (1 : Int32)), .val (.int (0 : Int32)), .val (.int (0 : Int32)), .val (.int (0 : Int32)), .val (.int (0 : Int32)), .val (.int (0 : Int32)), .val (.int (1 : Int32)), .val (.long (own_st p1)), .second, .val (.long (own_st p2)), .second, .val (.long (own_st p3)), .second, .val (.int (0 : Int32)), .val (.int (0 : Int32)), .val (.int (1 : Int32))] [(.int (1 : Int32)), (.int (1 : Int32))])
        refine OwnGo.st (fun _ kk => XS.icmpNo X65.here hx rfl (hb hby at_186) rfl (teq ((by decide) : (1 : Int32) = (1 : Int32))).2 kk) ?_
        show OwnGo p e below s _ _ _ T65 (mkF m 189 #[.val (.long p1), .second, .val (.long p2), .second, .val (.long p3), .second, .val (.ref b54), .val (.int (1 : Int32)), .val (.int (0 : Int32)), .val (.int (0 : Int32)), .val (.int (0 : Int32)), .val (.int (0 : Int32)), .val (.int (0 : Int32)), .val (.int (1 : Int32)), .val (.long (own_st p1)), .second, .val (.long (own_st p2)), .second, .val (.long (own_st p3)), .second, .val (.int (0 : Int32)), .val (.int (0 : Int32)), .val (.int (1 : Int32))] [])
        refine OwnGo.st (fun _ kk => XS.iconst X65.here hx rfl (hb hby at_189) kk) ?_
        show OwnGo p e below s _ _ _ T65 (mkF m 190 #[.val (.long p1), .second, .val (.long p2), .second, .val (.long p3), .second, .val (.ref b54), .val (.int (1 : Int32)), .val (.int (0 : Int32)), .val (.int (0 : Int32)), .val (.int (0 : Int32)), .val (.int (0 : Int32)), .val (.int (0 : Int32)), .val (.int (1 : Int32)), .val (.long (own_st p1)), .second, .val (.long (own_st p2)), .second, .val (.long (own_st p3)), .second, .val (.int (0 : Int32)), .val (.int (0 : Int32)), .val (.int (1 : Int32))] [(.int (1 : Int32))])
        refine OwnGo.st (fun _ kk => XS.goto X65.here hx rfl (pc0 := 190) (pc' := 194) rfl (hb hby at_190) (by decide) (by decide) kk) ?_
        show OwnGo p e below s _ _ _ T65 (mkF m 194 #[.val (.long p1), .second, .val (.long p2), .second, .val (.long p3), .second, .val (.ref b54), .val (.int (1 : Int32)), .val (.int (0 : Int32)), .val (.int (0 : Int32)), .val (.int (0 : Int32)), .val (.int (0 : Int32)), .val (.int (0 : Int32)), .val (.int (1 : Int32)), .val (.long (own_st p1)), .second, .val (.long (own_st p2)), .second, .val (.long (own_st p3)), .second, .val (.int (0 : Int32)), .val (.int (0 : Int32)), .val (.int (1 : Int32))] [(.int (1 : Int32))])
        exact OwnGo.retN X65 hx (t := .boolean) hret hlk (by simp) (hb hby at_194) (by show Q0 Z p1 p2 p3 h0 n0 _ T65.heap _; rw [e65]; exact ⟨rfl, N65⟩) (by decide) (by decide)
      · refine OwnGo.st (fun _ kk => XS.ifNo X65.here hx rfl (hb hby at_105) rfl ((if0 _ _).trans (feq ((fun q => hca ((lw_eq _ _).1 q)) : ¬ ((lcmpW (own_st p3) (own_st p1)) = (0 : Int32)))).1) kk) ?_
        show OwnGo p e below s _ _ _ T65 (mkF m 108 #[.val (.long p1), .second, .val (.long p2), .second, .val (.long p3), .second, .val (.ref b54), .val (.int (1 : Int32)), .val (.int (0 : Int32)), .val (.int (0 : Int32)), .val (.int (0 : Int32)), .val (.int (0 : Int32)), .val (.int (0 : Int32)), .val (.int (1 : Int32)), .val (.long (own_st p1)), .second, .val (.long (own_st p2)), .second, .val (.long (own_st p3)), .second, .val (.int (0 : Int32)), .unset, .unset] [])
        refine OwnGo.st (fun _ kk => XS.lload X65.here hx rfl (hb hby at_108) rfl  kk) ?_
        show OwnGo p e below s _ _ _ T65 (mkF m 110 #[.val (.long p1), .second, .val (.long p2), .second, .val (.long p3), .second, .val (.ref b54), .val (.int (1 : Int32)), .val (.int (0 : Int32)), .val (.int (0 : Int32)), .val (.int (0 : Int32)), .val (.int (0 : Int32)), .val (.int (0 : Int32)), .val (.int (1 : Int32)), .val (.long (own_st p1)), .second, .val (.long (own_st p2)), .second, .val (.long (own_st p3)), .second, .val (.int (0 : Int32)), .unset, .unset] [(.long (own_st p3))])
        refine OwnGo.st (fun _ kk => XS.lload X65.here hx rfl (hb hby at_110) rfl  kk) ?_
        show OwnGo p e below s _ _ _ T65 (mkF m 112 #[.val (.long p1), .second, .val (.long p2), .second, .val (.long p3), .second, .val (.ref b54), .val (.int (1 : Int32)), .val (.int (0 : Int32)), .val (.int (0 : Int32)), .val (.int (0 : Int32)), .val (.int (0 : Int32)), .val (.int (0 : Int32)), .val (.int (1 : Int32)), .val (.long (own_st p1)), .second, .val (.long (own_st p2)), .second, .val (.long (own_st p3)), .second, .val (.int (0 : Int32)), .unset, .unset] [(.long (own_st p2)), (.long (own_st p3))])
        refine OwnGo.st (fun _ kk => XS.lcmp X65.here hx rfl (hb hby at_112) rfl kk) ?_
        show OwnGo p e below s _ _ _ T65 (mkF m 113 #[.val (.long p1), .second, .val (.long p2), .second, .val (.long p3), .second, .val (.ref b54), .val (.int (1 : Int32)), .val (.int (0 : Int32)), .val (.int (0 : Int32)), .val (.int (0 : Int32)), .val (.int (0 : Int32)), .val (.int (0 : Int32)), .val (.int (1 : Int32)), .val (.long (own_st p1)), .second, .val (.long (own_st p2)), .second, .val (.long (own_st p3)), .second, .val (.int (0 : Int32)), .unset, .unset] [(.int (lcmpW (own_st p3) (own_st p2)))])
        refine OwnGo.st (fun _ kk => XS.ifYes X65.here hx rfl (pc0 := 113) (pc' := 120) rfl (hb hby at_113) rfl ((if0 _ _).trans (teq (((lw_eq _ _).2 (hc.resolve_left (fun q => hca q.symm)).symm) : (lcmpW (own_st p3) (own_st p2)) = (0 : Int32))).1) (by decide) (by decide) kk) ?_
        show OwnGo p e below s _ _ _ T65 (mkF m 120 #[.val (.long p1), .second, .val (.long p2), .second, .val (.long p3), .second, .val (.ref b54), .val (.int (1 : Int32)), .val (.int (0 : Int32)), .val (.int (0 : Int32)), .val (.int (0 : Int32)), .val (.int (0 : Int32)), .val (.int (0 : Int32)), .val (.int (1 : Int32)), .val (.long (own_st p1)), .second, .val (.long (own_st p2)), .second, .val (.long (own_st p3)), .second, .val (.int (0 : Int32)), .unset, .unset] [])
        refine OwnGo.st (fun _ kk => XS.iconst X65.here hx rfl (hb hby at_120) kk) ?_
        show OwnGo p e below s _ _ _ T65 (mkF m 121 #[.val (.long p1), .second, .val (.long p2), .second, .val (.long p3), .second, .val (.ref b54), .val (.int (1 : Int32)), .val (.int (0 : Int32)), .val (.int (0 : Int32)), .val (.int (0 : Int32)), .val (.int (0 : Int32)), .val (.int (0 : Int32)), .val (.int (1 : Int32)), .val (.long (own_st p1)), .second, .val (.long (own_st p2)), .second, .val (.long (own_st p3)), .second, .val (.int (0 : Int32)), .unset, .unset] [(.int (0 : Int32))])
        refine OwnGo.st (fun _ kk => XS.istore X65.here hx rfl (hb hby at_121) rfl (l' := #[.val (.long p1), .second, .val (.long p2), .second, .val (.long p3), .second, .val (.ref b54), .val (.int (1 : Int32)), .val (.int (0 : Int32)), .val (.int (0 : Int32)), .val (.int (0 : Int32)), .val (.int (0 : Int32)), .val (.int (0 : Int32)), .val (.int (1 : Int32)), .val (.long (own_st p1)), .second, .val (.long (own_st p2)), .second, .val (.long (own_st p3)), .second, .val (.int (0 : Int32)), .val (.int (0 : Int32)), .unset]) rfl kk) ?_
        show OwnGo p e below s _ _ _ T65 (mkF m 123 #[.val (.long p1), .second, .val (.long p2), .second, .val (.long p3), .second, .val (.ref b54), .val (.int (1 : Int32)), .val (.int (0 : Int32)), .val (.int (0 : Int32)), .val (.int (0 : Int32)), .val (.int (0 : Int32)), .val (.int (0 : Int32)), .val (.int (1 : Int32)), .val (.long (own_st p1)), .second, .val (.long (own_st p2)), .second, .val (.long (own_st p3)), .second, .val (.int (0 : Int32)), .val (.int (0 : Int32)), .unset] [])
        refine OwnGo.st (fun _ kk => XS.iconst X65.here hx rfl (hb hby at_123) kk) ?_
        show OwnGo p e below s _ _ _ T65 (mkF m 124 #[.val (.long p1), .second, .val (.long p2), .second, .val (.long p3), .second, .val (.ref b54), .val (.int (1 : Int32)), .val (.int (0 : Int32)), .val (.int (0 : Int32)), .val (.int (0 : Int32)), .val (.int (0 : Int32)), .val (.int (0 : Int32)), .val (.int (1 : Int32)), .val (.long (own_st p1)), .second, .val (.long (own_st p2)), .second, .val (.long (own_st p3)), .second, .val (.int (0 : Int32)), .val (.int (0 : Int32)), .unset] [(.int (1 : Int32))])
        refine OwnGo.st (fun _ kk => XS.iload X65.here hx rfl (hb hby at_124) rfl  kk) ?_
        show OwnGo p e below s _ _ _ T65 (mkF m 126 #[.val (.long p1), .second, .val (.long p2), .second, .val (.long p3), .second, .val (.ref b54), .val (.int (1 : Int32)), .val (.int (0 : Int32)), .val (.int (0 : Int32)), .val (.int (0 : Int32)), .val (.int (0 : Int32)), .val (.int (0 : Int32)), .val (.int (1 : Int32)), .val (.long (own_st p1)), .second, .val (.long (own_st p2)), .second, .val (.long (own_st p3)), .second, .val (.int (0 : Int32)), .val (.int (0 : Int32)), .unset] [(.int (0 : Int32)), (.int (1 : Int32))])
        refine OwnGo.st (fun _ kk => XS.ifYes X65.here hx rfl (pc0 := 126) (pc' := 133) rfl (hb hby at_126) rfl ((if0 _ _).trans (teq ((by decide) : (0 : Int32) = (0 : Int32))).1) (by decide) (by decide) kk) ?_
        show OwnGo p e below s _ _ _ T65 (mkF m 133 #[.val (.long p1), .second, .val (.long p2), .second, .val (.long p3), .second, .val (.ref b54), .val (.int (1 : Int32)), .val (.int (0 : Int32)), .val (.int (0 : Int32)), .val (.int (0 : Int32)), .val (.int (0 : Int32)), .val (.int (0 : Int32)), .val (.int (1 : Int32)), .val (.long (own_st p1)), .second, .val (.long (own_st p2)), .second, .val (.long (own_st p3)), .second, .val (.int (0 : Int32)), .val (.int (0 : Int32)), .unset] [(.int (1 : Int32))])
        refine OwnGo.st (fun _ kk => XS.iconst X65.here hx rfl (hb hby at_133) kk) ?_
        show OwnGo p e below s _ _ _ T65 (mkF m 134 #[.val (.long p1), .second, .val (.long p2), .second, .val (.long p3), .second, .val (.ref b54), .val (.int (1 : Int32)), .val (.int (0 : Int32)), .val (.int (0 : Int32)), .val (.int (0 : Int32)), .val (.int (0 : Int32)), .val (.int (0 : Int32)), .val (.int (1 : Int32)), .val (.long (own_st p1)), .second, .val (.long (own_st p2)), .second, .val (.long (own_st p3)), .second, .val (.int (0 : Int32)), .val (.int (0 : Int32)), .unset] [(.int (0 : Int32)), (.int (1 : Int32))])
        refine OwnGo.st (fun _ kk => XS.iadd X65.here hx rfl (hb hby at_134) rfl kk) ?_
        show OwnGo p e below s _ _ _ T65 (mkF m 135 #[.val (.long p1), .second, .val (.long p2), .second, .val (.long p3), .second, .val (.ref b54), .val (.int (1 : Int32)), .val (.int (0 : Int32)), .val (.int (0 : Int32)), .val (.int (0 : Int32)), .val (.int (0 : Int32)), .val (.int (0 : Int32)), .val (.int (1 : Int32)), .val (.long (own_st p1)), .second, .val (.long (own_st p2)), .second, .val (.long (own_st p3)), .second, .val (.int (0 : Int32)), .val (.int (0 : Int32)), .unset] [(.int (1 : Int32))])
        refine OwnGo.st (fun _ kk => XS.iload X65.here hx rfl (hb hby at_135) rfl  kk) ?_
        show OwnGo p e below s _ _ _ T65 (mkF m 137 #[.val (.long p1), .second, .val (.long p2), .second, .val (.long p3), .second, .val (.ref b54), .val (.int (1 : Int32)), .val (.int (0 : Int32)), .val (.int (0 : Int32)), .val (.int (0 : Int32)), .val (.int (0 : Int32)), .val (.int (0 : Int32)), .val (.int (1 : Int32)), .val (.long (own_st p1)), .second, .val (.long (own_st p2)), .second, .val (.long (own_st p3)), .second, .val (.int (0 : Int32)), .val (.int (0 : Int32)), .unset] [(.int (0 : Int32)), (.int (1 : Int32))])
        refine OwnGo.st (fun _ kk => XS.ifYes X65.here hx rfl (pc0 := 137) (pc' := 144) rfl (hb hby at_137) rfl ((if0 _ _).trans (teq ((by decide) : (0 : Int32) = (0 : Int32))).1) (by decide) (by decide) kk) ?_
        show OwnGo p e below s _ _ _ T65 (mkF m 144 #[.val (.long p1), .second, .val (.long p2), .second, .val (.long p3), .second, .val (.ref b54), .val (.int (1 : Int32)), .val (.int (0 : Int32)), .val (.int (0 : Int32)), .val (.int (0 : Int32)), .val (.int (0 : Int32)), .val (.int (0 : Int32)), .val (.int (1 : Int32)), .val (.long (own_st p1)), .second, .val (.long (own_st p2)), .second, .val (.long (own_st p3)), .second, .val (.int (0 : Int32)), .val (.int (0 : Int32)), .unset] [(.int (1 : Int32))])
        refine OwnGo.st (fun _ kk => XS.iconst X65.here hx rfl (hb hby at_144) kk) ?_
        show OwnGo p e below s _ _ _ T65 (mkF m 145 #[.val (.long p1), .second, .val (.long p2), .second, .val (.long p3), .second, .val (.ref b54), .val (.int (1 : Int32)), .val (.int (0 : Int32)), .val (.int (0 : Int32)), .val (.int (0 : Int32)), .val (.int (0 : Int32)), .val (.int (0 : Int32)), .val (.int (1 : Int32)), .val (.long (own_st p1)), .second, .val (.long (own_st p2)), .second, .val (.long (own_st p3)), .second, .val (.int (0 : Int32)), .val (.int (0 : Int32)), .unset] [(.int (0 : Int32)), (.int (1 : Int32))])
        refine OwnGo.st (fun _ kk => XS.iadd X65.here hx rfl (hb hby at_145) rfl kk) ?_
        show OwnGo p e below s _ _ _ T65 (mkF m 146 #[.val (.long p1), .second, .val (.long p2), .second, .val (.long p3), .second, .val (.ref b54), .val (.int (1 : Int32)), .val (.int (0 : Int32)), .val (.int (0 : Int32)), .val (.int (0 : Int32)), .val (.int (0 : Int32)), .val (.int (0 : Int32)), .val (.int (1 : Int32)), .val (.long (own_st p1)), .second, .val (.long (own_st p2)), .second, .val (.long (own_st p3)), .second, .val (.int (0 : Int32)), .val (.int (0 : Int32)), .unset] [(.int (1 : Int32))])
        refine OwnGo.st (fun _ kk => XS.istore X65.here hx rfl (hb hby at_146) rfl (l' := #[.val (.long p1), .second, .val (.long p2), .second, .val (.long p3), .second, .val (.ref b54), .val (.int (1 : Int32)), .val (.int (0 : Int32)), .val (.int (0 : Int32)), .val (.int (0 : Int32)), .val (.int (0 : Int32)), .val (.int (0 : Int32)), .val (.int (1 : Int32)), .val (.long (own_st p1)), .second, .val (.long (own_st p2)), .second, .val (.long (own_st p3)), .second, .val (.int (0 : Int32)), .val (.int (0 : Int32)), .val (.int (1 : Int32))]) rfl kk) ?_
        show OwnGo p e below s _ _ _ T65 (mkF m 148 #[.val (.long p1), .second, .val (.long p2), .second, .val (.long p3), .second, .val (.ref b54), .val (.int (1 : Int32)), .val (.int (0 : Int32)), .val (.int (0 : Int32)), .val (.int (0 : Int32)), .val (.int (0 : Int32)), .val (.int (0 : Int32)), .val (.int (1 : Int32)), .val (.long (own_st p1)), .second, .val (.long (own_st p2)), .second, .val (.long (own_st p3)), .second, .val (.int (0 : Int32)), .val (.int (0 : Int32)), .val (.int (1 : Int32))] [])
        refine OwnGo.st (fun _ kk => XS.iload X65.here hx rfl (hb hby at_148) rfl  kk) ?_
        show OwnGo p e below s _ _ _ T65 (mkF m 150 #[.val (.long p1), .second, .val (.long p2), .second, .val (.long p3), .second, .val (.ref b54), .val (.int (1 : Int32)), .val (.int (0 : Int32)), .val (.int (0 : Int32)), .val (.int (0 : Int32)), .val (.int (0 : Int32)), .val (.int (0 : Int32)), .val (.int (1 : Int32)), .val (.long (own_st p1)), .second, .val (.long (own_st p2)), .second, .val (.long (own_st p3)), .second, .val (.int (0 : Int32)), .val (.int (0 : Int32)), .val (.int (1 : Int32))] [(.int (1 : Int32))])
        refine OwnGo.st (fun _ kk => XS.ifNo X65.here hx rfl (hb hby at_150) rfl ((if0 _ _).trans (feq ((by decide) : ¬ ((1 : Int32) = (0 : Int32)))).1) kk) ?_
        show OwnGo p e below s _ _ _ T65 (mkF m 153 #[.val (.long p1), .second, .val (.long p2), .second, .val (.long p3), .second, .val (.ref b54), .val (.int (1 : Int32)), .val (.int (0 : Int32)), .val (.int (0 : Int32)), .val (.int (0 : Int32)), .val (.int (0 : Int32)), .val (.int (0 : Int32)), .val (.int (1 : Int32)), .val (.long (own_st p1)), .second, .val (.long (own_st p2)), .second, .val (.long (own_st p3)), .second, .val (.int (0 : Int32)), .val (.int (0 : Int32)), .val (.int (1 : Int32))] [])
        refine OwnGo.st (fun _ kk => XS.iload X65.here hx rfl (hb hby at_153) rfl  kk) ?_
        show OwnGo p e below s _ _ _ T65 (mkF m 155 #[.val (.long p1), .second, .val (.long p2), .second, .val (.long p3), .second, .val (.ref b54), .val (.int (1 : Int32)), .val (.int (0 : Int32)), .val (.int (0 : Int32)), .val (.int (0 : Int32)), .val (.int (0 : Int32)), .val (.int (0 : Int32)), .val (.int (1 : Int32)), .val (.long (own_st p1)), .second, .val (.long (own_st p2)), .second, .val (.long (own_st p3)), .second, .val (.int (0 : Int32)), .val (.int (0 : Int32)), .val (.int (1 : Int32))] [(.int (0 : Int32))])
        refine OwnGo.st (fun _ kk => XS.iload X65.here hx rfl (hb hby at_155) rfl  kk) ?_
        show OwnGo p e below s _ _ _ T65 (mkF m 157 #[.val (.long p1), .second, .val (.long p2), .second, .val (.long p3), .second, .val (.ref b54), .val (.int (1 : Int32)), .val (.int (0 : Int32)), .val (.int (0 : Int32)), .val (.int (0 : Int32)), .val (.int (0 : Int32)), .val (.int (0 : Int32)), .val (.int (1 : Int32)), .val (.long (own_st p1)), .second, .val (.long (own_st p2)), .second, .val (.long (own_st p3)), .second, .val (.int (0 : Int32)), .val (.int (0 : Int32)), .val (.int (1 : Int32))] [(.int (0 : Int32)), (.int (0 : Int32))])
        refine OwnGo.st (fun _ kk => XS.icmpNo X65.here hx rfl (hb hby at_157) rfl (teq ((by decide) : (0 : Int32) = (0 : Int32))).2 kk) ?_
        show OwnGo p e below s _ _ _ T65 (mkF m 160 #[.val (.long p1), .second, .val (.long p2), .second, .val (.long p3), .second, .val (.ref b54), .val (.int (1 : Int32)), .val (.int (0 : Int32)), .val (.int (0 : Int32)), .val (.int (0 : Int32)), .val (.int (0 : Int32)), .val (.int (0 : Int32)), .val (.int (1 : Int32)), .val (.long (own_st p1)), .second, .val (.long (own_st p2)), .second, .val (.long (own_st p3)), .second, .val (.int (0 : Int32)), .val (.int (0 : Int32)), .val (.int (1 : Int32))] [])
        refine OwnGo.st (fun _ kk => XS.iload X65.here hx rfl (hb hby at_160) rfl  kk) ?_
        show OwnGo p e below s _ _ _ T65 (mkF m 162 #[.val (.long p1), .second, .val (.long p2), .second, .val (.long p3), .second, .val (.ref b54), .val (.int (1 : Int32)), .val (.int (0 : Int32)), .val (.int (0 : Int32)), .val (.int (0 : Int32)), .val (.int (0 : Int32)), .val (.int (0 : Int32)), .val (.int (1 : Int32)), .val (.long (own_st p1)), .second, .val (.long (own_st p2)), .second, .val (.long (own_st p3)), .second, .val (.int (0 : Int32)), .val (.int (0 : Int32)), .val (.int (1 : Int32))] [(.int (0 : Int32))])
        refine OwnGo.st (fun _ kk => XS.iload X65.here hx rfl (hb hby at_162) rfl  kk) ?_
        show OwnGo p e below s _ _ _ T65 (mkF m 164 #[.val (.long p1), .second, .val (.long p2), .second, .val (.long p3), .second, .val (.ref b54), .val (.int (1 : Int32)), .val (.int (0 : Int32)), .val (.int (0 : Int32)), .val (.int (0 : Int32)), .val (.int (0 : Int32)), .val (.int (0 : Int32)), .val (.int (1 : Int32)), .val (.long (own_st p1)), .second, .val (.long (own_st p2)), .second, .val (.long (own_st p3)), .second, .val (.int (0 : Int32)), .val (.int (0 : Int32)), .val (.int (1 : Int32))] [(.int (0 : Int32)), (.int (0 : Int32))])
        refine OwnGo.st (fun _ kk => XS.icmpNo X65.here hx rfl (hb hby at_164) rfl (teq ((by decide) : (0 : Int32) = (0 : Int32))).2 kk) ?_
        show OwnGo p e below s _ _ _ T65 (mkF m 167 #[.val (.long p1), .second, .val (.long p2), .second, .val (.long p3), .second, .val (.ref b54), .val (.int (1 : Int32)), .val (.int (0 : Int32)), .val (.int (0 : Int32)), .val (.int (0 : Int32)), .val (.int (0 : Int32)), .val (.int (0 : Int32)), .val (.int (1 : Int32)), .val (.long (own_st p1)), .second, .val (.long (own_st p2)), .second, .val (.long (own_st p3)), .second, .val (.int (0 : Int32)), .val (.int (0 : Int32)), .val (.int (1 : Int32))] [])
        refine OwnGo.st (fun _ kk => XS.iload X65.here hx rfl (hb hby at_167) rfl  kk) ?_
        show OwnGo p e below s _ _ _ T65 (mkF m 169 #[.val (.long p1), .second, .val (.long p2), .second, .val (.long p3), .second, .val (.ref b54), .val (.int (1 : Int32)), .val (.int (0 : Int32)), .val (.int (0 : Int32)), .val (.int (0 : Int32)), .val (.int (0 : Int32)), .val (.int (0 : Int32)), .val (.int (1 : Int32)), .val (.long (own_st p1)), .second, .val (.long (own_st p2)), .second, .val (.long (own_st p3)), .second, .val (.int (0 : Int32)), .val (.int (0 : Int32)), .val (.int (1 : Int32))] [(.int (0 : Int32))])
        refine OwnGo.st (fun _ kk => XS.ifNo X65.here hx rfl (hb hby at_169) rfl ((if0 _ _).trans (teq ((by decide) : (0 : Int32) = (0 : Int32))).2) kk) ?_
        show OwnGo p e below s _ _ _ T65 (mkF m 172 #[.val (.long p1), .second, .val (.long p2), .second, .val (.long p3), .second, .val (.ref b54), .val (.int (1 : Int32)), .val (.int (0 : Int32)), .val (.int (0 : Int32)), .val (.int (0 : Int32)), .val (.int (0 : Int32)), .val (.int (0 : Int32)), .val (.int (1 : Int32)), .val (.long (own_st p1)), .second, .val (.long (own_st p2)), .second, .val (.long (own_st p3)), .second, .val (.int (0 : Int32)), .val (.int (0 : Int32)), .val (.int (1 : Int32))] [])
        refine OwnGo.st (fun _ kk => XS.iload X65.here hx rfl (hb hby at_172) rfl  kk) ?_
        show OwnGo p e below s _ _ _ T65 (mkF m 174 #[.val (.long p1), .second, .val (.long p2), .second, .val (.long p3), .second, .val (.ref b54), .val (.int (1 : Int32)), .val (.int (0 : Int32)), .val (.int (0 : Int32)), .val (.int (0 : Int32)), .val (.int (0 : Int32)), .val (.int (0 : Int32)), .val (.int (1 : Int32)), .val (.long (own_st p1)), .second, .val (.long (own_st p2)), .second, .val (.long (own_st p3)), .second, .val (.int (0 : Int32)), .val (.int (0 : Int32)), .val (.int (1 : Int32))] [(.int (0 : Int32))])
        refine OwnGo.st (fun _ kk => XS.ifNo X65.here hx rfl (hb hby at_174) rfl ((if0 _ _).trans (teq ((by decide) : (0 : Int32) = (0 : Int32))).2) kk) ?_
        show OwnGo p e below s _ _ _ T65 (mkF m 177 #[.val (.long p1), .second, .val (.long p2), .second, .val (.long p3), .second, .val (.ref b54), .val (.int (1 : Int32)), .val (.int (0 : Int32)), .val (.int (0 : Int32)), .val (.int (0 : Int32)), .val (.int (0 : Int32)), .val (.int (0 : Int32)), .val (.int (1 : Int32)), .val (.long (own_st p1)), .second, .val (.long (own_st p2)), .second, .val (.long (own_st p3)), .second, .val (.int (0 : Int32)), .val (.int (0 : Int32)), .val (.int (1 : Int32))] [])
        refine OwnGo.st (fun _ kk => XS.iload X65.here hx rfl (hb hby at_177) rfl  kk) ?_
        show OwnGo p e below s _ _ _ T65 (mkF m 179 #[.val (.long p1), .second, .val (.long p2), .second, .val (.long p3), .second, .val (.ref b54), .val (.int (1 : Int32)), .val (.int (0 : Int32)), .val (.int (0 : Int32)), .val (.int (0 : Int32)), .val (.int (0 : Int32)), .val (.int (0 : Int32)), .val (.int (1 : Int32)), .val (.long (own_st p1)), .second, .val (.long (own_st p2)), .second, .val (.long (own_st p3)), .second, .val (.int (0 : Int32)), .val (.int (0 : Int32)), .val (.int (1 : Int32))] [(.int (0 : Int32))])
        refine OwnGo.st (fun _ kk => XS.ifNo X65.here hx rfl (hb hby at_179) rfl ((if0 _ _).trans (teq ((by decide) : (0 : Int32) = (0 : Int32))).2) kk) ?_
        show OwnGo p e below s _ _ _ T65 (mkF m 182 #[.val (.long p1), .second, .val (.long p2), .second, .val (.long p3), .second, .val (.ref b54), .val (.int (1 : Int32)), .val (.int (0 : Int32)), .val (.int (0 : Int32)), .val (.int (0 : Int32)), .val (.int (0 : Int32)), .val (.int (0 : Int32)), .val (.int (1 : Int32)), .val (.long (own_st p1)), .second, .val (.long (own_st p2)), .second, .val (.long (own_st p3)), .second, .val (.int (0 : Int32)), .val (.int (0 : Int32)), .val (.int (1 : Int32))] [])
        refine OwnGo.st (fun _ kk => XS.iload X65.here hx rfl (hb hby at_182) rfl  kk) ?_
        show OwnGo p e below s _ _ _ T65 (mkF m 184 #[.val (.long p1), .second, .val (.long p2), .second, .val (.long p3), .second, .val (.ref b54), .val (.int (1 : Int32)), .val (.int (0 : Int32)), .val (.int (0 : Int32)), .val (.int (0 : Int32)), .val (.int (0 : Int32)), .val (.int (0 : Int32)), .val (.int (1 : Int32)), .val (.long (own_st p1)), .second, .val (.long (own_st p2)), .second, .val (.long (own_st p3)), .second, .val (.int (0 : Int32)), .val (.int (0 : Int32)), .val (.int (1 : Int32))] [(.int (1 : Int32))])
        refine OwnGo.st (fun _ kk => XS.iload X65.here hx rfl (hb hby at_184) rfl  kk) ?_
        show OwnGo p e below s _ _ _ T65 (mkF m 186 #[.val (.long p1), .second, .val (.long p2), .second, .val (.long p3), .second, .val (.ref b54), .val (.int (1 : Int32)), .val (.int (0 : Int32)), .val (.int (0 : Int32)), .val (.int (0 : Int32)), .val (.int (0 : Int32)), .val (.int (0 : Int32)), .val (.int (1 : Int32)), .val (.long (own_st p1)), .second, .val (.long (own_st p2)), .second, .val (.long (own_st p3)), .second, .val (.int (0 : Int32)), .val (.int (0 : Int32)), .val (.int (1 : Int32))] [(.int (1 : Int32)), (.int (1 : Int32))])
        refine OwnGo.st (fun _ kk => XS.icmpNo X65.here hx rfl (hb hby at_186) rfl (teq ((by decide) : (1 : Int32) = (1 : Int32))).2 kk) ?_
        show OwnGo p e below s _ _ _ T65 (mkF m 189 #[.val (.long p1), .second, .val (.long p2), .second, .val (.long p3), .second, .val (.ref b54), .val (.int (1 : Int32)), .val (.int (0 : Int32)), .val (.int (0 : Int32)), .val (.int (0 : Int32)), .val (.int (0 : Int32)), .val (.int (0 : Int32)), .val (.int (1 : Int32)), .val (.long (own_st p1)), .second, .val (.long (own_st p2)), .second, .val (.long (own_st p3)), .second, .val (.int (0 : Int32)), .val (.int (0 : Int32)), .val (.int (1 : Int32))] [])
        refine OwnGo.st (fun _ kk => XS.iconst X65.here hx rfl (hb hby at_189) kk) ?_
        show OwnGo p e below s _ _ _ T65 (mkF m 190 #[.val (.long p1), .second, .val (.long p2), .second, .val (.long p3), .second, .val (.ref b54), .val (.int (1 : Int32)), .val (.int (0 : Int32)), .val (.int (0 : Int32)), .val (.int (0 : Int32)), .val (.int (0 : Int32)), .val (.int (0 : Int32)), .val (.int (1 : Int32)), .val (.long (own_st p1)), .second, .val (.long (own_st p2)), .second, .val (.long (own_st p3)), .second, .val (.int (0 : Int32)), .val (.int (0 : Int32)), .val (.int (1 : Int32))] [(.int (1 : Int32))])
        refine OwnGo.st (fun _ kk => XS.goto X65.here hx rfl (pc0 := 190) (pc' := 194) rfl (hb hby at_190) (by decide) (by decide) kk) ?_
        show OwnGo p e below s _ _ _ T65 (mkF m 194 #[.val (.long p1), .second, .val (.long p2), .second, .val (.long p3), .second, .val (.ref b54), .val (.int (1 : Int32)), .val (.int (0 : Int32)), .val (.int (0 : Int32)), .val (.int (0 : Int32)), .val (.int (0 : Int32)), .val (.int (0 : Int32)), .val (.int (1 : Int32)), .val (.long (own_st p1)), .second, .val (.long (own_st p2)), .second, .val (.long (own_st p3)), .second, .val (.int (0 : Int32)), .val (.int (0 : Int32)), .val (.int (1 : Int32))] [(.int (1 : Int32))])
        exact OwnGo.retN X65 hx (t := .boolean) hret hlk (by simp) (hb hby at_194) (by show Q0 Z p1 p2 p3 h0 n0 _ T65.heap _; rw [e65]; exact ⟨rfl, N65⟩) (by decide) (by decide)
    · have hcn := hcn1
      obtain ⟨cq66, kq66, q66a, q66b, q66c⟩ := isOf hZ rfl E_b54
      obtain ⟨_, _, ⟨T66, L66, k66, n66⟩, -, X66, ⟨Lc66, hQ66, l66, y66, z66⟩, st66⟩ := X56.virtualBack hx (y := (⟨"com/example/utsatt/utsatt/KeyHashes", "add", "(J)Z"⟩ : MethodName)) (z := (⟨"com/example/utsatt/utsatt/KeyHashes", "add", "(J)Z"⟩ : MethodName)) hown (mvT hZ (hw _ (List.mem_of_getElem? (i := 12) rfl))) (mvT hZ (hw _ (List.mem_of_getElem? (i := 13) rfl))) (notFace_of_selects (args := #[]) (mvT hZ (hw _ (List.mem_of_getElem? (i := 15) rfl)))) (mvT hZ (hw _ (List.mem_of_getElem? (i := 15) rfl))) (mvT hZ (hw _ (List.mem_of_getElem? (i := 14) rfl))) (by decide) (backOf (W := 0) (rmaddO l Z a0 hw [] b54 t55 kc55 w56 p2 T56.heap n0 Z_ E_b54 Fs56 V56 hl56 (Nat.lt_of_lt_of_le (by decide) ze_56) (hba ▸ in_p1_56)) hZ (hw _ (List.mem_of_getElem? (i := 16) rfl)) (hw _ (List.mem_of_getElem? (i := 2) rfl)) (by decide) (by decide)) q66a q66c (g := (mkF m 20 #[.val (.long p1), .second, .val (.long p2), .second, .val (.long p3), .second, .val (.ref b54), .val (.int (1 : Int32)), .unset, .unset, .unset, .unset, .unset, .unset, .unset, .unset, .unset, .unset, .unset, .unset, .unset, .unset, .unset] [(.long p2), (.ref b54)])) rfl (by rw [hml]; rfl) (Steps.refl _) (argsL := [(.long p2)]) (rest := []) (lenOf pd_5 rfl) rfl (by show 2 * 0 + _ ≤ _; exact Nat.le_of_eq rfl) (hb hby at_20) (fun _ _ => ⟨rfl, rfl, (by decide : 2 + 0 ≤ _), (by decide : 18 + 0 ≤ _)⟩)
      dsimp only [Pt.U, Pt.locs, Pt.cells, Pt.slots] at X66 l66 y66 z66 st66 hQ66
      subst l66 y66 z66
      obtain ⟨rfl, N66q, e66⟩ := hQ66
      have N66 := Fr.app N56 N66q
      refine OwnGo.st (fun _ kk => st66.trans kk) ?_
      show OwnGo p e below s _ _ _ T66 (mkF m 23 #[.val (.long p1), .second, .val (.long p2), .second, .val (.long p3), .second, .val (.ref b54), .val (.int (1 : Int32)), .unset, .unset, .unset, .unset, .unset, .unset, .unset, .unset, .unset, .unset, .unset, .unset, .unset, .unset, .unset] [(.int (0 : Int32))])
      refine OwnGo.st (fun _ kk => XS.istore X66.here hx rfl (hb hby at_23) rfl (l' := #[.val (.long p1), .second, .val (.long p2), .second, .val (.long p3), .second, .val (.ref b54), .val (.int (1 : Int32)), .val (.int (0 : Int32)), .unset, .unset, .unset, .unset, .unset, .unset, .unset, .unset, .unset, .unset, .unset, .unset, .unset, .unset]) rfl kk) ?_
      show OwnGo p e below s _ _ _ T66 (mkF m 25 #[.val (.long p1), .second, .val (.long p2), .second, .val (.long p3), .second, .val (.ref b54), .val (.int (1 : Int32)), .val (.int (0 : Int32)), .unset, .unset, .unset, .unset, .unset, .unset, .unset, .unset, .unset, .unset, .unset, .unset, .unset, .unset] [])
      refine OwnGo.st (fun _ kk => XS.aload X66.here hx rfl (hb hby at_25) rfl rfl  kk) ?_
      show OwnGo p e below s _ _ _ T66 (mkF m 27 #[.val (.long p1), .second, .val (.long p2), .second, .val (.long p3), .second, .val (.ref b54), .val (.int (1 : Int32)), .val (.int (0 : Int32)), .unset, .unset, .unset, .unset, .unset, .unset, .unset, .unset, .unset, .unset, .unset, .unset, .unset, .unset] [(.ref b54)])
      refine OwnGo.st (fun _ kk => XS.lload X66.here hx rfl (hb hby at_27) rfl  kk) ?_
      show OwnGo p e below s _ _ _ T66 (mkF m 29 #[.val (.long p1), .second, .val (.long p2), .second, .val (.long p3), .second, .val (.ref b54), .val (.int (1 : Int32)), .val (.int (0 : Int32)), .unset, .unset, .unset, .unset, .unset, .unset, .unset, .unset, .unset, .unset, .unset, .unset, .unset, .unset] [(.long p3), (.ref b54)])
      obtain ⟨cq67, kq67, q67a, q67b, q67c⟩ := isOf hZ e66 E_b54
      obtain ⟨_, _, ⟨T67, L67, k67, n67⟩, -, X67, ⟨Lc67, hQ67, l67, y67, z67⟩, st67⟩ := X66.virtualBack hx (y := (⟨"com/example/utsatt/utsatt/KeyHashes", "add", "(J)Z"⟩ : MethodName)) (z := (⟨"com/example/utsatt/utsatt/KeyHashes", "add", "(J)Z"⟩ : MethodName)) hown (mvT hZ (hw _ (List.mem_of_getElem? (i := 12) rfl))) (mvT hZ (hw _ (List.mem_of_getElem? (i := 13) rfl))) (notFace_of_selects (args := #[]) (mvT hZ (hw _ (List.mem_of_getElem? (i := 15) rfl)))) (mvT hZ (hw _ (List.mem_of_getElem? (i := 15) rfl))) (mvT hZ (hw _ (List.mem_of_getElem? (i := 14) rfl))) (by decide) (backOf (W := 0) (rmaddN1 l Z a0 hw [] b54 t55 kc55 w56 p3 T56.heap n0 Z_ E_b54 Fs56 V56 hl56 Fz56 g_b54 g_t55 (Ne.symm ne_b54_t55) (Nat.lt_of_lt_of_le (by decide) ze_56) (own_miss on_56 (own_stn _) (by simp only [List.mem_cons, List.not_mem_nil, or_false]; exact hcn))) hZ (hw _ (List.mem_of_getElem? (i := 16) rfl)) (hw _ (List.mem_of_getElem? (i := 2) rfl)) (by decide) (by decide)) q67a q67c (g := (mkF m 29 #[.val (.long p1), .second, .val (.long p2), .second, .val (.long p3), .second, .val (.ref b54), .val (.int (1 : Int32)), .val (.int (0 : Int32)), .unset, .unset, .unset, .unset, .unset, .unset, .unset, .unset, .unset, .unset, .unset, .unset, .unset, .unset] [(.long p3), (.ref b54)])) rfl (by rw [hml]; rfl) (Steps.refl _) (argsL := [(.long p3)]) (rest := []) (lenOf pd_5 rfl) rfl (by show 2 * 0 + _ ≤ _; exact Nat.le_of_eq rfl) (hb hby at_29) (fun _ _ => ⟨rfl, e66, (by decide : 2 + 0 ≤ _), (by decide : 18 + 0 ≤ _)⟩)
      dsimp only [Pt.U, Pt.locs, Pt.cells, Pt.slots] at X67 l67 y67 z67 st67 hQ67
      subst l67 y67 z67
      obtain ⟨r67, k67, hr67, hz67, hk67, rfl, N67q, K67, Eo67, Fs67, Fz67, V67⟩ := hQ67
      have N67 := Fr.app N66 N67q
      have Z_ : n0 ≤ T67.heap.size := Nat.le_trans Z_ K67.1
      have E_b54 := E_b54.keep K67
      refine OwnGo.st (fun _ kk => st67.trans kk) ?_
      show OwnGo p e below s _ _ _ T67 (mkF m 32 #[.val (.long p1), .second, .val (.long p2), .second, .val (.long p3), .second, .val (.ref b54), .val (.int (1 : Int32)), .val (.int (0 : Int32)), .unset, .unset, .unset, .unset, .unset, .unset, .unset, .unset, .unset, .unset, .unset, .unset, .unset, .unset] [(.int (1 : Int32))])
      obtain ⟨w67, hw67⟩ : ∃ l : List Int64, l = w56.set r67 (own_st p3) := ⟨_, rfl⟩
      rw [← hw67] at V67
      have hl67 : w67.length = 16 := by rw [hw67, List.length_set]; exact hl56
      have in_p1_67 : own_in w67 (own_st p1) := hw67 ▸ own_in_keep (show r67 < List.length w56 by rw [hl56]; exact hr67) hz67 (own_stn _) in_p1_56
      have in_p2_67 : own_in w67 (own_st p2) := hw67 ▸ own_in_keep (show r67 < List.length w56 by rw [hl56]; exact hr67) hz67 (own_stn _) (hba ▸ in_p1_56)
      have in_p3_67 : own_in w67 (own_st p3) := hw67 ▸ own_in_new (show r67 < List.length w56 by rw [hl56]; exact hr67) hz67 hk67
      have on_67 : own_only w67 ((own_st p3) :: ((own_st p1) :: [])) := hw67 ▸ own_only_set (show r67 < List.length w56 by rw [hl56]; exact hr67) on_56
      have ze_67 : 14 ≤ own_zeros w67 := by have q := own_zeros_set (own_st p3) w56 r67; rw [← hw67] at q; have q' := ze_56; omega
      refine OwnGo.st (fun _ kk => XS.istore X67.here hx rfl (hb hby at_32) rfl (l' := #[.val (.long p1), .second, .val (.long p2), .second, .val (.long p3), .second, .val (.ref b54), .val (.int (1 : Int32)), .val (.int (0 : Int32)), .val (.int (1 : Int32)), .unset, .unset, .unset, .unset, .unset, .unset, .unset, .unset, .unset, .unset, .unset, .unset, .unset]) rfl kk) ?_
      show OwnGo p e below s _ _ _ T67 (mkF m 34 #[.val (.long p1), .second, .val (.long p2), .second, .val (.long p3), .second, .val (.ref b54), .val (.int (1 : Int32)), .val (.int (0 : Int32)), .val (.int (1 : Int32)), .unset, .unset, .unset, .unset, .unset, .unset, .unset, .unset, .unset, .unset, .unset, .unset, .unset] [])
      refine OwnGo.st (fun _ kk => XS.aload X67.here hx rfl (hb hby at_34) rfl rfl  kk) ?_
      show OwnGo p e below s _ _ _ T67 (mkF m 36 #[.val (.long p1), .second, .val (.long p2), .second, .val (.long p3), .second, .val (.ref b54), .val (.int (1 : Int32)), .val (.int (0 : Int32)), .val (.int (1 : Int32)), .unset, .unset, .unset, .unset, .unset, .unset, .unset, .unset, .unset, .unset, .unset, .unset, .unset] [(.ref b54)])
      refine OwnGo.st (fun _ kk => XS.lloadN X67.here hx rfl (hb hby at_36) rfl  kk) ?_
      show OwnGo p e below s _ _ _ T67 (mkF m 37 #[.val (.long p1), .second, .val (.long p2), .second, .val (.long p3), .second, .val (.ref b54), .val (.int (1 : Int32)), .val (.int (0 : Int32)), .val (.int (1 : Int32)), .unset, .unset, .unset, .unset, .unset, .unset, .unset, .unset, .unset, .unset, .unset, .unset, .unset] [(.long p1), (.ref b54)])
      obtain ⟨cq68, kq68, q68a, q68b, q68c⟩ := isOf hZ rfl E_b54
      obtain ⟨_, _, ⟨T68, L68, k68, n68⟩, -, X68, ⟨Lc68, hQ68, l68, y68, z68⟩, st68⟩ := X67.virtualBack hx (y := (⟨"com/example/utsatt/utsatt/KeyHashes", "add", "(J)Z"⟩ : MethodName)) (z := (⟨"com/example/utsatt/utsatt/KeyHashes", "add", "(J)Z"⟩ : MethodName)) hown (mvT hZ (hw _ (List.mem_of_getElem? (i := 12) rfl))) (mvT hZ (hw _ (List.mem_of_getElem? (i := 13) rfl))) (notFace_of_selects (args := #[]) (mvT hZ (hw _ (List.mem_of_getElem? (i := 15) rfl)))) (mvT hZ (hw _ (List.mem_of_getElem? (i := 15) rfl))) (mvT hZ (hw _ (List.mem_of_getElem? (i := 14) rfl))) (by decide) (backOf (W := 0) (rmaddO l Z a0 hw [] b54 t55 kc55 w67 p1 T67.heap n0 Z_ E_b54 Fs67 V67 hl67 (Nat.lt_of_lt_of_le (by decide) ze_67) in_p1_67) hZ (hw _ (List.mem_of_getElem? (i := 16) rfl)) (hw _ (List.mem_of_getElem? (i := 2) rfl)) (by decide) (by decide)) q68a q68c (g := (mkF m 37 #[.val (.long p1), .second, .val (.long p2), .second, .val (.long p3), .second, .val (.ref b54), .val (.int (1 : Int32)), .val (.int (0 : Int32)), .val (.int (1 : Int32)), .unset, .unset, .unset, .unset, .unset, .unset, .unset, .unset, .unset, .unset, .unset, .unset, .unset] [(.long p1), (.ref b54)])) rfl (by rw [hml]; rfl) (Steps.refl _) (argsL := [(.long p1)]) (rest := []) (lenOf pd_5 rfl) rfl (by show 2 * 0 + _ ≤ _; exact Nat.le_of_eq rfl) (hb hby at_37) (fun _ _ => ⟨rfl, rfl, (by decide : 2 + 0 ≤ _), (by decide : 18 + 0 ≤ _)⟩)
      dsimp only [Pt.U, Pt.locs, Pt.cells, Pt.slots] at X68 l68 y68 z68 st68 hQ68
      subst l68 y68 z68
      obtain ⟨rfl, N68q, e68⟩ := hQ68
      have N68 := Fr.app N67 N68q
      refine OwnGo.st (fun _ kk => st68.trans kk) ?_
      show OwnGo p e below s _ _ _ T68 (mkF m 40 #[.val (.long p1), .second, .val (.long p2), .second, .val (.long p3), .second, .val (.ref b54), .val (.int (1 : Int32)), .val (.int (0 : Int32)), .val (.int (1 : Int32)), .unset, .unset, .unset, .unset, .unset, .unset, .unset, .unset, .unset, .unset, .unset, .unset, .unset] [(.int (0 : Int32))])
      refine OwnGo.st (fun _ kk => XS.istore X68.here hx rfl (hb hby at_40) rfl (l' := #[.val (.long p1), .second, .val (.long p2), .second, .val (.long p3), .second, .val (.ref b54), .val (.int (1 : Int32)), .val (.int (0 : Int32)), .val (.int (1 : Int32)), .val (.int (0 : Int32)), .unset, .unset, .unset, .unset, .unset, .unset, .unset, .unset, .unset, .unset, .unset, .unset]) rfl kk) ?_
      show OwnGo p e below s _ _ _ T68 (mkF m 42 #[.val (.long p1), .second, .val (.long p2), .second, .val (.long p3), .second, .val (.ref b54), .val (.int (1 : Int32)), .val (.int (0 : Int32)), .val (.int (1 : Int32)), .val (.int (0 : Int32)), .unset, .unset, .unset, .unset, .unset, .unset, .unset, .unset, .unset, .unset, .unset, .unset] [])
      refine OwnGo.st (fun _ kk => XS.aload X68.here hx rfl (hb hby at_42) rfl rfl  kk) ?_
      show OwnGo p e below s _ _ _ T68 (mkF m 44 #[.val (.long p1), .second, .val (.long p2), .second, .val (.long p3), .second, .val (.ref b54), .val (.int (1 : Int32)), .val (.int (0 : Int32)), .val (.int (1 : Int32)), .val (.int (0 : Int32)), .unset, .unset, .unset, .unset, .unset, .unset, .unset, .unset, .unset, .unset, .unset, .unset] [(.ref b54)])
      refine OwnGo.st (fun _ kk => XS.lloadN X68.here hx rfl (hb hby at_44) rfl  kk) ?_
      show OwnGo p e below s _ _ _ T68 (mkF m 45 #[.val (.long p1), .second, .val (.long p2), .second, .val (.long p3), .second, .val (.ref b54), .val (.int (1 : Int32)), .val (.int (0 : Int32)), .val (.int (1 : Int32)), .val (.int (0 : Int32)), .unset, .unset, .unset, .unset, .unset, .unset, .unset, .unset, .unset, .unset, .unset, .unset] [(.long p2), (.ref b54)])
      have in_p2 : own_in w67 (own_st p2) := hba.symm ▸ in_p1_67
      obtain ⟨cq69, kq69, q69a, q69b, q69c⟩ := isOf hZ e68 E_b54
      obtain ⟨_, _, ⟨T69, L69, k69, n69⟩, -, X69, ⟨Lc69, hQ69, l69, y69, z69⟩, st69⟩ := X68.virtualBack hx (y := (⟨"com/example/utsatt/utsatt/KeyHashes", "add", "(J)Z"⟩ : MethodName)) (z := (⟨"com/example/utsatt/utsatt/KeyHashes", "add", "(J)Z"⟩ : MethodName)) hown (mvT hZ (hw _ (List.mem_of_getElem? (i := 12) rfl))) (mvT hZ (hw _ (List.mem_of_getElem? (i := 13) rfl))) (notFace_of_selects (args := #[]) (mvT hZ (hw _ (List.mem_of_getElem? (i := 15) rfl)))) (mvT hZ (hw _ (List.mem_of_getElem? (i := 15) rfl))) (mvT hZ (hw _ (List.mem_of_getElem? (i := 14) rfl))) (by decide) (backOf (W := 0) (rmaddO l Z a0 hw [] b54 t55 kc55 w67 p2 T67.heap n0 Z_ E_b54 Fs67 V67 hl67 (Nat.lt_of_lt_of_le (by decide) ze_67) in_p2) hZ (hw _ (List.mem_of_getElem? (i := 16) rfl)) (hw _ (List.mem_of_getElem? (i := 2) rfl)) (by decide) (by decide)) q69a q69c (g := (mkF m 45 #[.val (.long p1), .second, .val (.long p2), .second, .val (.long p3), .second, .val (.ref b54), .val (.int (1 : Int32)), .val (.int (0 : Int32)), .val (.int (1 : Int32)), .val (.int (0 : Int32)), .unset, .unset, .unset, .unset, .unset, .unset, .unset, .unset, .unset, .unset, .unset, .unset] [(.long p2), (.ref b54)])) rfl (by rw [hml]; rfl) (Steps.refl _) (argsL := [(.long p2)]) (rest := []) (lenOf pd_5 rfl) rfl (by show 2 * 0 + _ ≤ _; exact Nat.le_of_eq rfl) (hb hby at_45) (fun _ _ => ⟨rfl, e68, (by decide : 2 + 0 ≤ _), (by decide : 18 + 0 ≤ _)⟩)
      dsimp only [Pt.U, Pt.locs, Pt.cells, Pt.slots] at X69 l69 y69 z69 st69 hQ69
      subst l69 y69 z69
      obtain ⟨rfl, N69q, e69⟩ := hQ69
      have N69 := Fr.app N68 N69q
      refine OwnGo.st (fun _ kk => st69.trans kk) ?_
      show OwnGo p e below s _ _ _ T69 (mkF m 48 #[.val (.long p1), .second, .val (.long p2), .second, .val (.long p3), .second, .val (.ref b54), .val (.int (1 : Int32)), .val (.int (0 : Int32)), .val (.int (1 : Int32)), .val (.int (0 : Int32)), .unset, .unset, .unset, .unset, .unset, .unset, .unset, .unset, .unset, .unset, .unset, .unset] [(.int (0 : Int32))])
      refine OwnGo.st (fun _ kk => XS.istore X69.here hx rfl (hb hby at_48) rfl (l' := #[.val (.long p1), .second, .val (.long p2), .second, .val (.long p3), .second, .val (.ref b54), .val (.int (1 : Int32)), .val (.int (0 : Int32)), .val (.int (1 : Int32)), .val (.int (0 : Int32)), .val (.int (0 : Int32)), .unset, .unset, .unset, .unset, .unset, .unset, .unset, .unset, .unset, .unset, .unset]) rfl kk) ?_
      show OwnGo p e below s _ _ _ T69 (mkF m 50 #[.val (.long p1), .second, .val (.long p2), .second, .val (.long p3), .second, .val (.ref b54), .val (.int (1 : Int32)), .val (.int (0 : Int32)), .val (.int (1 : Int32)), .val (.int (0 : Int32)), .val (.int (0 : Int32)), .unset, .unset, .unset, .unset, .unset, .unset, .unset, .unset, .unset, .unset, .unset] [])
      refine OwnGo.st (fun _ kk => XS.aload X69.here hx rfl (hb hby at_50) rfl rfl  kk) ?_
      show OwnGo p e below s _ _ _ T69 (mkF m 52 #[.val (.long p1), .second, .val (.long p2), .second, .val (.long p3), .second, .val (.ref b54), .val (.int (1 : Int32)), .val (.int (0 : Int32)), .val (.int (1 : Int32)), .val (.int (0 : Int32)), .val (.int (0 : Int32)), .unset, .unset, .unset, .unset, .unset, .unset, .unset, .unset, .unset, .unset, .unset] [(.ref b54)])
      refine OwnGo.st (fun _ kk => XS.lload X69.here hx rfl (hb hby at_52) rfl  kk) ?_
      show OwnGo p e below s _ _ _ T69 (mkF m 54 #[.val (.long p1), .second, .val (.long p2), .second, .val (.long p3), .second, .val (.ref b54), .val (.int (1 : Int32)), .val (.int (0 : Int32)), .val (.int (1 : Int32)), .val (.int (0 : Int32)), .val (.int (0 : Int32)), .unset, .unset, .unset, .unset, .unset, .unset, .unset, .unset, .unset, .unset, .unset] [(.long p3), (.ref b54)])
      obtain ⟨cq70, kq70, q70a, q70b, q70c⟩ := isOf hZ e69 E_b54
      obtain ⟨_, _, ⟨T70, L70, k70, n70⟩, -, X70, ⟨Lc70, hQ70, l70, y70, z70⟩, st70⟩ := X69.virtualBack hx (y := (⟨"com/example/utsatt/utsatt/KeyHashes", "add", "(J)Z"⟩ : MethodName)) (z := (⟨"com/example/utsatt/utsatt/KeyHashes", "add", "(J)Z"⟩ : MethodName)) hown (mvT hZ (hw _ (List.mem_of_getElem? (i := 12) rfl))) (mvT hZ (hw _ (List.mem_of_getElem? (i := 13) rfl))) (notFace_of_selects (args := #[]) (mvT hZ (hw _ (List.mem_of_getElem? (i := 15) rfl)))) (mvT hZ (hw _ (List.mem_of_getElem? (i := 15) rfl))) (mvT hZ (hw _ (List.mem_of_getElem? (i := 14) rfl))) (by decide) (backOf (W := 0) (rmaddO l Z a0 hw [] b54 t55 kc55 w67 p3 T67.heap n0 Z_ E_b54 Fs67 V67 hl67 (Nat.lt_of_lt_of_le (by decide) ze_67) in_p3_67) hZ (hw _ (List.mem_of_getElem? (i := 16) rfl)) (hw _ (List.mem_of_getElem? (i := 2) rfl)) (by decide) (by decide)) q70a q70c (g := (mkF m 54 #[.val (.long p1), .second, .val (.long p2), .second, .val (.long p3), .second, .val (.ref b54), .val (.int (1 : Int32)), .val (.int (0 : Int32)), .val (.int (1 : Int32)), .val (.int (0 : Int32)), .val (.int (0 : Int32)), .unset, .unset, .unset, .unset, .unset, .unset, .unset, .unset, .unset, .unset, .unset] [(.long p3), (.ref b54)])) rfl (by rw [hml]; rfl) (Steps.refl _) (argsL := [(.long p3)]) (rest := []) (lenOf pd_5 rfl) rfl (by show 2 * 0 + _ ≤ _; exact Nat.le_of_eq rfl) (hb hby at_54) (fun _ _ => ⟨rfl, e69, (by decide : 2 + 0 ≤ _), (by decide : 18 + 0 ≤ _)⟩)
      dsimp only [Pt.U, Pt.locs, Pt.cells, Pt.slots] at X70 l70 y70 z70 st70 hQ70
      subst l70 y70 z70
      obtain ⟨rfl, N70q, e70⟩ := hQ70
      have N70 := Fr.app N69 N70q
      refine OwnGo.st (fun _ kk => st70.trans kk) ?_
      show OwnGo p e below s _ _ _ T70 (mkF m 57 #[.val (.long p1), .second, .val (.long p2), .second, .val (.long p3), .second, .val (.ref b54), .val (.int (1 : Int32)), .val (.int (0 : Int32)), .val (.int (1 : Int32)), .val (.int (0 : Int32)), .val (.int (0 : Int32)), .unset, .unset, .unset, .unset, .unset, .unset, .unset, .unset, .unset, .unset, .unset] [(.int (0 : Int32))])
      refine OwnGo.st (fun _ kk => XS.istore X70.here hx rfl (hb hby at_57) rfl (l' := #[.val (.long p1), .second, .val (.long p2), .second, .val (.long p3), .second, .val (.ref b54), .val (.int (1 : Int32)), .val (.int (0 : Int32)), .val (.int (1 : Int32)), .val (.int (0 : Int32)), .val (.int (0 : Int32)), .val (.int (0 : Int32)), .unset, .unset, .unset, .unset, .unset, .unset, .unset, .unset, .unset, .unset]) rfl kk) ?_
      show OwnGo p e below s _ _ _ T70 (mkF m 59 #[.val (.long p1), .second, .val (.long p2), .second, .val (.long p3), .second, .val (.ref b54), .val (.int (1 : Int32)), .val (.int (0 : Int32)), .val (.int (1 : Int32)), .val (.int (0 : Int32)), .val (.int (0 : Int32)), .val (.int (0 : Int32)), .unset, .unset, .unset, .unset, .unset, .unset, .unset, .unset, .unset, .unset] [])
      refine OwnGo.st (fun _ kk => XS.aload X70.here hx rfl (hb hby at_59) rfl rfl  kk) ?_
      show OwnGo p e below s _ _ _ T70 (mkF m 61 #[.val (.long p1), .second, .val (.long p2), .second, .val (.long p3), .second, .val (.ref b54), .val (.int (1 : Int32)), .val (.int (0 : Int32)), .val (.int (1 : Int32)), .val (.int (0 : Int32)), .val (.int (0 : Int32)), .val (.int (0 : Int32)), .unset, .unset, .unset, .unset, .unset, .unset, .unset, .unset, .unset, .unset] [(.ref b54)])
      obtain ⟨cq71, kq71, q71a, q71b, q71c⟩ := isOf hZ e70 E_b54
      obtain ⟨_, _, ⟨T71, L71, k71, n71⟩, -, X71, ⟨Lc71, hQ71, l71, y71, z71⟩, st71⟩ := X70.virtualBack hx (y := (⟨"com/example/utsatt/utsatt/KeyHashes", "size", "()I"⟩ : MethodName)) (z := (⟨"com/example/utsatt/utsatt/KeyHashes", "size", "()I"⟩ : MethodName)) hown (mvT hZ (hw _ (List.mem_of_getElem? (i := 34) rfl))) (mvT hZ (hw _ (List.mem_of_getElem? (i := 35) rfl))) (notFace_of_selects (args := #[]) (mvT hZ (hw _ (List.mem_of_getElem? (i := 37) rfl)))) (mvT hZ (hw _ (List.mem_of_getElem? (i := 37) rfl))) (mvT hZ (hw _ (List.mem_of_getElem? (i := 36) rfl))) (by decide) (backOf (W := 0) (rmsiz l Z a0 hw [] b54 (2 : Int32) T67.heap n0 Z_ Fz67) hZ (hw _ (List.mem_of_getElem? (i := 38) rfl)) (hw _ (List.mem_of_getElem? (i := 2) rfl)) (by decide) (by decide)) q71a q71c (g := (mkF m 61 #[.val (.long p1), .second, .val (.long p2), .second, .val (.long p3), .second, .val (.ref b54), .val (.int (1 : Int32)), .val (.int (0 : Int32)), .val (.int (1 : Int32)), .val (.int (0 : Int32)), .val (.int (0 : Int32)), .val (.int (0 : Int32)), .unset, .unset, .unset, .unset, .unset, .unset, .unset, .unset, .unset, .unset] [(.ref b54)])) rfl (by rw [hml]; rfl) (Steps.refl _) (argsL := []) (rest := []) (lenOf pd_6 rfl) rfl (by show 2 * 0 + _ ≤ _; exact Nat.le_of_eq rfl) (hb hby at_61) (fun _ _ => ⟨rfl, e70, (by decide : 2 + 0 ≤ _), (by decide : 18 + 0 ≤ _)⟩)
      dsimp only [Pt.U, Pt.locs, Pt.cells, Pt.slots] at X71 l71 y71 z71 st71 hQ71
      subst l71 y71 z71
      obtain ⟨rfl, N71q, e71⟩ := hQ71
      have N71 := Fr.app N70 N71q
      refine OwnGo.st (fun _ kk => st71.trans kk) ?_
      show OwnGo p e below s _ _ _ T71 (mkF m 64 #[.val (.long p1), .second, .val (.long p2), .second, .val (.long p3), .second, .val (.ref b54), .val (.int (1 : Int32)), .val (.int (0 : Int32)), .val (.int (1 : Int32)), .val (.int (0 : Int32)), .val (.int (0 : Int32)), .val (.int (0 : Int32)), .unset, .unset, .unset, .unset, .unset, .unset, .unset, .unset, .unset, .unset] [(.int (2 : Int32))])
      refine OwnGo.st (fun _ kk => XS.istore X71.here hx rfl (hb hby at_64) rfl (l' := #[.val (.long p1), .second, .val (.long p2), .second, .val (.long p3), .second, .val (.ref b54), .val (.int (1 : Int32)), .val (.int (0 : Int32)), .val (.int (1 : Int32)), .val (.int (0 : Int32)), .val (.int (0 : Int32)), .val (.int (0 : Int32)), .val (.int (2 : Int32)), .unset, .unset, .unset, .unset, .unset, .unset, .unset, .unset, .unset]) rfl kk) ?_
      show OwnGo p e below s _ _ _ T71 (mkF m 66 #[.val (.long p1), .second, .val (.long p2), .second, .val (.long p3), .second, .val (.ref b54), .val (.int (1 : Int32)), .val (.int (0 : Int32)), .val (.int (1 : Int32)), .val (.int (0 : Int32)), .val (.int (0 : Int32)), .val (.int (0 : Int32)), .val (.int (2 : Int32)), .unset, .unset, .unset, .unset, .unset, .unset, .unset, .unset, .unset] [])
      refine OwnGo.st (fun _ kk => XS.lloadN X71.here hx rfl (hb hby at_66) rfl  kk) ?_
      show OwnGo p e below s _ _ _ T71 (mkF m 67 #[.val (.long p1), .second, .val (.long p2), .second, .val (.long p3), .second, .val (.ref b54), .val (.int (1 : Int32)), .val (.int (0 : Int32)), .val (.int (1 : Int32)), .val (.int (0 : Int32)), .val (.int (0 : Int32)), .val (.int (0 : Int32)), .val (.int (2 : Int32)), .unset, .unset, .unset, .unset, .unset, .unset, .unset, .unset, .unset] [(.long p1)])
      obtain ⟨_, _, ⟨T72, L72, k72, n72⟩, -, X72, ⟨Lc72, hQ72, l72, y72, z72⟩, st72⟩ := Jvm.LawKit.callS X71 hx (y := (⟨"com/example/utsatt/utsatt/KeyHashesAddPinLaw", "norm", "(J)J"⟩ : MethodName)) hown (mvT hZ (hw _ (List.mem_of_getElem? (i := 39) rfl))) (mvT hZ (hw _ (List.mem_of_getElem? (i := 40) rfl))) (mvT hZ (hw _ (List.mem_of_getElem? (i := 41) rfl))) (mvT hZ (hw _ (List.mem_of_getElem? (i := 42) rfl))) (by decide) (backOf (W := 0) (rmnrm l Z a0 hw [] p1 T67.heap n0 Z_ ) hZ (hw _ (List.mem_of_getElem? (i := 42) rfl)) (hw _ (List.mem_of_getElem? (i := 41) rfl)) (by decide) (by decide)) (g := (mkF m 67 #[.val (.long p1), .second, .val (.long p2), .second, .val (.long p3), .second, .val (.ref b54), .val (.int (1 : Int32)), .val (.int (0 : Int32)), .val (.int (1 : Int32)), .val (.int (0 : Int32)), .val (.int (0 : Int32)), .val (.int (0 : Int32)), .val (.int (2 : Int32)), .unset, .unset, .unset, .unset, .unset, .unset, .unset, .unset, .unset] [(.long p1)])) rfl (by rw [hml]; rfl) (argsL := [(.long p1)]) (rest := []) (lenOf pd_2 rfl) rfl (by show 2 * 0 + _ ≤ _; exact Nat.le_of_eq rfl) (hb hby at_67) (fun _ _ => ⟨rfl, e71, (by decide : 2 + 0 ≤ _), (by decide : 18 + 0 ≤ _)⟩)
      dsimp only [Pt.U, Pt.locs, Pt.cells, Pt.slots] at X72 l72 y72 z72 st72 hQ72
      subst l72 y72 z72
      obtain ⟨rfl, N72q, e72⟩ := hQ72
      have N72 := Fr.app N71 N72q
      refine OwnGo.st st72 ?_
      show OwnGo p e below s _ _ _ T72 (mkF m 70 #[.val (.long p1), .second, .val (.long p2), .second, .val (.long p3), .second, .val (.ref b54), .val (.int (1 : Int32)), .val (.int (0 : Int32)), .val (.int (1 : Int32)), .val (.int (0 : Int32)), .val (.int (0 : Int32)), .val (.int (0 : Int32)), .val (.int (2 : Int32)), .unset, .unset, .unset, .unset, .unset, .unset, .unset, .unset, .unset] [(.long (own_st p1))])
      refine OwnGo.st (fun _ kk => XS.lstore X72.here hx rfl (hb hby at_70) rfl (l' := #[.val (.long p1), .second, .val (.long p2), .second, .val (.long p3), .second, .val (.ref b54), .val (.int (1 : Int32)), .val (.int (0 : Int32)), .val (.int (1 : Int32)), .val (.int (0 : Int32)), .val (.int (0 : Int32)), .val (.int (0 : Int32)), .val (.int (2 : Int32)), .val (.long (own_st p1)), .second, .unset, .unset, .unset, .unset, .unset, .unset, .unset]) rfl kk) ?_
      show OwnGo p e below s _ _ _ T72 (mkF m 72 #[.val (.long p1), .second, .val (.long p2), .second, .val (.long p3), .second, .val (.ref b54), .val (.int (1 : Int32)), .val (.int (0 : Int32)), .val (.int (1 : Int32)), .val (.int (0 : Int32)), .val (.int (0 : Int32)), .val (.int (0 : Int32)), .val (.int (2 : Int32)), .val (.long (own_st p1)), .second, .unset, .unset, .unset, .unset, .unset, .unset, .unset] [])
      refine OwnGo.st (fun _ kk => XS.lloadN X72.here hx rfl (hb hby at_72) rfl  kk) ?_
      show OwnGo p e below s _ _ _ T72 (mkF m 73 #[.val (.long p1), .second, .val (.long p2), .second, .val (.long p3), .second, .val (.ref b54), .val (.int (1 : Int32)), .val (.int (0 : Int32)), .val (.int (1 : Int32)), .val (.int (0 : Int32)), .val (.int (0 : Int32)), .val (.int (0 : Int32)), .val (.int (2 : Int32)), .val (.long (own_st p1)), .second, .unset, .unset, .unset, .unset, .unset, .unset, .unset] [(.long p2)])
      obtain ⟨_, _, ⟨T73, L73, k73, n73⟩, -, X73, ⟨Lc73, hQ73, l73, y73, z73⟩, st73⟩ := Jvm.LawKit.callS X72 hx (y := (⟨"com/example/utsatt/utsatt/KeyHashesAddPinLaw", "norm", "(J)J"⟩ : MethodName)) hown (mvT hZ (hw _ (List.mem_of_getElem? (i := 39) rfl))) (mvT hZ (hw _ (List.mem_of_getElem? (i := 40) rfl))) (mvT hZ (hw _ (List.mem_of_getElem? (i := 41) rfl))) (mvT hZ (hw _ (List.mem_of_getElem? (i := 42) rfl))) (by decide) (backOf (W := 0) (rmnrm l Z a0 hw [] p2 T67.heap n0 Z_ ) hZ (hw _ (List.mem_of_getElem? (i := 42) rfl)) (hw _ (List.mem_of_getElem? (i := 41) rfl)) (by decide) (by decide)) (g := (mkF m 73 #[.val (.long p1), .second, .val (.long p2), .second, .val (.long p3), .second, .val (.ref b54), .val (.int (1 : Int32)), .val (.int (0 : Int32)), .val (.int (1 : Int32)), .val (.int (0 : Int32)), .val (.int (0 : Int32)), .val (.int (0 : Int32)), .val (.int (2 : Int32)), .val (.long (own_st p1)), .second, .unset, .unset, .unset, .unset, .unset, .unset, .unset] [(.long p2)])) rfl (by rw [hml]; rfl) (argsL := [(.long p2)]) (rest := []) (lenOf pd_2 rfl) rfl (by show 2 * 0 + _ ≤ _; exact Nat.le_of_eq rfl) (hb hby at_73) (fun _ _ => ⟨rfl, e72, (by decide : 2 + 0 ≤ _), (by decide : 18 + 0 ≤ _)⟩)
      dsimp only [Pt.U, Pt.locs, Pt.cells, Pt.slots] at X73 l73 y73 z73 st73 hQ73
      subst l73 y73 z73
      obtain ⟨rfl, N73q, e73⟩ := hQ73
      have N73 := Fr.app N72 N73q
      refine OwnGo.st st73 ?_
      show OwnGo p e below s _ _ _ T73 (mkF m 76 #[.val (.long p1), .second, .val (.long p2), .second, .val (.long p3), .second, .val (.ref b54), .val (.int (1 : Int32)), .val (.int (0 : Int32)), .val (.int (1 : Int32)), .val (.int (0 : Int32)), .val (.int (0 : Int32)), .val (.int (0 : Int32)), .val (.int (2 : Int32)), .val (.long (own_st p1)), .second, .unset, .unset, .unset, .unset, .unset, .unset, .unset] [(.long (own_st p2))])
      refine OwnGo.st (fun _ kk => XS.lstore X73.here hx rfl (hb hby at_76) rfl (l' := #[.val (.long p1), .second, .val (.long p2), .second, .val (.long p3), .second, .val (.ref b54), .val (.int (1 : Int32)), .val (.int (0 : Int32)), .val (.int (1 : Int32)), .val (.int (0 : Int32)), .val (.int (0 : Int32)), .val (.int (0 : Int32)), .val (.int (2 : Int32)), .val (.long (own_st p1)), .second, .val (.long (own_st p2)), .second, .unset, .unset, .unset, .unset, .unset]) rfl kk) ?_
      show OwnGo p e below s _ _ _ T73 (mkF m 78 #[.val (.long p1), .second, .val (.long p2), .second, .val (.long p3), .second, .val (.ref b54), .val (.int (1 : Int32)), .val (.int (0 : Int32)), .val (.int (1 : Int32)), .val (.int (0 : Int32)), .val (.int (0 : Int32)), .val (.int (0 : Int32)), .val (.int (2 : Int32)), .val (.long (own_st p1)), .second, .val (.long (own_st p2)), .second, .unset, .unset, .unset, .unset, .unset] [])
      refine OwnGo.st (fun _ kk => XS.lload X73.here hx rfl (hb hby at_78) rfl  kk) ?_
      show OwnGo p e below s _ _ _ T73 (mkF m 80 #[.val (.long p1), .second, .val (.long p2), .second, .val (.long p3), .second, .val (.ref b54), .val (.int (1 : Int32)), .val (.int (0 : Int32)), .val (.int (1 : Int32)), .val (.int (0 : Int32)), .val (.int (0 : Int32)), .val (.int (0 : Int32)), .val (.int (2 : Int32)), .val (.long (own_st p1)), .second, .val (.long (own_st p2)), .second, .unset, .unset, .unset, .unset, .unset] [(.long p3)])
      obtain ⟨_, _, ⟨T74, L74, k74, n74⟩, -, X74, ⟨Lc74, hQ74, l74, y74, z74⟩, st74⟩ := Jvm.LawKit.callS X73 hx (y := (⟨"com/example/utsatt/utsatt/KeyHashesAddPinLaw", "norm", "(J)J"⟩ : MethodName)) hown (mvT hZ (hw _ (List.mem_of_getElem? (i := 39) rfl))) (mvT hZ (hw _ (List.mem_of_getElem? (i := 40) rfl))) (mvT hZ (hw _ (List.mem_of_getElem? (i := 41) rfl))) (mvT hZ (hw _ (List.mem_of_getElem? (i := 42) rfl))) (by decide) (backOf (W := 0) (rmnrm l Z a0 hw [] p3 T67.heap n0 Z_ ) hZ (hw _ (List.mem_of_getElem? (i := 42) rfl)) (hw _ (List.mem_of_getElem? (i := 41) rfl)) (by decide) (by decide)) (g := (mkF m 80 #[.val (.long p1), .second, .val (.long p2), .second, .val (.long p3), .second, .val (.ref b54), .val (.int (1 : Int32)), .val (.int (0 : Int32)), .val (.int (1 : Int32)), .val (.int (0 : Int32)), .val (.int (0 : Int32)), .val (.int (0 : Int32)), .val (.int (2 : Int32)), .val (.long (own_st p1)), .second, .val (.long (own_st p2)), .second, .unset, .unset, .unset, .unset, .unset] [(.long p3)])) rfl (by rw [hml]; rfl) (argsL := [(.long p3)]) (rest := []) (lenOf pd_2 rfl) rfl (by show 2 * 0 + _ ≤ _; exact Nat.le_of_eq rfl) (hb hby at_80) (fun _ _ => ⟨rfl, e73, (by decide : 2 + 0 ≤ _), (by decide : 18 + 0 ≤ _)⟩)
      dsimp only [Pt.U, Pt.locs, Pt.cells, Pt.slots] at X74 l74 y74 z74 st74 hQ74
      subst l74 y74 z74
      obtain ⟨rfl, N74q, e74⟩ := hQ74
      have N74 := Fr.app N73 N74q
      refine OwnGo.st st74 ?_
      show OwnGo p e below s _ _ _ T74 (mkF m 83 #[.val (.long p1), .second, .val (.long p2), .second, .val (.long p3), .second, .val (.ref b54), .val (.int (1 : Int32)), .val (.int (0 : Int32)), .val (.int (1 : Int32)), .val (.int (0 : Int32)), .val (.int (0 : Int32)), .val (.int (0 : Int32)), .val (.int (2 : Int32)), .val (.long (own_st p1)), .second, .val (.long (own_st p2)), .second, .unset, .unset, .unset, .unset, .unset] [(.long (own_st p3))])
      refine OwnGo.st (fun _ kk => XS.lstore X74.here hx rfl (hb hby at_83) rfl (l' := #[.val (.long p1), .second, .val (.long p2), .second, .val (.long p3), .second, .val (.ref b54), .val (.int (1 : Int32)), .val (.int (0 : Int32)), .val (.int (1 : Int32)), .val (.int (0 : Int32)), .val (.int (0 : Int32)), .val (.int (0 : Int32)), .val (.int (2 : Int32)), .val (.long (own_st p1)), .second, .val (.long (own_st p2)), .second, .val (.long (own_st p3)), .second, .unset, .unset, .unset]) rfl kk) ?_
      show OwnGo p e below s _ _ _ T74 (mkF m 85 #[.val (.long p1), .second, .val (.long p2), .second, .val (.long p3), .second, .val (.ref b54), .val (.int (1 : Int32)), .val (.int (0 : Int32)), .val (.int (1 : Int32)), .val (.int (0 : Int32)), .val (.int (0 : Int32)), .val (.int (0 : Int32)), .val (.int (2 : Int32)), .val (.long (own_st p1)), .second, .val (.long (own_st p2)), .second, .val (.long (own_st p3)), .second, .unset, .unset, .unset] [])
      refine OwnGo.st (fun _ kk => XS.lload X74.here hx rfl (hb hby at_85) rfl  kk) ?_
      show OwnGo p e below s _ _ _ T74 (mkF m 87 #[.val (.long p1), .second, .val (.long p2), .second, .val (.long p3), .second, .val (.ref b54), .val (.int (1 : Int32)), .val (.int (0 : Int32)), .val (.int (1 : Int32)), .val (.int (0 : Int32)), .val (.int (0 : Int32)), .val (.int (0 : Int32)), .val (.int (2 : Int32)), .val (.long (own_st p1)), .second, .val (.long (own_st p2)), .second, .val (.long (own_st p3)), .second, .unset, .unset, .unset] [(.long (own_st p2))])
      refine OwnGo.st (fun _ kk => XS.lload X74.here hx rfl (hb hby at_87) rfl  kk) ?_
      show OwnGo p e below s _ _ _ T74 (mkF m 89 #[.val (.long p1), .second, .val (.long p2), .second, .val (.long p3), .second, .val (.ref b54), .val (.int (1 : Int32)), .val (.int (0 : Int32)), .val (.int (1 : Int32)), .val (.int (0 : Int32)), .val (.int (0 : Int32)), .val (.int (0 : Int32)), .val (.int (2 : Int32)), .val (.long (own_st p1)), .second, .val (.long (own_st p2)), .second, .val (.long (own_st p3)), .second, .unset, .unset, .unset] [(.long (own_st p1)), (.long (own_st p2))])
      refine OwnGo.st (fun _ kk => XS.lcmp X74.here hx rfl (hb hby at_89) rfl kk) ?_
      show OwnGo p e below s _ _ _ T74 (mkF m 90 #[.val (.long p1), .second, .val (.long p2), .second, .val (.long p3), .second, .val (.ref b54), .val (.int (1 : Int32)), .val (.int (0 : Int32)), .val (.int (1 : Int32)), .val (.int (0 : Int32)), .val (.int (0 : Int32)), .val (.int (0 : Int32)), .val (.int (2 : Int32)), .val (.long (own_st p1)), .second, .val (.long (own_st p2)), .second, .val (.long (own_st p3)), .second, .unset, .unset, .unset] [(.int (lcmpW (own_st p2) (own_st p1)))])
      refine OwnGo.st (fun _ kk => XS.ifYes X74.here hx rfl (pc0 := 90) (pc' := 97) rfl (hb hby at_90) rfl ((if0 _ _).trans (teq (((lw_eq _ _).2 hba) : (lcmpW (own_st p2) (own_st p1)) = (0 : Int32))).1) (by decide) (by decide) kk) ?_
      show OwnGo p e below s _ _ _ T74 (mkF m 97 #[.val (.long p1), .second, .val (.long p2), .second, .val (.long p3), .second, .val (.ref b54), .val (.int (1 : Int32)), .val (.int (0 : Int32)), .val (.int (1 : Int32)), .val (.int (0 : Int32)), .val (.int (0 : Int32)), .val (.int (0 : Int32)), .val (.int (2 : Int32)), .val (.long (own_st p1)), .second, .val (.long (own_st p2)), .second, .val (.long (own_st p3)), .second, .unset, .unset, .unset] [])
      refine OwnGo.st (fun _ kk => XS.iconst X74.here hx rfl (hb hby at_97) kk) ?_
      show OwnGo p e below s _ _ _ T74 (mkF m 98 #[.val (.long p1), .second, .val (.long p2), .second, .val (.long p3), .second, .val (.ref b54), .val (.int (1 : Int32)), .val (.int (0 : Int32)), .val (.int (1 : Int32)), .val (.int (0 : Int32)), .val (.int (0 : Int32)), .val (.int (0 : Int32)), .val (.int (2 : Int32)), .val (.long (own_st p1)), .second, .val (.long (own_st p2)), .second, .val (.long (own_st p3)), .second, .unset, .unset, .unset] [(.int (0 : Int32))])
      refine OwnGo.st (fun _ kk => XS.istore X74.here hx rfl (hb hby at_98) rfl (l' := #[.val (.long p1), .second, .val (.long p2), .second, .val (.long p3), .second, .val (.ref b54), .val (.int (1 : Int32)), .val (.int (0 : Int32)), .val (.int (1 : Int32)), .val (.int (0 : Int32)), .val (.int (0 : Int32)), .val (.int (0 : Int32)), .val (.int (2 : Int32)), .val (.long (own_st p1)), .second, .val (.long (own_st p2)), .second, .val (.long (own_st p3)), .second, .val (.int (0 : Int32)), .unset, .unset]) rfl kk) ?_
      show OwnGo p e below s _ _ _ T74 (mkF m 100 #[.val (.long p1), .second, .val (.long p2), .second, .val (.long p3), .second, .val (.ref b54), .val (.int (1 : Int32)), .val (.int (0 : Int32)), .val (.int (1 : Int32)), .val (.int (0 : Int32)), .val (.int (0 : Int32)), .val (.int (0 : Int32)), .val (.int (2 : Int32)), .val (.long (own_st p1)), .second, .val (.long (own_st p2)), .second, .val (.long (own_st p3)), .second, .val (.int (0 : Int32)), .unset, .unset] [])
      refine OwnGo.st (fun _ kk => XS.lload X74.here hx rfl (hb hby at_100) rfl  kk) ?_
      show OwnGo p e below s _ _ _ T74 (mkF m 102 #[.val (.long p1), .second, .val (.long p2), .second, .val (.long p3), .second, .val (.ref b54), .val (.int (1 : Int32)), .val (.int (0 : Int32)), .val (.int (1 : Int32)), .val (.int (0 : Int32)), .val (.int (0 : Int32)), .val (.int (0 : Int32)), .val (.int (2 : Int32)), .val (.long (own_st p1)), .second, .val (.long (own_st p2)), .second, .val (.long (own_st p3)), .second, .val (.int (0 : Int32)), .unset, .unset] [(.long (own_st p3))])
      refine OwnGo.st (fun _ kk => XS.lload X74.here hx rfl (hb hby at_102) rfl  kk) ?_
      show OwnGo p e below s _ _ _ T74 (mkF m 104 #[.val (.long p1), .second, .val (.long p2), .second, .val (.long p3), .second, .val (.ref b54), .val (.int (1 : Int32)), .val (.int (0 : Int32)), .val (.int (1 : Int32)), .val (.int (0 : Int32)), .val (.int (0 : Int32)), .val (.int (0 : Int32)), .val (.int (2 : Int32)), .val (.long (own_st p1)), .second, .val (.long (own_st p2)), .second, .val (.long (own_st p3)), .second, .val (.int (0 : Int32)), .unset, .unset] [(.long (own_st p1)), (.long (own_st p3))])
      refine OwnGo.st (fun _ kk => XS.lcmp X74.here hx rfl (hb hby at_104) rfl kk) ?_
      show OwnGo p e below s _ _ _ T74 (mkF m 105 #[.val (.long p1), .second, .val (.long p2), .second, .val (.long p3), .second, .val (.ref b54), .val (.int (1 : Int32)), .val (.int (0 : Int32)), .val (.int (1 : Int32)), .val (.int (0 : Int32)), .val (.int (0 : Int32)), .val (.int (0 : Int32)), .val (.int (2 : Int32)), .val (.long (own_st p1)), .second, .val (.long (own_st p2)), .second, .val (.long (own_st p3)), .second, .val (.int (0 : Int32)), .unset, .unset] [(.int (lcmpW (own_st p3) (own_st p1)))])
      refine OwnGo.st (fun _ kk => XS.ifNo X74.here hx rfl (hb hby at_105) rfl ((if0 _ _).trans (feq ((fun q => hcn1 ((lw_eq _ _).1 q)) : ¬ ((lcmpW (own_st p3) (own_st p1)) = (0 : Int32)))).1) kk) ?_
      show OwnGo p e below s _ _ _ T74 (mkF m 108 #[.val (.long p1), .second, .val (.long p2), .second, .val (.long p3), .second, .val (.ref b54), .val (.int (1 : Int32)), .val (.int (0 : Int32)), .val (.int (1 : Int32)), .val (.int (0 : Int32)), .val (.int (0 : Int32)), .val (.int (0 : Int32)), .val (.int (2 : Int32)), .val (.long (own_st p1)), .second, .val (.long (own_st p2)), .second, .val (.long (own_st p3)), .second, .val (.int (0 : Int32)), .unset, .unset] [])
      refine OwnGo.st (fun _ kk => XS.lload X74.here hx rfl (hb hby at_108) rfl  kk) ?_
      show OwnGo p e below s _ _ _ T74 (mkF m 110 #[.val (.long p1), .second, .val (.long p2), .second, .val (.long p3), .second, .val (.ref b54), .val (.int (1 : Int32)), .val (.int (0 : Int32)), .val (.int (1 : Int32)), .val (.int (0 : Int32)), .val (.int (0 : Int32)), .val (.int (0 : Int32)), .val (.int (2 : Int32)), .val (.long (own_st p1)), .second, .val (.long (own_st p2)), .second, .val (.long (own_st p3)), .second, .val (.int (0 : Int32)), .unset, .unset] [(.long (own_st p3))])
      refine OwnGo.st (fun _ kk => XS.lload X74.here hx rfl (hb hby at_110) rfl  kk) ?_
      show OwnGo p e below s _ _ _ T74 (mkF m 112 #[.val (.long p1), .second, .val (.long p2), .second, .val (.long p3), .second, .val (.ref b54), .val (.int (1 : Int32)), .val (.int (0 : Int32)), .val (.int (1 : Int32)), .val (.int (0 : Int32)), .val (.int (0 : Int32)), .val (.int (0 : Int32)), .val (.int (2 : Int32)), .val (.long (own_st p1)), .second, .val (.long (own_st p2)), .second, .val (.long (own_st p3)), .second, .val (.int (0 : Int32)), .unset, .unset] [(.long (own_st p2)), (.long (own_st p3))])
      refine OwnGo.st (fun _ kk => XS.lcmp X74.here hx rfl (hb hby at_112) rfl kk) ?_
      show OwnGo p e below s _ _ _ T74 (mkF m 113 #[.val (.long p1), .second, .val (.long p2), .second, .val (.long p3), .second, .val (.ref b54), .val (.int (1 : Int32)), .val (.int (0 : Int32)), .val (.int (1 : Int32)), .val (.int (0 : Int32)), .val (.int (0 : Int32)), .val (.int (0 : Int32)), .val (.int (2 : Int32)), .val (.long (own_st p1)), .second, .val (.long (own_st p2)), .second, .val (.long (own_st p3)), .second, .val (.int (0 : Int32)), .unset, .unset] [(.int (lcmpW (own_st p3) (own_st p2)))])
      refine OwnGo.st (fun _ kk => XS.ifNo X74.here hx rfl (hb hby at_113) rfl ((if0 _ _).trans (feq ((fun q => hcn1 (((lw_eq _ _).1 q).trans hba)) : ¬ ((lcmpW (own_st p3) (own_st p2)) = (0 : Int32)))).1) kk) ?_
      show OwnGo p e below s _ _ _ T74 (mkF m 116 #[.val (.long p1), .second, .val (.long p2), .second, .val (.long p3), .second, .val (.ref b54), .val (.int (1 : Int32)), .val (.int (0 : Int32)), .val (.int (1 : Int32)), .val (.int (0 : Int32)), .val (.int (0 : Int32)), .val (.int (0 : Int32)), .val (.int (2 : Int32)), .val (.long (own_st p1)), .second, .val (.long (own_st p2)), .second, .val (.long (own_st p3)), .second, .val (.int (0 : Int32)), .unset, .unset] [])
      refine OwnGo.st (fun _ kk => XS.iconst X74.here hx rfl (hb hby at_116) kk) ?_
      show OwnGo p e below s _ _ _ T74 (mkF m 117 #[.val (.long p1), .second, .val (.long p2), .second, .val (.long p3), .second, .val (.ref b54), .val (.int (1 : Int32)), .val (.int (0 : Int32)), .val (.int (1 : Int32)), .val (.int (0 : Int32)), .val (.int (0 : Int32)), .val (.int (0 : Int32)), .val (.int (2 : Int32)), .val (.long (own_st p1)), .second, .val (.long (own_st p2)), .second, .val (.long (own_st p3)), .second, .val (.int (0 : Int32)), .unset, .unset] [(.int (1 : Int32))])
      refine OwnGo.st (fun _ kk => XS.goto X74.here hx rfl (pc0 := 117) (pc' := 121) rfl (hb hby at_117) (by decide) (by decide) kk) ?_
      show OwnGo p e below s _ _ _ T74 (mkF m 121 #[.val (.long p1), .second, .val (.long p2), .second, .val (.long p3), .second, .val (.ref b54), .val (.int (1 : Int32)), .val (.int (0 : Int32)), .val (.int (1 : Int32)), .val (.int (0 : Int32)), .val (.int (0 : Int32)), .val (.int (0 : Int32)), .val (.int (2 : Int32)), .val (.long (own_st p1)), .second, .val (.long (own_st p2)), .second, .val (.long (own_st p3)), .second, .val (.int (0 : Int32)), .unset, .unset] [(.int (1 : Int32))])
      refine OwnGo.st (fun _ kk => XS.istore X74.here hx rfl (hb hby at_121) rfl (l' := #[.val (.long p1), .second, .val (.long p2), .second, .val (.long p3), .second, .val (.ref b54), .val (.int (1 : Int32)), .val (.int (0 : Int32)), .val (.int (1 : Int32)), .val (.int (0 : Int32)), .val (.int (0 : Int32)), .val (.int (0 : Int32)), .val (.int (2 : Int32)), .val (.long (own_st p1)), .second, .val (.long (own_st p2)), .second, .val (.long (own_st p3)), .second, .val (.int (0 : Int32)), .val (.int (1 : Int32)), .unset]) rfl kk) ?_
      show OwnGo p e below s _ _ _ T74 (mkF m 123 #[.val (.long p1), .second, .val (.long p2), .second, .val (.long p3), .second, .val (.ref b54), .val (.int (1 : Int32)), .val (.int (0 : Int32)), .val (.int (1 : Int32)), .val (.int (0 : Int32)), .val (.int (0 : Int32)), .val (.int (0 : Int32)), .val (.int (2 : Int32)), .val (.long (own_st p1)), .second, .val (.long (own_st p2)), .second, .val (.long (own_st p3)), .second, .val (.int (0 : Int32)), .val (.int (1 : Int32)), .unset] [])
      refine OwnGo.st (fun _ kk => XS.iconst X74.here hx rfl (hb hby at_123) kk) ?_
      show OwnGo p e below s _ _ _ T74 (mkF m 124 #[.val (.long p1), .second, .val (.long p2), .second, .val (.long p3), .second, .val (.ref b54), .val (.int (1 : Int32)), .val (.int (0 : Int32)), .val (.int (1 : Int32)), .val (.int (0 : Int32)), .val (.int (0 : Int32)), .val (.int (0 : Int32)), .val (.int (2 : Int32)), .val (.long (own_st p1)), .second, .val (.long (own_st p2)), .second, .val (.long (own_st p3)), .second, .val (.int (0 : Int32)), .val (.int (1 : Int32)), .unset] [(.int (1 : Int32))])
      refine OwnGo.st (fun _ kk => XS.iload X74.here hx rfl (hb hby at_124) rfl  kk) ?_
      show OwnGo p e below s _ _ _ T74 (mkF m 126 #[.val (.long p1), .second, .val (.long p2), .second, .val (.long p3), .second, .val (.ref b54), .val (.int (1 : Int32)), .val (.int (0 : Int32)), .val (.int (1 : Int32)), .val (.int (0 : Int32)), .val (.int (0 : Int32)), .val (.int (0 : Int32)), .val (.int (2 : Int32)), .val (.long (own_st p1)), .second, .val (.long (own_st p2)), .second, .val (.long (own_st p3)), .second, .val (.int (0 : Int32)), .val (.int (1 : Int32)), .unset] [(.int (0 : Int32)), (.int (1 : Int32))])
      refine OwnGo.st (fun _ kk => XS.ifYes X74.here hx rfl (pc0 := 126) (pc' := 133) rfl (hb hby at_126) rfl ((if0 _ _).trans (teq ((by decide) : (0 : Int32) = (0 : Int32))).1) (by decide) (by decide) kk) ?_
      show OwnGo p e below s _ _ _ T74 (mkF m 133 #[.val (.long p1), .second, .val (.long p2), .second, .val (.long p3), .second, .val (.ref b54), .val (.int (1 : Int32)), .val (.int (0 : Int32)), .val (.int (1 : Int32)), .val (.int (0 : Int32)), .val (.int (0 : Int32)), .val (.int (0 : Int32)), .val (.int (2 : Int32)), .val (.long (own_st p1)), .second, .val (.long (own_st p2)), .second, .val (.long (own_st p3)), .second, .val (.int (0 : Int32)), .val (.int (1 : Int32)), .unset] [(.int (1 : Int32))])
      refine OwnGo.st (fun _ kk => XS.iconst X74.here hx rfl (hb hby at_133) kk) ?_
      show OwnGo p e below s _ _ _ T74 (mkF m 134 #[.val (.long p1), .second, .val (.long p2), .second, .val (.long p3), .second, .val (.ref b54), .val (.int (1 : Int32)), .val (.int (0 : Int32)), .val (.int (1 : Int32)), .val (.int (0 : Int32)), .val (.int (0 : Int32)), .val (.int (0 : Int32)), .val (.int (2 : Int32)), .val (.long (own_st p1)), .second, .val (.long (own_st p2)), .second, .val (.long (own_st p3)), .second, .val (.int (0 : Int32)), .val (.int (1 : Int32)), .unset] [(.int (0 : Int32)), (.int (1 : Int32))])
      refine OwnGo.st (fun _ kk => XS.iadd X74.here hx rfl (hb hby at_134) rfl kk) ?_
      show OwnGo p e below s _ _ _ T74 (mkF m 135 #[.val (.long p1), .second, .val (.long p2), .second, .val (.long p3), .second, .val (.ref b54), .val (.int (1 : Int32)), .val (.int (0 : Int32)), .val (.int (1 : Int32)), .val (.int (0 : Int32)), .val (.int (0 : Int32)), .val (.int (0 : Int32)), .val (.int (2 : Int32)), .val (.long (own_st p1)), .second, .val (.long (own_st p2)), .second, .val (.long (own_st p3)), .second, .val (.int (0 : Int32)), .val (.int (1 : Int32)), .unset] [(.int (1 : Int32))])
      refine OwnGo.st (fun _ kk => XS.iload X74.here hx rfl (hb hby at_135) rfl  kk) ?_
      show OwnGo p e below s _ _ _ T74 (mkF m 137 #[.val (.long p1), .second, .val (.long p2), .second, .val (.long p3), .second, .val (.ref b54), .val (.int (1 : Int32)), .val (.int (0 : Int32)), .val (.int (1 : Int32)), .val (.int (0 : Int32)), .val (.int (0 : Int32)), .val (.int (0 : Int32)), .val (.int (2 : Int32)), .val (.long (own_st p1)), .second, .val (.long (own_st p2)), .second, .val (.long (own_st p3)), .second, .val (.int (0 : Int32)), .val (.int (1 : Int32)), .unset] [(.int (1 : Int32)), (.int (1 : Int32))])
      refine OwnGo.st (fun _ kk => XS.ifNo X74.here hx rfl (hb hby at_137) rfl ((if0 _ _).trans (feq ((by decide) : ¬ ((1 : Int32) = (0 : Int32)))).1) kk) ?_
      show OwnGo p e below s _ _ _ T74 (mkF m 140 #[.val (.long p1), .second, .val (.long p2), .second, .val (.long p3), .second, .val (.ref b54), .val (.int (1 : Int32)), .val (.int (0 : Int32)), .val (.int (1 : Int32)), .val (.int (0 : Int32)), .val (.int (0 : Int32)), .val (.int (0 : Int32)), .val (.int (2 : Int32)), .val (.long (own_st p1)), .second, .val (.long (own_st p2)), .second, .val (.long (own_st p3)), .second, .val (.int (0 : Int32)), .val (.int (1 : Int32)), .unset] [(.int (1 : Int32))])
      refine OwnGo.st (fun _ kk => XS.iconst X74.here hx rfl (hb hby at_140) kk) ?_
      show OwnGo p e below s _ _ _ T74 (mkF m 141 #[.val (.long p1), .second, .val (.long p2), .second, .val (.long p3), .second, .val (.ref b54), .val (.int (1 : Int32)), .val (.int (0 : Int32)), .val (.int (1 : Int32)), .val (.int (0 : Int32)), .val (.int (0 : Int32)), .val (.int (0 : Int32)), .val (.int (2 : Int32)), .val (.long (own_st p1)), .second, .val (.long (own_st p2)), .second, .val (.long (own_st p3)), .second, .val (.int (0 : Int32)), .val (.int (1 : Int32)), .unset] [(.int (1 : Int32)), (.int (1 : Int32))])
      refine OwnGo.st (fun _ kk => XS.goto X74.here hx rfl (pc0 := 141) (pc' := 145) rfl (hb hby at_141) (by decide) (by decide) kk) ?_
      show OwnGo p e below s _ _ _ T74 (mkF m 145 #[.val (.long p1), .second, .val (.long p2), .second, .val (.long p3), .second, .val (.ref b54), .val (.int (1 : Int32)), .val (.int (0 : Int32)), .val (.int (1 : Int32)), .val (.int (0 : Int32)), .val (.int (0 : Int32)), .val (.int (0 : Int32)), .val (.int (2 : Int32)), .val (.long (own_st p1)), .second, .val (.long (own_st p2)), .second, .val (.long (own_st p3)), .second, .val (.int (0 : Int32)), .val (.int (1 : Int32)), .unset] [(.int (1 : Int32)), (.int (1 : Int32))])
      refine OwnGo.st (fun _ kk => XS.iadd X74.here hx rfl (hb hby at_145) rfl kk) ?_
      show OwnGo p e below s _ _ _ T74 (mkF m 146 #[.val (.long p1), .second, .val (.long p2), .second, .val (.long p3), .second, .val (.ref b54), .val (.int (1 : Int32)), .val (.int (0 : Int32)), .val (.int (1 : Int32)), .val (.int (0 : Int32)), .val (.int (0 : Int32)), .val (.int (0 : Int32)), .val (.int (2 : Int32)), .val (.long (own_st p1)), .second, .val (.long (own_st p2)), .second, .val (.long (own_st p3)), .second, .val (.int (0 : Int32)), .val (.int (1 : Int32)), .unset] [(.int (2 : Int32))])
      refine OwnGo.st (fun _ kk => XS.istore X74.here hx rfl (hb hby at_146) rfl (l' := #[.val (.long p1), .second, .val (.long p2), .second, .val (.long p3), .second, .val (.ref b54), .val (.int (1 : Int32)), .val (.int (0 : Int32)), .val (.int (1 : Int32)), .val (.int (0 : Int32)), .val (.int (0 : Int32)), .val (.int (0 : Int32)), .val (.int (2 : Int32)), .val (.long (own_st p1)), .second, .val (.long (own_st p2)), .second, .val (.long (own_st p3)), .second, .val (.int (0 : Int32)), .val (.int (1 : Int32)), .val (.int (2 : Int32))]) rfl kk) ?_
      show OwnGo p e below s _ _ _ T74 (mkF m 148 #[.val (.long p1), .second, .val (.long p2), .second, .val (.long p3), .second, .val (.ref b54), .val (.int (1 : Int32)), .val (.int (0 : Int32)), .val (.int (1 : Int32)), .val (.int (0 : Int32)), .val (.int (0 : Int32)), .val (.int (0 : Int32)), .val (.int (2 : Int32)), .val (.long (own_st p1)), .second, .val (.long (own_st p2)), .second, .val (.long (own_st p3)), .second, .val (.int (0 : Int32)), .val (.int (1 : Int32)), .val (.int (2 : Int32))] [])
      refine OwnGo.st (fun _ kk => XS.iload X74.here hx rfl (hb hby at_148) rfl  kk) ?_
      show OwnGo p e below s _ _ _ T74 (mkF m 150 #[.val (.long p1), .second, .val (.long p2), .second, .val (.long p3), .second, .val (.ref b54), .val (.int (1 : Int32)), .val (.int (0 : Int32)), .val (.int (1 : Int32)), .val (.int (0 : Int32)), .val (.int (0 : Int32)), .val (.int (0 : Int32)), .val (.int (2 : Int32)), .val (.long (own_st p1)), .second, .val (.long (own_st p2)), .second, .val (.long (own_st p3)), .second, .val (.int (0 : Int32)), .val (.int (1 : Int32)), .val (.int (2 : Int32))] [(.int (1 : Int32))])
      refine OwnGo.st (fun _ kk => XS.ifNo X74.here hx rfl (hb hby at_150) rfl ((if0 _ _).trans (feq ((by decide) : ¬ ((1 : Int32) = (0 : Int32)))).1) kk) ?_
      show OwnGo p e below s _ _ _ T74 (mkF m 153 #[.val (.long p1), .second, .val (.long p2), .second, .val (.long p3), .second, .val (.ref b54), .val (.int (1 : Int32)), .val (.int (0 : Int32)), .val (.int (1 : Int32)), .val (.int (0 : Int32)), .val (.int (0 : Int32)), .val (.int (0 : Int32)), .val (.int (2 : Int32)), .val (.long (own_st p1)), .second, .val (.long (own_st p2)), .second, .val (.long (own_st p3)), .second, .val (.int (0 : Int32)), .val (.int (1 : Int32)), .val (.int (2 : Int32))] [])
      refine OwnGo.st (fun _ kk => XS.iload X74.here hx rfl (hb hby at_153) rfl  kk) ?_
      show OwnGo p e below s _ _ _ T74 (mkF m 155 #[.val (.long p1), .second, .val (.long p2), .second, .val (.long p3), .second, .val (.ref b54), .val (.int (1 : Int32)), .val (.int (0 : Int32)), .val (.int (1 : Int32)), .val (.int (0 : Int32)), .val (.int (0 : Int32)), .val (.int (0 : Int32)), .val (.int (2 : Int32)), .val (.long (own_st p1)), .second, .val (.long (own_st p2)), .second, .val (.long (own_st p3)), .second, .val (.int (0 : Int32)), .val (.int (1 : Int32)), .val (.int (2 : Int32))] [(.int (0 : Int32))])
      refine OwnGo.st (fun _ kk => XS.iload X74.here hx rfl (hb hby at_155) rfl  kk) ?_
      show OwnGo p e below s _ _ _ T74 (mkF m 157 #[.val (.long p1), .second, .val (.long p2), .second, .val (.long p3), .second, .val (.ref b54), .val (.int (1 : Int32)), .val (.int (0 : Int32)), .val (.int (1 : Int32)), .val (.int (0 : Int32)), .val (.int (0 : Int32)), .val (.int (0 : Int32)), .val (.int (2 : Int32)), .val (.long (own_st p1)), .second, .val (.long (own_st p2)), .second, .val (.long (own_st p3)), .second, .val (.int (0 : Int32)), .val (.int (1 : Int32)), .val (.int (2 : Int32))] [(.int (0 : Int32)), (.int (0 : Int32))])
      refine OwnGo.st (fun _ kk => XS.icmpNo X74.here hx rfl (hb hby at_157) rfl (teq ((by decide) : (0 : Int32) = (0 : Int32))).2 kk) ?_
      show OwnGo p e below s _ _ _ T74 (mkF m 160 #[.val (.long p1), .second, .val (.long p2), .second, .val (.long p3), .second, .val (.ref b54), .val (.int (1 : Int32)), .val (.int (0 : Int32)), .val (.int (1 : Int32)), .val (.int (0 : Int32)), .val (.int (0 : Int32)), .val (.int (0 : Int32)), .val (.int (2 : Int32)), .val (.long (own_st p1)), .second, .val (.long (own_st p2)), .second, .val (.long (own_st p3)), .second, .val (.int (0 : Int32)), .val (.int (1 : Int32)), .val (.int (2 : Int32))] [])
      refine OwnGo.st (fun _ kk => XS.iload X74.here hx rfl (hb hby at_160) rfl  kk) ?_
      show OwnGo p e below s _ _ _ T74 (mkF m 162 #[.val (.long p1), .second, .val (.long p2), .second, .val (.long p3), .second, .val (.ref b54), .val (.int (1 : Int32)), .val (.int (0 : Int32)), .val (.int (1 : Int32)), .val (.int (0 : Int32)), .val (.int (0 : Int32)), .val (.int (0 : Int32)), .val (.int (2 : Int32)), .val (.long (own_st p1)), .second, .val (.long (own_st p2)), .second, .val (.long (own_st p3)), .second, .val (.int (0 : Int32)), .val (.int (1 : Int32)), .val (.int (2 : Int32))] [(.int (1 : Int32))])
      refine OwnGo.st (fun _ kk => XS.iload X74.here hx rfl (hb hby at_162) rfl  kk) ?_
      show OwnGo p e below s _ _ _ T74 (mkF m 164 #[.val (.long p1), .second, .val (.long p2), .second, .val (.long p3), .second, .val (.ref b54), .val (.int (1 : Int32)), .val (.int (0 : Int32)), .val (.int (1 : Int32)), .val (.int (0 : Int32)), .val (.int (0 : Int32)), .val (.int (0 : Int32)), .val (.int (2 : Int32)), .val (.long (own_st p1)), .second, .val (.long (own_st p2)), .second, .val (.long (own_st p3)), .second, .val (.int (0 : Int32)), .val (.int (1 : Int32)), .val (.int (2 : Int32))] [(.int (1 : Int32)), (.int (1 : Int32))])
      refine OwnGo.st (fun _ kk => XS.icmpNo X74.here hx rfl (hb hby at_164) rfl (teq ((by decide) : (1 : Int32) = (1 : Int32))).2 kk) ?_
      show OwnGo p e below s _ _ _ T74 (mkF m 167 #[.val (.long p1), .second, .val (.long p2), .second, .val (.long p3), .second, .val (.ref b54), .val (.int (1 : Int32)), .val (.int (0 : Int32)), .val (.int (1 : Int32)), .val (.int (0 : Int32)), .val (.int (0 : Int32)), .val (.int (0 : Int32)), .val (.int (2 : Int32)), .val (.long (own_st p1)), .second, .val (.long (own_st p2)), .second, .val (.long (own_st p3)), .second, .val (.int (0 : Int32)), .val (.int (1 : Int32)), .val (.int (2 : Int32))] [])
      refine OwnGo.st (fun _ kk => XS.iload X74.here hx rfl (hb hby at_167) rfl  kk) ?_
      show OwnGo p e below s _ _ _ T74 (mkF m 169 #[.val (.long p1), .second, .val (.long p2), .second, .val (.long p3), .second, .val (.ref b54), .val (.int (1 : Int32)), .val (.int (0 : Int32)), .val (.int (1 : Int32)), .val (.int (0 : Int32)), .val (.int (0 : Int32)), .val (.int (0 : Int32)), .val (.int (2 : Int32)), .val (.long (own_st p1)), .second, .val (.long (own_st p2)), .second, .val (.long (own_st p3)), .second, .val (.int (0 : Int32)), .val (.int (1 : Int32)), .val (.int (2 : Int32))] [(.int (0 : Int32))])
      refine OwnGo.st (fun _ kk => XS.ifNo X74.here hx rfl (hb hby at_169) rfl ((if0 _ _).trans (teq ((by decide) : (0 : Int32) = (0 : Int32))).2) kk) ?_
      show OwnGo p e below s _ _ _ T74 (mkF m 172 #[.val (.long p1), .second, .val (.long p2), .second, .val (.long p3), .second, .val (.ref b54), .val (.int (1 : Int32)), .val (.int (0 : Int32)), .val (.int (1 : Int32)), .val (.int (0 : Int32)), .val (.int (0 : Int32)), .val (.int (0 : Int32)), .val (.int (2 : Int32)), .val (.long (own_st p1)), .second, .val (.long (own_st p2)), .second, .val (.long (own_st p3)), .second, .val (.int (0 : Int32)), .val (.int (1 : Int32)), .val (.int (2 : Int32))] [])
      refine OwnGo.st (fun _ kk => XS.iload X74.here hx rfl (hb hby at_172) rfl  kk) ?_
      show OwnGo p e below s _ _ _ T74 (mkF m 174 #[.val (.long p1), .second, .val (.long p2), .second, .val (.long p3), .second, .val (.ref b54), .val (.int (1 : Int32)), .val (.int (0 : Int32)), .val (.int (1 : Int32)), .val (.int (0 : Int32)), .val (.int (0 : Int32)), .val (.int (0 : Int32)), .val (.int (2 : Int32)), .val (.long (own_st p1)), .second, .val (.long (own_st p2)), .second, .val (.long (own_st p3)), .second, .val (.int (0 : Int32)), .val (.int (1 : Int32)), .val (.int (2 : Int32))] [(.int (0 : Int32))])
      refine OwnGo.st (fun _ kk => XS.ifNo X74.here hx rfl (hb hby at_174) rfl ((if0 _ _).trans (teq ((by decide) : (0 : Int32) = (0 : Int32))).2) kk) ?_
      show OwnGo p e below s _ _ _ T74 (mkF m 177 #[.val (.long p1), .second, .val (.long p2), .second, .val (.long p3), .second, .val (.ref b54), .val (.int (1 : Int32)), .val (.int (0 : Int32)), .val (.int (1 : Int32)), .val (.int (0 : Int32)), .val (.int (0 : Int32)), .val (.int (0 : Int32)), .val (.int (2 : Int32)), .val (.long (own_st p1)), .second, .val (.long (own_st p2)), .second, .val (.long (own_st p3)), .second, .val (.int (0 : Int32)), .val (.int (1 : Int32)), .val (.int (2 : Int32))] [])
      refine OwnGo.st (fun _ kk => XS.iload X74.here hx rfl (hb hby at_177) rfl  kk) ?_
      show OwnGo p e below s _ _ _ T74 (mkF m 179 #[.val (.long p1), .second, .val (.long p2), .second, .val (.long p3), .second, .val (.ref b54), .val (.int (1 : Int32)), .val (.int (0 : Int32)), .val (.int (1 : Int32)), .val (.int (0 : Int32)), .val (.int (0 : Int32)), .val (.int (0 : Int32)), .val (.int (2 : Int32)), .val (.long (own_st p1)), .second, .val (.long (own_st p2)), .second, .val (.long (own_st p3)), .second, .val (.int (0 : Int32)), .val (.int (1 : Int32)), .val (.int (2 : Int32))] [(.int (0 : Int32))])
      refine OwnGo.st (fun _ kk => XS.ifNo X74.here hx rfl (hb hby at_179) rfl ((if0 _ _).trans (teq ((by decide) : (0 : Int32) = (0 : Int32))).2) kk) ?_
      show OwnGo p e below s _ _ _ T74 (mkF m 182 #[.val (.long p1), .second, .val (.long p2), .second, .val (.long p3), .second, .val (.ref b54), .val (.int (1 : Int32)), .val (.int (0 : Int32)), .val (.int (1 : Int32)), .val (.int (0 : Int32)), .val (.int (0 : Int32)), .val (.int (0 : Int32)), .val (.int (2 : Int32)), .val (.long (own_st p1)), .second, .val (.long (own_st p2)), .second, .val (.long (own_st p3)), .second, .val (.int (0 : Int32)), .val (.int (1 : Int32)), .val (.int (2 : Int32))] [])
      refine OwnGo.st (fun _ kk => XS.iload X74.here hx rfl (hb hby at_182) rfl  kk) ?_
      show OwnGo p e below s _ _ _ T74 (mkF m 184 #[.val (.long p1), .second, .val (.long p2), .second, .val (.long p3), .second, .val (.ref b54), .val (.int (1 : Int32)), .val (.int (0 : Int32)), .val (.int (1 : Int32)), .val (.int (0 : Int32)), .val (.int (0 : Int32)), .val (.int (0 : Int32)), .val (.int (2 : Int32)), .val (.long (own_st p1)), .second, .val (.long (own_st p2)), .second, .val (.long (own_st p3)), .second, .val (.int (0 : Int32)), .val (.int (1 : Int32)), .val (.int (2 : Int32))] [(.int (2 : Int32))])
      refine OwnGo.st (fun _ kk => XS.iload X74.here hx rfl (hb hby at_184) rfl  kk) ?_
      show OwnGo p e below s _ _ _ T74 (mkF m 186 #[.val (.long p1), .second, .val (.long p2), .second, .val (.long p3), .second, .val (.ref b54), .val (.int (1 : Int32)), .val (.int (0 : Int32)), .val (.int (1 : Int32)), .val (.int (0 : Int32)), .val (.int (0 : Int32)), .val (.int (0 : Int32)), .val (.int (2 : Int32)), .val (.long (own_st p1)), .second, .val (.long (own_st p2)), .second, .val (.long (own_st p3)), .second, .val (.int (0 : Int32)), .val (.int (1 : Int32)), .val (.int (2 : Int32))] [(.int (2 : Int32)), (.int (2 : Int32))])
      refine OwnGo.st (fun _ kk => XS.icmpNo X74.here hx rfl (hb hby at_186) rfl (teq ((by decide) : (2 : Int32) = (2 : Int32))).2 kk) ?_
      show OwnGo p e below s _ _ _ T74 (mkF m 189 #[.val (.long p1), .second, .val (.long p2), .second, .val (.long p3), .second, .val (.ref b54), .val (.int (1 : Int32)), .val (.int (0 : Int32)), .val (.int (1 : Int32)), .val (.int (0 : Int32)), .val (.int (0 : Int32)), .val (.int (0 : Int32)), .val (.int (2 : Int32)), .val (.long (own_st p1)), .second, .val (.long (own_st p2)), .second, .val (.long (own_st p3)), .second, .val (.int (0 : Int32)), .val (.int (1 : Int32)), .val (.int (2 : Int32))] [])
      refine OwnGo.st (fun _ kk => XS.iconst X74.here hx rfl (hb hby at_189) kk) ?_
      show OwnGo p e below s _ _ _ T74 (mkF m 190 #[.val (.long p1), .second, .val (.long p2), .second, .val (.long p3), .second, .val (.ref b54), .val (.int (1 : Int32)), .val (.int (0 : Int32)), .val (.int (1 : Int32)), .val (.int (0 : Int32)), .val (.int (0 : Int32)), .val (.int (0 : Int32)), .val (.int (2 : Int32)), .val (.long (own_st p1)), .second, .val (.long (own_st p2)), .second, .val (.long (own_st p3)), .second, .val (.int (0 : Int32)), .val (.int (1 : Int32)), .val (.int (2 : Int32))] [(.int (1 : Int32))])
      refine OwnGo.st (fun _ kk => XS.goto X74.here hx rfl (pc0 := 190) (pc' := 194) rfl (hb hby at_190) (by decide) (by decide) kk) ?_
      show OwnGo p e below s _ _ _ T74 (mkF m 194 #[.val (.long p1), .second, .val (.long p2), .second, .val (.long p3), .second, .val (.ref b54), .val (.int (1 : Int32)), .val (.int (0 : Int32)), .val (.int (1 : Int32)), .val (.int (0 : Int32)), .val (.int (0 : Int32)), .val (.int (0 : Int32)), .val (.int (2 : Int32)), .val (.long (own_st p1)), .second, .val (.long (own_st p2)), .second, .val (.long (own_st p3)), .second, .val (.int (0 : Int32)), .val (.int (1 : Int32)), .val (.int (2 : Int32))] [(.int (1 : Int32))])
      exact OwnGo.retN X74 hx (t := .boolean) hret hlk (by simp) (hb hby at_194) (by show Q0 Z p1 p2 p3 h0 n0 _ T74.heap _; rw [e74]; exact ⟨rfl, N74⟩) (by decide) (by decide)
  · by_cases hcn : own_st p3 = own_st p2 ∨ own_st p3 = own_st p1
    · have hc : own_st p1 = own_st p3 ∨ own_st p2 = own_st p3 := hcn.elim (fun q => Or.inr q.symm) (fun q => Or.inl q.symm)
      obtain ⟨cq75, kq75, q75a, q75b, q75c⟩ := isOf hZ rfl E_b54
      obtain ⟨_, _, ⟨T75, L75, k75, n75⟩, -, X75, ⟨Lc75, hQ75, l75, y75, z75⟩, st75⟩ := X56.virtualBack hx (y := (⟨"com/example/utsatt/utsatt/KeyHashes", "add", "(J)Z"⟩ : MethodName)) (z := (⟨"com/example/utsatt/utsatt/KeyHashes", "add", "(J)Z"⟩ : MethodName)) hown (mvT hZ (hw _ (List.mem_of_getElem? (i := 12) rfl))) (mvT hZ (hw _ (List.mem_of_getElem? (i := 13) rfl))) (notFace_of_selects (args := #[]) (mvT hZ (hw _ (List.mem_of_getElem? (i := 15) rfl)))) (mvT hZ (hw _ (List.mem_of_getElem? (i := 15) rfl))) (mvT hZ (hw _ (List.mem_of_getElem? (i := 14) rfl))) (by decide) (backOf (W := 0) (rmaddN1 l Z a0 hw [] b54 t55 kc55 w56 p2 T56.heap n0 Z_ E_b54 Fs56 V56 hl56 Fz56 g_b54 g_t55 (Ne.symm ne_b54_t55) (Nat.lt_of_lt_of_le (by decide) ze_56) (own_miss on_56 (own_stn _) (by simp only [List.mem_singleton]; exact hba))) hZ (hw _ (List.mem_of_getElem? (i := 16) rfl)) (hw _ (List.mem_of_getElem? (i := 2) rfl)) (by decide) (by decide)) q75a q75c (g := (mkF m 20 #[.val (.long p1), .second, .val (.long p2), .second, .val (.long p3), .second, .val (.ref b54), .val (.int (1 : Int32)), .unset, .unset, .unset, .unset, .unset, .unset, .unset, .unset, .unset, .unset, .unset, .unset, .unset, .unset, .unset] [(.long p2), (.ref b54)])) rfl (by rw [hml]; rfl) (Steps.refl _) (argsL := [(.long p2)]) (rest := []) (lenOf pd_5 rfl) rfl (by show 2 * 0 + _ ≤ _; exact Nat.le_of_eq rfl) (hb hby at_20) (fun _ _ => ⟨rfl, rfl, (by decide : 2 + 0 ≤ _), (by decide : 18 + 0 ≤ _)⟩)
      dsimp only [Pt.U, Pt.locs, Pt.cells, Pt.slots] at X75 l75 y75 z75 st75 hQ75
      subst l75 y75 z75
      obtain ⟨r75, k75, hr75, hz75, hk75, rfl, N75q, K75, Eo75, Fs75, Fz75, V75⟩ := hQ75
      have N75 := Fr.app N56 N75q
      have Z_ : n0 ≤ T75.heap.size := Nat.le_trans Z_ K75.1
      have E_b54 := E_b54.keep K75
      refine OwnGo.st (fun _ kk => st75.trans kk) ?_
      show OwnGo p e below s _ _ _ T75 (mkF m 23 #[.val (.long p1), .second, .val (.long p2), .second, .val (.long p3), .second, .val (.ref b54), .val (.int (1 : Int32)), .unset, .unset, .unset, .unset, .unset, .unset, .unset, .unset, .unset, .unset, .unset, .unset, .unset, .unset, .unset] [(.int (1 : Int32))])
      obtain ⟨w75, hw75⟩ : ∃ l : List Int64, l = w56.set r75 (own_st p2) := ⟨_, rfl⟩
      rw [← hw75] at V75
      have hl75 : w75.length = 16 := by rw [hw75, List.length_set]; exact hl56
      have in_p1_75 : own_in w75 (own_st p1) := hw75 ▸ own_in_keep (show r75 < List.length w56 by rw [hl56]; exact hr75) hz75 (own_stn _) in_p1_56
      have in_p2_75 : own_in w75 (own_st p2) := hw75 ▸ own_in_new (show r75 < List.length w56 by rw [hl56]; exact hr75) hz75 hk75
      have on_75 : own_only w75 ((own_st p2) :: ((own_st p1) :: [])) := hw75 ▸ own_only_set (show r75 < List.length w56 by rw [hl56]; exact hr75) on_56
      have ze_75 : 14 ≤ own_zeros w75 := by have q := own_zeros_set (own_st p2) w56 r75; rw [← hw75] at q; have q' := ze_56; omega
      refine OwnGo.st (fun _ kk => XS.istore X75.here hx rfl (hb hby at_23) rfl (l' := #[.val (.long p1), .second, .val (.long p2), .second, .val (.long p3), .second, .val (.ref b54), .val (.int (1 : Int32)), .val (.int (1 : Int32)), .unset, .unset, .unset, .unset, .unset, .unset, .unset, .unset, .unset, .unset, .unset, .unset, .unset, .unset]) rfl kk) ?_
      show OwnGo p e below s _ _ _ T75 (mkF m 25 #[.val (.long p1), .second, .val (.long p2), .second, .val (.long p3), .second, .val (.ref b54), .val (.int (1 : Int32)), .val (.int (1 : Int32)), .unset, .unset, .unset, .unset, .unset, .unset, .unset, .unset, .unset, .unset, .unset, .unset, .unset, .unset] [])
      refine OwnGo.st (fun _ kk => XS.aload X75.here hx rfl (hb hby at_25) rfl rfl  kk) ?_
      show OwnGo p e below s _ _ _ T75 (mkF m 27 #[.val (.long p1), .second, .val (.long p2), .second, .val (.long p3), .second, .val (.ref b54), .val (.int (1 : Int32)), .val (.int (1 : Int32)), .unset, .unset, .unset, .unset, .unset, .unset, .unset, .unset, .unset, .unset, .unset, .unset, .unset, .unset] [(.ref b54)])
      refine OwnGo.st (fun _ kk => XS.lload X75.here hx rfl (hb hby at_27) rfl  kk) ?_
      show OwnGo p e below s _ _ _ T75 (mkF m 29 #[.val (.long p1), .second, .val (.long p2), .second, .val (.long p3), .second, .val (.ref b54), .val (.int (1 : Int32)), .val (.int (1 : Int32)), .unset, .unset, .unset, .unset, .unset, .unset, .unset, .unset, .unset, .unset, .unset, .unset, .unset, .unset] [(.long p3), (.ref b54)])
      have in_p3 : own_in w75 (own_st p3) := hc.elim (fun q => q ▸ in_p1_75) (fun q => q ▸ in_p2_75)
      obtain ⟨cq76, kq76, q76a, q76b, q76c⟩ := isOf hZ rfl E_b54
      obtain ⟨_, _, ⟨T76, L76, k76, n76⟩, -, X76, ⟨Lc76, hQ76, l76, y76, z76⟩, st76⟩ := X75.virtualBack hx (y := (⟨"com/example/utsatt/utsatt/KeyHashes", "add", "(J)Z"⟩ : MethodName)) (z := (⟨"com/example/utsatt/utsatt/KeyHashes", "add", "(J)Z"⟩ : MethodName)) hown (mvT hZ (hw _ (List.mem_of_getElem? (i := 12) rfl))) (mvT hZ (hw _ (List.mem_of_getElem? (i := 13) rfl))) (notFace_of_selects (args := #[]) (mvT hZ (hw _ (List.mem_of_getElem? (i := 15) rfl)))) (mvT hZ (hw _ (List.mem_of_getElem? (i := 15) rfl))) (mvT hZ (hw _ (List.mem_of_getElem? (i := 14) rfl))) (by decide) (backOf (W := 0) (rmaddO l Z a0 hw [] b54 t55 kc55 w75 p3 T75.heap n0 Z_ E_b54 Fs75 V75 hl75 (Nat.lt_of_lt_of_le (by decide) ze_75) in_p3) hZ (hw _ (List.mem_of_getElem? (i := 16) rfl)) (hw _ (List.mem_of_getElem? (i := 2) rfl)) (by decide) (by decide)) q76a q76c (g := (mkF m 29 #[.val (.long p1), .second, .val (.long p2), .second, .val (.long p3), .second, .val (.ref b54), .val (.int (1 : Int32)), .val (.int (1 : Int32)), .unset, .unset, .unset, .unset, .unset, .unset, .unset, .unset, .unset, .unset, .unset, .unset, .unset, .unset] [(.long p3), (.ref b54)])) rfl (by rw [hml]; rfl) (Steps.refl _) (argsL := [(.long p3)]) (rest := []) (lenOf pd_5 rfl) rfl (by show 2 * 0 + _ ≤ _; exact Nat.le_of_eq rfl) (hb hby at_29) (fun _ _ => ⟨rfl, rfl, (by decide : 2 + 0 ≤ _), (by decide : 18 + 0 ≤ _)⟩)
      dsimp only [Pt.U, Pt.locs, Pt.cells, Pt.slots] at X76 l76 y76 z76 st76 hQ76
      subst l76 y76 z76
      obtain ⟨rfl, N76q, e76⟩ := hQ76
      have N76 := Fr.app N75 N76q
      refine OwnGo.st (fun _ kk => st76.trans kk) ?_
      show OwnGo p e below s _ _ _ T76 (mkF m 32 #[.val (.long p1), .second, .val (.long p2), .second, .val (.long p3), .second, .val (.ref b54), .val (.int (1 : Int32)), .val (.int (1 : Int32)), .unset, .unset, .unset, .unset, .unset, .unset, .unset, .unset, .unset, .unset, .unset, .unset, .unset, .unset] [(.int (0 : Int32))])
      refine OwnGo.st (fun _ kk => XS.istore X76.here hx rfl (hb hby at_32) rfl (l' := #[.val (.long p1), .second, .val (.long p2), .second, .val (.long p3), .second, .val (.ref b54), .val (.int (1 : Int32)), .val (.int (1 : Int32)), .val (.int (0 : Int32)), .unset, .unset, .unset, .unset, .unset, .unset, .unset, .unset, .unset, .unset, .unset, .unset, .unset]) rfl kk) ?_
      show OwnGo p e below s _ _ _ T76 (mkF m 34 #[.val (.long p1), .second, .val (.long p2), .second, .val (.long p3), .second, .val (.ref b54), .val (.int (1 : Int32)), .val (.int (1 : Int32)), .val (.int (0 : Int32)), .unset, .unset, .unset, .unset, .unset, .unset, .unset, .unset, .unset, .unset, .unset, .unset, .unset] [])
      refine OwnGo.st (fun _ kk => XS.aload X76.here hx rfl (hb hby at_34) rfl rfl  kk) ?_
      show OwnGo p e below s _ _ _ T76 (mkF m 36 #[.val (.long p1), .second, .val (.long p2), .second, .val (.long p3), .second, .val (.ref b54), .val (.int (1 : Int32)), .val (.int (1 : Int32)), .val (.int (0 : Int32)), .unset, .unset, .unset, .unset, .unset, .unset, .unset, .unset, .unset, .unset, .unset, .unset, .unset] [(.ref b54)])
      refine OwnGo.st (fun _ kk => XS.lloadN X76.here hx rfl (hb hby at_36) rfl  kk) ?_
      show OwnGo p e below s _ _ _ T76 (mkF m 37 #[.val (.long p1), .second, .val (.long p2), .second, .val (.long p3), .second, .val (.ref b54), .val (.int (1 : Int32)), .val (.int (1 : Int32)), .val (.int (0 : Int32)), .unset, .unset, .unset, .unset, .unset, .unset, .unset, .unset, .unset, .unset, .unset, .unset, .unset] [(.long p1), (.ref b54)])
      obtain ⟨cq77, kq77, q77a, q77b, q77c⟩ := isOf hZ e76 E_b54
      obtain ⟨_, _, ⟨T77, L77, k77, n77⟩, -, X77, ⟨Lc77, hQ77, l77, y77, z77⟩, st77⟩ := X76.virtualBack hx (y := (⟨"com/example/utsatt/utsatt/KeyHashes", "add", "(J)Z"⟩ : MethodName)) (z := (⟨"com/example/utsatt/utsatt/KeyHashes", "add", "(J)Z"⟩ : MethodName)) hown (mvT hZ (hw _ (List.mem_of_getElem? (i := 12) rfl))) (mvT hZ (hw _ (List.mem_of_getElem? (i := 13) rfl))) (notFace_of_selects (args := #[]) (mvT hZ (hw _ (List.mem_of_getElem? (i := 15) rfl)))) (mvT hZ (hw _ (List.mem_of_getElem? (i := 15) rfl))) (mvT hZ (hw _ (List.mem_of_getElem? (i := 14) rfl))) (by decide) (backOf (W := 0) (rmaddO l Z a0 hw [] b54 t55 kc55 w75 p1 T75.heap n0 Z_ E_b54 Fs75 V75 hl75 (Nat.lt_of_lt_of_le (by decide) ze_75) in_p1_75) hZ (hw _ (List.mem_of_getElem? (i := 16) rfl)) (hw _ (List.mem_of_getElem? (i := 2) rfl)) (by decide) (by decide)) q77a q77c (g := (mkF m 37 #[.val (.long p1), .second, .val (.long p2), .second, .val (.long p3), .second, .val (.ref b54), .val (.int (1 : Int32)), .val (.int (1 : Int32)), .val (.int (0 : Int32)), .unset, .unset, .unset, .unset, .unset, .unset, .unset, .unset, .unset, .unset, .unset, .unset, .unset] [(.long p1), (.ref b54)])) rfl (by rw [hml]; rfl) (Steps.refl _) (argsL := [(.long p1)]) (rest := []) (lenOf pd_5 rfl) rfl (by show 2 * 0 + _ ≤ _; exact Nat.le_of_eq rfl) (hb hby at_37) (fun _ _ => ⟨rfl, e76, (by decide : 2 + 0 ≤ _), (by decide : 18 + 0 ≤ _)⟩)
      dsimp only [Pt.U, Pt.locs, Pt.cells, Pt.slots] at X77 l77 y77 z77 st77 hQ77
      subst l77 y77 z77
      obtain ⟨rfl, N77q, e77⟩ := hQ77
      have N77 := Fr.app N76 N77q
      refine OwnGo.st (fun _ kk => st77.trans kk) ?_
      show OwnGo p e below s _ _ _ T77 (mkF m 40 #[.val (.long p1), .second, .val (.long p2), .second, .val (.long p3), .second, .val (.ref b54), .val (.int (1 : Int32)), .val (.int (1 : Int32)), .val (.int (0 : Int32)), .unset, .unset, .unset, .unset, .unset, .unset, .unset, .unset, .unset, .unset, .unset, .unset, .unset] [(.int (0 : Int32))])
      refine OwnGo.st (fun _ kk => XS.istore X77.here hx rfl (hb hby at_40) rfl (l' := #[.val (.long p1), .second, .val (.long p2), .second, .val (.long p3), .second, .val (.ref b54), .val (.int (1 : Int32)), .val (.int (1 : Int32)), .val (.int (0 : Int32)), .val (.int (0 : Int32)), .unset, .unset, .unset, .unset, .unset, .unset, .unset, .unset, .unset, .unset, .unset, .unset]) rfl kk) ?_
      show OwnGo p e below s _ _ _ T77 (mkF m 42 #[.val (.long p1), .second, .val (.long p2), .second, .val (.long p3), .second, .val (.ref b54), .val (.int (1 : Int32)), .val (.int (1 : Int32)), .val (.int (0 : Int32)), .val (.int (0 : Int32)), .unset, .unset, .unset, .unset, .unset, .unset, .unset, .unset, .unset, .unset, .unset, .unset] [])
      refine OwnGo.st (fun _ kk => XS.aload X77.here hx rfl (hb hby at_42) rfl rfl  kk) ?_
      show OwnGo p e below s _ _ _ T77 (mkF m 44 #[.val (.long p1), .second, .val (.long p2), .second, .val (.long p3), .second, .val (.ref b54), .val (.int (1 : Int32)), .val (.int (1 : Int32)), .val (.int (0 : Int32)), .val (.int (0 : Int32)), .unset, .unset, .unset, .unset, .unset, .unset, .unset, .unset, .unset, .unset, .unset, .unset] [(.ref b54)])
      refine OwnGo.st (fun _ kk => XS.lloadN X77.here hx rfl (hb hby at_44) rfl  kk) ?_
      show OwnGo p e below s _ _ _ T77 (mkF m 45 #[.val (.long p1), .second, .val (.long p2), .second, .val (.long p3), .second, .val (.ref b54), .val (.int (1 : Int32)), .val (.int (1 : Int32)), .val (.int (0 : Int32)), .val (.int (0 : Int32)), .unset, .unset, .unset, .unset, .unset, .unset, .unset, .unset, .unset, .unset, .unset, .unset] [(.long p2), (.ref b54)])
      obtain ⟨cq78, kq78, q78a, q78b, q78c⟩ := isOf hZ e77 E_b54
      obtain ⟨_, _, ⟨T78, L78, k78, n78⟩, -, X78, ⟨Lc78, hQ78, l78, y78, z78⟩, st78⟩ := X77.virtualBack hx (y := (⟨"com/example/utsatt/utsatt/KeyHashes", "add", "(J)Z"⟩ : MethodName)) (z := (⟨"com/example/utsatt/utsatt/KeyHashes", "add", "(J)Z"⟩ : MethodName)) hown (mvT hZ (hw _ (List.mem_of_getElem? (i := 12) rfl))) (mvT hZ (hw _ (List.mem_of_getElem? (i := 13) rfl))) (notFace_of_selects (args := #[]) (mvT hZ (hw _ (List.mem_of_getElem? (i := 15) rfl)))) (mvT hZ (hw _ (List.mem_of_getElem? (i := 15) rfl))) (mvT hZ (hw _ (List.mem_of_getElem? (i := 14) rfl))) (by decide) (backOf (W := 0) (rmaddO l Z a0 hw [] b54 t55 kc55 w75 p2 T75.heap n0 Z_ E_b54 Fs75 V75 hl75 (Nat.lt_of_lt_of_le (by decide) ze_75) in_p2_75) hZ (hw _ (List.mem_of_getElem? (i := 16) rfl)) (hw _ (List.mem_of_getElem? (i := 2) rfl)) (by decide) (by decide)) q78a q78c (g := (mkF m 45 #[.val (.long p1), .second, .val (.long p2), .second, .val (.long p3), .second, .val (.ref b54), .val (.int (1 : Int32)), .val (.int (1 : Int32)), .val (.int (0 : Int32)), .val (.int (0 : Int32)), .unset, .unset, .unset, .unset, .unset, .unset, .unset, .unset, .unset, .unset, .unset, .unset] [(.long p2), (.ref b54)])) rfl (by rw [hml]; rfl) (Steps.refl _) (argsL := [(.long p2)]) (rest := []) (lenOf pd_5 rfl) rfl (by show 2 * 0 + _ ≤ _; exact Nat.le_of_eq rfl) (hb hby at_45) (fun _ _ => ⟨rfl, e77, (by decide : 2 + 0 ≤ _), (by decide : 18 + 0 ≤ _)⟩)
      dsimp only [Pt.U, Pt.locs, Pt.cells, Pt.slots] at X78 l78 y78 z78 st78 hQ78
      subst l78 y78 z78
      obtain ⟨rfl, N78q, e78⟩ := hQ78
      have N78 := Fr.app N77 N78q
      refine OwnGo.st (fun _ kk => st78.trans kk) ?_
      show OwnGo p e below s _ _ _ T78 (mkF m 48 #[.val (.long p1), .second, .val (.long p2), .second, .val (.long p3), .second, .val (.ref b54), .val (.int (1 : Int32)), .val (.int (1 : Int32)), .val (.int (0 : Int32)), .val (.int (0 : Int32)), .unset, .unset, .unset, .unset, .unset, .unset, .unset, .unset, .unset, .unset, .unset, .unset] [(.int (0 : Int32))])
      refine OwnGo.st (fun _ kk => XS.istore X78.here hx rfl (hb hby at_48) rfl (l' := #[.val (.long p1), .second, .val (.long p2), .second, .val (.long p3), .second, .val (.ref b54), .val (.int (1 : Int32)), .val (.int (1 : Int32)), .val (.int (0 : Int32)), .val (.int (0 : Int32)), .val (.int (0 : Int32)), .unset, .unset, .unset, .unset, .unset, .unset, .unset, .unset, .unset, .unset, .unset]) rfl kk) ?_
      show OwnGo p e below s _ _ _ T78 (mkF m 50 #[.val (.long p1), .second, .val (.long p2), .second, .val (.long p3), .second, .val (.ref b54), .val (.int (1 : Int32)), .val (.int (1 : Int32)), .val (.int (0 : Int32)), .val (.int (0 : Int32)), .val (.int (0 : Int32)), .unset, .unset, .unset, .unset, .unset, .unset, .unset, .unset, .unset, .unset, .unset] [])
      refine OwnGo.st (fun _ kk => XS.aload X78.here hx rfl (hb hby at_50) rfl rfl  kk) ?_
      show OwnGo p e below s _ _ _ T78 (mkF m 52 #[.val (.long p1), .second, .val (.long p2), .second, .val (.long p3), .second, .val (.ref b54), .val (.int (1 : Int32)), .val (.int (1 : Int32)), .val (.int (0 : Int32)), .val (.int (0 : Int32)), .val (.int (0 : Int32)), .unset, .unset, .unset, .unset, .unset, .unset, .unset, .unset, .unset, .unset, .unset] [(.ref b54)])
      refine OwnGo.st (fun _ kk => XS.lload X78.here hx rfl (hb hby at_52) rfl  kk) ?_
      show OwnGo p e below s _ _ _ T78 (mkF m 54 #[.val (.long p1), .second, .val (.long p2), .second, .val (.long p3), .second, .val (.ref b54), .val (.int (1 : Int32)), .val (.int (1 : Int32)), .val (.int (0 : Int32)), .val (.int (0 : Int32)), .val (.int (0 : Int32)), .unset, .unset, .unset, .unset, .unset, .unset, .unset, .unset, .unset, .unset, .unset] [(.long p3), (.ref b54)])
      obtain ⟨cq79, kq79, q79a, q79b, q79c⟩ := isOf hZ e78 E_b54
      obtain ⟨_, _, ⟨T79, L79, k79, n79⟩, -, X79, ⟨Lc79, hQ79, l79, y79, z79⟩, st79⟩ := X78.virtualBack hx (y := (⟨"com/example/utsatt/utsatt/KeyHashes", "add", "(J)Z"⟩ : MethodName)) (z := (⟨"com/example/utsatt/utsatt/KeyHashes", "add", "(J)Z"⟩ : MethodName)) hown (mvT hZ (hw _ (List.mem_of_getElem? (i := 12) rfl))) (mvT hZ (hw _ (List.mem_of_getElem? (i := 13) rfl))) (notFace_of_selects (args := #[]) (mvT hZ (hw _ (List.mem_of_getElem? (i := 15) rfl)))) (mvT hZ (hw _ (List.mem_of_getElem? (i := 15) rfl))) (mvT hZ (hw _ (List.mem_of_getElem? (i := 14) rfl))) (by decide) (backOf (W := 0) (rmaddO l Z a0 hw [] b54 t55 kc55 w75 p3 T75.heap n0 Z_ E_b54 Fs75 V75 hl75 (Nat.lt_of_lt_of_le (by decide) ze_75) in_p3) hZ (hw _ (List.mem_of_getElem? (i := 16) rfl)) (hw _ (List.mem_of_getElem? (i := 2) rfl)) (by decide) (by decide)) q79a q79c (g := (mkF m 54 #[.val (.long p1), .second, .val (.long p2), .second, .val (.long p3), .second, .val (.ref b54), .val (.int (1 : Int32)), .val (.int (1 : Int32)), .val (.int (0 : Int32)), .val (.int (0 : Int32)), .val (.int (0 : Int32)), .unset, .unset, .unset, .unset, .unset, .unset, .unset, .unset, .unset, .unset, .unset] [(.long p3), (.ref b54)])) rfl (by rw [hml]; rfl) (Steps.refl _) (argsL := [(.long p3)]) (rest := []) (lenOf pd_5 rfl) rfl (by show 2 * 0 + _ ≤ _; exact Nat.le_of_eq rfl) (hb hby at_54) (fun _ _ => ⟨rfl, e78, (by decide : 2 + 0 ≤ _), (by decide : 18 + 0 ≤ _)⟩)
      dsimp only [Pt.U, Pt.locs, Pt.cells, Pt.slots] at X79 l79 y79 z79 st79 hQ79
      subst l79 y79 z79
      obtain ⟨rfl, N79q, e79⟩ := hQ79
      have N79 := Fr.app N78 N79q
      refine OwnGo.st (fun _ kk => st79.trans kk) ?_
      show OwnGo p e below s _ _ _ T79 (mkF m 57 #[.val (.long p1), .second, .val (.long p2), .second, .val (.long p3), .second, .val (.ref b54), .val (.int (1 : Int32)), .val (.int (1 : Int32)), .val (.int (0 : Int32)), .val (.int (0 : Int32)), .val (.int (0 : Int32)), .unset, .unset, .unset, .unset, .unset, .unset, .unset, .unset, .unset, .unset, .unset] [(.int (0 : Int32))])
      refine OwnGo.st (fun _ kk => XS.istore X79.here hx rfl (hb hby at_57) rfl (l' := #[.val (.long p1), .second, .val (.long p2), .second, .val (.long p3), .second, .val (.ref b54), .val (.int (1 : Int32)), .val (.int (1 : Int32)), .val (.int (0 : Int32)), .val (.int (0 : Int32)), .val (.int (0 : Int32)), .val (.int (0 : Int32)), .unset, .unset, .unset, .unset, .unset, .unset, .unset, .unset, .unset, .unset]) rfl kk) ?_
      show OwnGo p e below s _ _ _ T79 (mkF m 59 #[.val (.long p1), .second, .val (.long p2), .second, .val (.long p3), .second, .val (.ref b54), .val (.int (1 : Int32)), .val (.int (1 : Int32)), .val (.int (0 : Int32)), .val (.int (0 : Int32)), .val (.int (0 : Int32)), .val (.int (0 : Int32)), .unset, .unset, .unset, .unset, .unset, .unset, .unset, .unset, .unset, .unset] [])
      refine OwnGo.st (fun _ kk => XS.aload X79.here hx rfl (hb hby at_59) rfl rfl  kk) ?_
      show OwnGo p e below s _ _ _ T79 (mkF m 61 #[.val (.long p1), .second, .val (.long p2), .second, .val (.long p3), .second, .val (.ref b54), .val (.int (1 : Int32)), .val (.int (1 : Int32)), .val (.int (0 : Int32)), .val (.int (0 : Int32)), .val (.int (0 : Int32)), .val (.int (0 : Int32)), .unset, .unset, .unset, .unset, .unset, .unset, .unset, .unset, .unset, .unset] [(.ref b54)])
      obtain ⟨cq80, kq80, q80a, q80b, q80c⟩ := isOf hZ e79 E_b54
      obtain ⟨_, _, ⟨T80, L80, k80, n80⟩, -, X80, ⟨Lc80, hQ80, l80, y80, z80⟩, st80⟩ := X79.virtualBack hx (y := (⟨"com/example/utsatt/utsatt/KeyHashes", "size", "()I"⟩ : MethodName)) (z := (⟨"com/example/utsatt/utsatt/KeyHashes", "size", "()I"⟩ : MethodName)) hown (mvT hZ (hw _ (List.mem_of_getElem? (i := 34) rfl))) (mvT hZ (hw _ (List.mem_of_getElem? (i := 35) rfl))) (notFace_of_selects (args := #[]) (mvT hZ (hw _ (List.mem_of_getElem? (i := 37) rfl)))) (mvT hZ (hw _ (List.mem_of_getElem? (i := 37) rfl))) (mvT hZ (hw _ (List.mem_of_getElem? (i := 36) rfl))) (by decide) (backOf (W := 0) (rmsiz l Z a0 hw [] b54 (2 : Int32) T75.heap n0 Z_ Fz75) hZ (hw _ (List.mem_of_getElem? (i := 38) rfl)) (hw _ (List.mem_of_getElem? (i := 2) rfl)) (by decide) (by decide)) q80a q80c (g := (mkF m 61 #[.val (.long p1), .second, .val (.long p2), .second, .val (.long p3), .second, .val (.ref b54), .val (.int (1 : Int32)), .val (.int (1 : Int32)), .val (.int (0 : Int32)), .val (.int (0 : Int32)), .val (.int (0 : Int32)), .val (.int (0 : Int32)), .unset, .unset, .unset, .unset, .unset, .unset, .unset, .unset, .unset, .unset] [(.ref b54)])) rfl (by rw [hml]; rfl) (Steps.refl _) (argsL := []) (rest := []) (lenOf pd_6 rfl) rfl (by show 2 * 0 + _ ≤ _; exact Nat.le_of_eq rfl) (hb hby at_61) (fun _ _ => ⟨rfl, e79, (by decide : 2 + 0 ≤ _), (by decide : 18 + 0 ≤ _)⟩)
      dsimp only [Pt.U, Pt.locs, Pt.cells, Pt.slots] at X80 l80 y80 z80 st80 hQ80
      subst l80 y80 z80
      obtain ⟨rfl, N80q, e80⟩ := hQ80
      have N80 := Fr.app N79 N80q
      refine OwnGo.st (fun _ kk => st80.trans kk) ?_
      show OwnGo p e below s _ _ _ T80 (mkF m 64 #[.val (.long p1), .second, .val (.long p2), .second, .val (.long p3), .second, .val (.ref b54), .val (.int (1 : Int32)), .val (.int (1 : Int32)), .val (.int (0 : Int32)), .val (.int (0 : Int32)), .val (.int (0 : Int32)), .val (.int (0 : Int32)), .unset, .unset, .unset, .unset, .unset, .unset, .unset, .unset, .unset, .unset] [(.int (2 : Int32))])
      refine OwnGo.st (fun _ kk => XS.istore X80.here hx rfl (hb hby at_64) rfl (l' := #[.val (.long p1), .second, .val (.long p2), .second, .val (.long p3), .second, .val (.ref b54), .val (.int (1 : Int32)), .val (.int (1 : Int32)), .val (.int (0 : Int32)), .val (.int (0 : Int32)), .val (.int (0 : Int32)), .val (.int (0 : Int32)), .val (.int (2 : Int32)), .unset, .unset, .unset, .unset, .unset, .unset, .unset, .unset, .unset]) rfl kk) ?_
      show OwnGo p e below s _ _ _ T80 (mkF m 66 #[.val (.long p1), .second, .val (.long p2), .second, .val (.long p3), .second, .val (.ref b54), .val (.int (1 : Int32)), .val (.int (1 : Int32)), .val (.int (0 : Int32)), .val (.int (0 : Int32)), .val (.int (0 : Int32)), .val (.int (0 : Int32)), .val (.int (2 : Int32)), .unset, .unset, .unset, .unset, .unset, .unset, .unset, .unset, .unset] [])
      refine OwnGo.st (fun _ kk => XS.lloadN X80.here hx rfl (hb hby at_66) rfl  kk) ?_
      show OwnGo p e below s _ _ _ T80 (mkF m 67 #[.val (.long p1), .second, .val (.long p2), .second, .val (.long p3), .second, .val (.ref b54), .val (.int (1 : Int32)), .val (.int (1 : Int32)), .val (.int (0 : Int32)), .val (.int (0 : Int32)), .val (.int (0 : Int32)), .val (.int (0 : Int32)), .val (.int (2 : Int32)), .unset, .unset, .unset, .unset, .unset, .unset, .unset, .unset, .unset] [(.long p1)])
      obtain ⟨_, _, ⟨T81, L81, k81, n81⟩, -, X81, ⟨Lc81, hQ81, l81, y81, z81⟩, st81⟩ := Jvm.LawKit.callS X80 hx (y := (⟨"com/example/utsatt/utsatt/KeyHashesAddPinLaw", "norm", "(J)J"⟩ : MethodName)) hown (mvT hZ (hw _ (List.mem_of_getElem? (i := 39) rfl))) (mvT hZ (hw _ (List.mem_of_getElem? (i := 40) rfl))) (mvT hZ (hw _ (List.mem_of_getElem? (i := 41) rfl))) (mvT hZ (hw _ (List.mem_of_getElem? (i := 42) rfl))) (by decide) (backOf (W := 0) (rmnrm l Z a0 hw [] p1 T75.heap n0 Z_ ) hZ (hw _ (List.mem_of_getElem? (i := 42) rfl)) (hw _ (List.mem_of_getElem? (i := 41) rfl)) (by decide) (by decide)) (g := (mkF m 67 #[.val (.long p1), .second, .val (.long p2), .second, .val (.long p3), .second, .val (.ref b54), .val (.int (1 : Int32)), .val (.int (1 : Int32)), .val (.int (0 : Int32)), .val (.int (0 : Int32)), .val (.int (0 : Int32)), .val (.int (0 : Int32)), .val (.int (2 : Int32)), .unset, .unset, .unset, .unset, .unset, .unset, .unset, .unset, .unset] [(.long p1)])) rfl (by rw [hml]; rfl) (argsL := [(.long p1)]) (rest := []) (lenOf pd_2 rfl) rfl (by show 2 * 0 + _ ≤ _; exact Nat.le_of_eq rfl) (hb hby at_67) (fun _ _ => ⟨rfl, e80, (by decide : 2 + 0 ≤ _), (by decide : 18 + 0 ≤ _)⟩)
      dsimp only [Pt.U, Pt.locs, Pt.cells, Pt.slots] at X81 l81 y81 z81 st81 hQ81
      subst l81 y81 z81
      obtain ⟨rfl, N81q, e81⟩ := hQ81
      have N81 := Fr.app N80 N81q
      refine OwnGo.st st81 ?_
      show OwnGo p e below s _ _ _ T81 (mkF m 70 #[.val (.long p1), .second, .val (.long p2), .second, .val (.long p3), .second, .val (.ref b54), .val (.int (1 : Int32)), .val (.int (1 : Int32)), .val (.int (0 : Int32)), .val (.int (0 : Int32)), .val (.int (0 : Int32)), .val (.int (0 : Int32)), .val (.int (2 : Int32)), .unset, .unset, .unset, .unset, .unset, .unset, .unset, .unset, .unset] [(.long (own_st p1))])
      refine OwnGo.st (fun _ kk => XS.lstore X81.here hx rfl (hb hby at_70) rfl (l' := #[.val (.long p1), .second, .val (.long p2), .second, .val (.long p3), .second, .val (.ref b54), .val (.int (1 : Int32)), .val (.int (1 : Int32)), .val (.int (0 : Int32)), .val (.int (0 : Int32)), .val (.int (0 : Int32)), .val (.int (0 : Int32)), .val (.int (2 : Int32)), .val (.long (own_st p1)), .second, .unset, .unset, .unset, .unset, .unset, .unset, .unset]) rfl kk) ?_
      show OwnGo p e below s _ _ _ T81 (mkF m 72 #[.val (.long p1), .second, .val (.long p2), .second, .val (.long p3), .second, .val (.ref b54), .val (.int (1 : Int32)), .val (.int (1 : Int32)), .val (.int (0 : Int32)), .val (.int (0 : Int32)), .val (.int (0 : Int32)), .val (.int (0 : Int32)), .val (.int (2 : Int32)), .val (.long (own_st p1)), .second, .unset, .unset, .unset, .unset, .unset, .unset, .unset] [])
      refine OwnGo.st (fun _ kk => XS.lloadN X81.here hx rfl (hb hby at_72) rfl  kk) ?_
      show OwnGo p e below s _ _ _ T81 (mkF m 73 #[.val (.long p1), .second, .val (.long p2), .second, .val (.long p3), .second, .val (.ref b54), .val (.int (1 : Int32)), .val (.int (1 : Int32)), .val (.int (0 : Int32)), .val (.int (0 : Int32)), .val (.int (0 : Int32)), .val (.int (0 : Int32)), .val (.int (2 : Int32)), .val (.long (own_st p1)), .second, .unset, .unset, .unset, .unset, .unset, .unset, .unset] [(.long p2)])
      obtain ⟨_, _, ⟨T82, L82, k82, n82⟩, -, X82, ⟨Lc82, hQ82, l82, y82, z82⟩, st82⟩ := Jvm.LawKit.callS X81 hx (y := (⟨"com/example/utsatt/utsatt/KeyHashesAddPinLaw", "norm", "(J)J"⟩ : MethodName)) hown (mvT hZ (hw _ (List.mem_of_getElem? (i := 39) rfl))) (mvT hZ (hw _ (List.mem_of_getElem? (i := 40) rfl))) (mvT hZ (hw _ (List.mem_of_getElem? (i := 41) rfl))) (mvT hZ (hw _ (List.mem_of_getElem? (i := 42) rfl))) (by decide) (backOf (W := 0) (rmnrm l Z a0 hw [] p2 T75.heap n0 Z_ ) hZ (hw _ (List.mem_of_getElem? (i := 42) rfl)) (hw _ (List.mem_of_getElem? (i := 41) rfl)) (by decide) (by decide)) (g := (mkF m 73 #[.val (.long p1), .second, .val (.long p2), .second, .val (.long p3), .second, .val (.ref b54), .val (.int (1 : Int32)), .val (.int (1 : Int32)), .val (.int (0 : Int32)), .val (.int (0 : Int32)), .val (.int (0 : Int32)), .val (.int (0 : Int32)), .val (.int (2 : Int32)), .val (.long (own_st p1)), .second, .unset, .unset, .unset, .unset, .unset, .unset, .unset] [(.long p2)])) rfl (by rw [hml]; rfl) (argsL := [(.long p2)]) (rest := []) (lenOf pd_2 rfl) rfl (by show 2 * 0 + _ ≤ _; exact Nat.le_of_eq rfl) (hb hby at_73) (fun _ _ => ⟨rfl, e81, (by decide : 2 + 0 ≤ _), (by decide : 18 + 0 ≤ _)⟩)
      dsimp only [Pt.U, Pt.locs, Pt.cells, Pt.slots] at X82 l82 y82 z82 st82 hQ82
      subst l82 y82 z82
      obtain ⟨rfl, N82q, e82⟩ := hQ82
      have N82 := Fr.app N81 N82q
      refine OwnGo.st st82 ?_
      show OwnGo p e below s _ _ _ T82 (mkF m 76 #[.val (.long p1), .second, .val (.long p2), .second, .val (.long p3), .second, .val (.ref b54), .val (.int (1 : Int32)), .val (.int (1 : Int32)), .val (.int (0 : Int32)), .val (.int (0 : Int32)), .val (.int (0 : Int32)), .val (.int (0 : Int32)), .val (.int (2 : Int32)), .val (.long (own_st p1)), .second, .unset, .unset, .unset, .unset, .unset, .unset, .unset] [(.long (own_st p2))])
      refine OwnGo.st (fun _ kk => XS.lstore X82.here hx rfl (hb hby at_76) rfl (l' := #[.val (.long p1), .second, .val (.long p2), .second, .val (.long p3), .second, .val (.ref b54), .val (.int (1 : Int32)), .val (.int (1 : Int32)), .val (.int (0 : Int32)), .val (.int (0 : Int32)), .val (.int (0 : Int32)), .val (.int (0 : Int32)), .val (.int (2 : Int32)), .val (.long (own_st p1)), .second, .val (.long (own_st p2)), .second, .unset, .unset, .unset, .unset, .unset]) rfl kk) ?_
      show OwnGo p e below s _ _ _ T82 (mkF m 78 #[.val (.long p1), .second, .val (.long p2), .second, .val (.long p3), .second, .val (.ref b54), .val (.int (1 : Int32)), .val (.int (1 : Int32)), .val (.int (0 : Int32)), .val (.int (0 : Int32)), .val (.int (0 : Int32)), .val (.int (0 : Int32)), .val (.int (2 : Int32)), .val (.long (own_st p1)), .second, .val (.long (own_st p2)), .second, .unset, .unset, .unset, .unset, .unset] [])
      refine OwnGo.st (fun _ kk => XS.lload X82.here hx rfl (hb hby at_78) rfl  kk) ?_
      show OwnGo p e below s _ _ _ T82 (mkF m 80 #[.val (.long p1), .second, .val (.long p2), .second, .val (.long p3), .second, .val (.ref b54), .val (.int (1 : Int32)), .val (.int (1 : Int32)), .val (.int (0 : Int32)), .val (.int (0 : Int32)), .val (.int (0 : Int32)), .val (.int (0 : Int32)), .val (.int (2 : Int32)), .val (.long (own_st p1)), .second, .val (.long (own_st p2)), .second, .unset, .unset, .unset, .unset, .unset] [(.long p3)])
      obtain ⟨_, _, ⟨T83, L83, k83, n83⟩, -, X83, ⟨Lc83, hQ83, l83, y83, z83⟩, st83⟩ := Jvm.LawKit.callS X82 hx (y := (⟨"com/example/utsatt/utsatt/KeyHashesAddPinLaw", "norm", "(J)J"⟩ : MethodName)) hown (mvT hZ (hw _ (List.mem_of_getElem? (i := 39) rfl))) (mvT hZ (hw _ (List.mem_of_getElem? (i := 40) rfl))) (mvT hZ (hw _ (List.mem_of_getElem? (i := 41) rfl))) (mvT hZ (hw _ (List.mem_of_getElem? (i := 42) rfl))) (by decide) (backOf (W := 0) (rmnrm l Z a0 hw [] p3 T75.heap n0 Z_ ) hZ (hw _ (List.mem_of_getElem? (i := 42) rfl)) (hw _ (List.mem_of_getElem? (i := 41) rfl)) (by decide) (by decide)) (g := (mkF m 80 #[.val (.long p1), .second, .val (.long p2), .second, .val (.long p3), .second, .val (.ref b54), .val (.int (1 : Int32)), .val (.int (1 : Int32)), .val (.int (0 : Int32)), .val (.int (0 : Int32)), .val (.int (0 : Int32)), .val (.int (0 : Int32)), .val (.int (2 : Int32)), .val (.long (own_st p1)), .second, .val (.long (own_st p2)), .second, .unset, .unset, .unset, .unset, .unset] [(.long p3)])) rfl (by rw [hml]; rfl) (argsL := [(.long p3)]) (rest := []) (lenOf pd_2 rfl) rfl (by show 2 * 0 + _ ≤ _; exact Nat.le_of_eq rfl) (hb hby at_80) (fun _ _ => ⟨rfl, e82, (by decide : 2 + 0 ≤ _), (by decide : 18 + 0 ≤ _)⟩)
      dsimp only [Pt.U, Pt.locs, Pt.cells, Pt.slots] at X83 l83 y83 z83 st83 hQ83
      subst l83 y83 z83
      obtain ⟨rfl, N83q, e83⟩ := hQ83
      have N83 := Fr.app N82 N83q
      refine OwnGo.st st83 ?_
      show OwnGo p e below s _ _ _ T83 (mkF m 83 #[.val (.long p1), .second, .val (.long p2), .second, .val (.long p3), .second, .val (.ref b54), .val (.int (1 : Int32)), .val (.int (1 : Int32)), .val (.int (0 : Int32)), .val (.int (0 : Int32)), .val (.int (0 : Int32)), .val (.int (0 : Int32)), .val (.int (2 : Int32)), .val (.long (own_st p1)), .second, .val (.long (own_st p2)), .second, .unset, .unset, .unset, .unset, .unset] [(.long (own_st p3))])
      refine OwnGo.st (fun _ kk => XS.lstore X83.here hx rfl (hb hby at_83) rfl (l' := #[.val (.long p1), .second, .val (.long p2), .second, .val (.long p3), .second, .val (.ref b54), .val (.int (1 : Int32)), .val (.int (1 : Int32)), .val (.int (0 : Int32)), .val (.int (0 : Int32)), .val (.int (0 : Int32)), .val (.int (0 : Int32)), .val (.int (2 : Int32)), .val (.long (own_st p1)), .second, .val (.long (own_st p2)), .second, .val (.long (own_st p3)), .second, .unset, .unset, .unset]) rfl kk) ?_
      show OwnGo p e below s _ _ _ T83 (mkF m 85 #[.val (.long p1), .second, .val (.long p2), .second, .val (.long p3), .second, .val (.ref b54), .val (.int (1 : Int32)), .val (.int (1 : Int32)), .val (.int (0 : Int32)), .val (.int (0 : Int32)), .val (.int (0 : Int32)), .val (.int (0 : Int32)), .val (.int (2 : Int32)), .val (.long (own_st p1)), .second, .val (.long (own_st p2)), .second, .val (.long (own_st p3)), .second, .unset, .unset, .unset] [])
      refine OwnGo.st (fun _ kk => XS.lload X83.here hx rfl (hb hby at_85) rfl  kk) ?_
      show OwnGo p e below s _ _ _ T83 (mkF m 87 #[.val (.long p1), .second, .val (.long p2), .second, .val (.long p3), .second, .val (.ref b54), .val (.int (1 : Int32)), .val (.int (1 : Int32)), .val (.int (0 : Int32)), .val (.int (0 : Int32)), .val (.int (0 : Int32)), .val (.int (0 : Int32)), .val (.int (2 : Int32)), .val (.long (own_st p1)), .second, .val (.long (own_st p2)), .second, .val (.long (own_st p3)), .second, .unset, .unset, .unset] [(.long (own_st p2))])
      refine OwnGo.st (fun _ kk => XS.lload X83.here hx rfl (hb hby at_87) rfl  kk) ?_
      show OwnGo p e below s _ _ _ T83 (mkF m 89 #[.val (.long p1), .second, .val (.long p2), .second, .val (.long p3), .second, .val (.ref b54), .val (.int (1 : Int32)), .val (.int (1 : Int32)), .val (.int (0 : Int32)), .val (.int (0 : Int32)), .val (.int (0 : Int32)), .val (.int (0 : Int32)), .val (.int (2 : Int32)), .val (.long (own_st p1)), .second, .val (.long (own_st p2)), .second, .val (.long (own_st p3)), .second, .unset, .unset, .unset] [(.long (own_st p1)), (.long (own_st p2))])
      refine OwnGo.st (fun _ kk => XS.lcmp X83.here hx rfl (hb hby at_89) rfl kk) ?_
      show OwnGo p e below s _ _ _ T83 (mkF m 90 #[.val (.long p1), .second, .val (.long p2), .second, .val (.long p3), .second, .val (.ref b54), .val (.int (1 : Int32)), .val (.int (1 : Int32)), .val (.int (0 : Int32)), .val (.int (0 : Int32)), .val (.int (0 : Int32)), .val (.int (0 : Int32)), .val (.int (2 : Int32)), .val (.long (own_st p1)), .second, .val (.long (own_st p2)), .second, .val (.long (own_st p3)), .second, .unset, .unset, .unset] [(.int (lcmpW (own_st p2) (own_st p1)))])
      refine OwnGo.st (fun _ kk => XS.ifNo X83.here hx rfl (hb hby at_90) rfl ((if0 _ _).trans (feq ((fun q => hba ((lw_eq _ _).1 q)) : ¬ ((lcmpW (own_st p2) (own_st p1)) = (0 : Int32)))).1) kk) ?_
      show OwnGo p e below s _ _ _ T83 (mkF m 93 #[.val (.long p1), .second, .val (.long p2), .second, .val (.long p3), .second, .val (.ref b54), .val (.int (1 : Int32)), .val (.int (1 : Int32)), .val (.int (0 : Int32)), .val (.int (0 : Int32)), .val (.int (0 : Int32)), .val (.int (0 : Int32)), .val (.int (2 : Int32)), .val (.long (own_st p1)), .second, .val (.long (own_st p2)), .second, .val (.long (own_st p3)), .second, .unset, .unset, .unset] [])
      refine OwnGo.st (fun _ kk => XS.iconst X83.here hx rfl (hb hby at_93) kk) ?_
      show OwnGo p e below s _ _ _ T83 (mkF m 94 #[.val (.long p1), .second, .val (.long p2), .second, .val (.long p3), .second, .val (.ref b54), .val (.int (1 : Int32)), .val (.int (1 : Int32)), .val (.int (0 : Int32)), .val (.int (0 : Int32)), .val (.int (0 : Int32)), .val (.int (0 : Int32)), .val (.int (2 : Int32)), .val (.long (own_st p1)), .second, .val (.long (own_st p2)), .second, .val (.long (own_st p3)), .second, .unset, .unset, .unset] [(.int (1 : Int32))])
      refine OwnGo.st (fun _ kk => XS.goto X83.here hx rfl (pc0 := 94) (pc' := 98) rfl (hb hby at_94) (by decide) (by decide) kk) ?_
      show OwnGo p e below s _ _ _ T83 (mkF m 98 #[.val (.long p1), .second, .val (.long p2), .second, .val (.long p3), .second, .val (.ref b54), .val (.int (1 : Int32)), .val (.int (1 : Int32)), .val (.int (0 : Int32)), .val (.int (0 : Int32)), .val (.int (0 : Int32)), .val (.int (0 : Int32)), .val (.int (2 : Int32)), .val (.long (own_st p1)), .second, .val (.long (own_st p2)), .second, .val (.long (own_st p3)), .second, .unset, .unset, .unset] [(.int (1 : Int32))])
      refine OwnGo.st (fun _ kk => XS.istore X83.here hx rfl (hb hby at_98) rfl (l' := #[.val (.long p1), .second, .val (.long p2), .second, .val (.long p3), .second, .val (.ref b54), .val (.int (1 : Int32)), .val (.int (1 : Int32)), .val (.int (0 : Int32)), .val (.int (0 : Int32)), .val (.int (0 : Int32)), .val (.int (0 : Int32)), .val (.int (2 : Int32)), .val (.long (own_st p1)), .second, .val (.long (own_st p2)), .second, .val (.long (own_st p3)), .second, .val (.int (1 : Int32)), .unset, .unset]) rfl kk) ?_
      show OwnGo p e below s _ _ _ T83 (mkF m 100 #[.val (.long p1), .second, .val (.long p2), .second, .val (.long p3), .second, .val (.ref b54), .val (.int (1 : Int32)), .val (.int (1 : Int32)), .val (.int (0 : Int32)), .val (.int (0 : Int32)), .val (.int (0 : Int32)), .val (.int (0 : Int32)), .val (.int (2 : Int32)), .val (.long (own_st p1)), .second, .val (.long (own_st p2)), .second, .val (.long (own_st p3)), .second, .val (.int (1 : Int32)), .unset, .unset] [])
      refine OwnGo.st (fun _ kk => XS.lload X83.here hx rfl (hb hby at_100) rfl  kk) ?_
      show OwnGo p e below s _ _ _ T83 (mkF m 102 #[.val (.long p1), .second, .val (.long p2), .second, .val (.long p3), .second, .val (.ref b54), .val (.int (1 : Int32)), .val (.int (1 : Int32)), .val (.int (0 : Int32)), .val (.int (0 : Int32)), .val (.int (0 : Int32)), .val (.int (0 : Int32)), .val (.int (2 : Int32)), .val (.long (own_st p1)), .second, .val (.long (own_st p2)), .second, .val (.long (own_st p3)), .second, .val (.int (1 : Int32)), .unset, .unset] [(.long (own_st p3))])
      refine OwnGo.st (fun _ kk => XS.lload X83.here hx rfl (hb hby at_102) rfl  kk) ?_
      show OwnGo p e below s _ _ _ T83 (mkF m 104 #[.val (.long p1), .second, .val (.long p2), .second, .val (.long p3), .second, .val (.ref b54), .val (.int (1 : Int32)), .val (.int (1 : Int32)), .val (.int (0 : Int32)), .val (.int (0 : Int32)), .val (.int (0 : Int32)), .val (.int (0 : Int32)), .val (.int (2 : Int32)), .val (.long (own_st p1)), .second, .val (.long (own_st p2)), .second, .val (.long (own_st p3)), .second, .val (.int (1 : Int32)), .unset, .unset] [(.long (own_st p1)), (.long (own_st p3))])
      refine OwnGo.st (fun _ kk => XS.lcmp X83.here hx rfl (hb hby at_104) rfl kk) ?_
      show OwnGo p e below s _ _ _ T83 (mkF m 105 #[.val (.long p1), .second, .val (.long p2), .second, .val (.long p3), .second, .val (.ref b54), .val (.int (1 : Int32)), .val (.int (1 : Int32)), .val (.int (0 : Int32)), .val (.int (0 : Int32)), .val (.int (0 : Int32)), .val (.int (0 : Int32)), .val (.int (2 : Int32)), .val (.long (own_st p1)), .second, .val (.long (own_st p2)), .second, .val (.long (own_st p3)), .second, .val (.int (1 : Int32)), .unset, .unset] [(.int (lcmpW (own_st p3) (own_st p1)))])
      by_cases hca : own_st p3 = own_st p1
      · refine OwnGo.st (fun _ kk => XS.ifYes X83.here hx rfl (pc0 := 105) (pc' := 120) rfl (hb hby at_105) rfl ((if0 _ _).trans (teq (((lw_eq _ _).2 hca) : (lcmpW (own_st p3) (own_st p1)) = (0 : Int32))).1) (by decide) (by decide) kk) ?_
        show OwnGo p e below s _ _ _ T83 (mkF m 120 #[.val (.long p1), .second, .val (.long p2), .second, .val (.long p3), .second, .val (.ref b54), .val (.int (1 : Int32)), .val (.int (1 : Int32)), .val (.int (0 : Int32)), .val (.int (0 : Int32)), .val (.int (0 : Int32)), .val (.int (0 : Int32)), .val (.int (2 : Int32)), .val (.long (own_st p1)), .second, .val (.long (own_st p2)), .second, .val (.long (own_st p3)), .second, .val (.int (1 : Int32)), .unset, .unset] [])
        refine OwnGo.st (fun _ kk => XS.iconst X83.here hx rfl (hb hby at_120) kk) ?_
        show OwnGo p e below s _ _ _ T83 (mkF m 121 #[.val (.long p1), .second, .val (.long p2), .second, .val (.long p3), .second, .val (.ref b54), .val (.int (1 : Int32)), .val (.int (1 : Int32)), .val (.int (0 : Int32)), .val (.int (0 : Int32)), .val (.int (0 : Int32)), .val (.int (0 : Int32)), .val (.int (2 : Int32)), .val (.long (own_st p1)), .second, .val (.long (own_st p2)), .second, .val (.long (own_st p3)), .second, .val (.int (1 : Int32)), .unset, .unset] [(.int (0 : Int32))])
        refine OwnGo.st (fun _ kk => XS.istore X83.here hx rfl (hb hby at_121) rfl (l' := #[.val (.long p1), .second, .val (.long p2), .second, .val (.long p3), .second, .val (.ref b54), .val (.int (1 : Int32)), .val (.int (1 : Int32)), .val (.int (0 : Int32)), .val (.int (0 : Int32)), .val (.int (0 : Int32)), .val (.int (0 : Int32)), .val (.int (2 : Int32)), .val (.long (own_st p1)), .second, .val (.long (own_st p2)), .second, .val (.long (own_st p3)), .second, .val (.int (1 : Int32)), .val (.int (0 : Int32)), .unset]) rfl kk) ?_
        show OwnGo p e below s _ _ _ T83 (mkF m 123 #[.val (.long p1), .second, .val (.long p2), .second, .val (.long p3), .second, .val (.ref b54), .val (.int (1 : Int32)), .val (.int (1 : Int32)), .val (.int (0 : Int32)), .val (.int (0 : Int32)), .val (.int (0 : Int32)), .val (.int (0 : Int32)), .val (.int (2 : Int32)), .val (.long (own_st p1)), .second, .val (.long (own_st p2)), .second, .val (.long (own_st p3)), .second, .val (.int (1 : Int32)), .val (.int (0 : Int32)), .unset] [])
        refine OwnGo.st (fun _ kk => XS.iconst X83.here hx rfl (hb hby at_123) kk) ?_
        show OwnGo p e below s _ _ _ T83 (mkF m 124 #[.val (.long p1), .second, .val (.long p2), .second, .val (.long p3), .second, .val (.ref b54), .val (.int (1 : Int32)), .val (.int (1 : Int32)), .val (.int (0 : Int32)), .val (.int (0 : Int32)), .val (.int (0 : Int32)), .val (.int (0 : Int32)), .val (.int (2 : Int32)), .val (.long (own_st p1)), .second, .val (.long (own_st p2)), .second, .val (.long (own_st p3)), .second, .val (.int (1 : Int32)), .val (.int (0 : Int32)), .unset] [(.int (1 : Int32))])
        refine OwnGo.st (fun _ kk => XS.iload X83.here hx rfl (hb hby at_124) rfl  kk) ?_
        show OwnGo p e below s _ _ _ T83 (mkF m 126 #[.val (.long p1), .second, .val (.long p2), .second, .val (.long p3), .second, .val (.ref b54), .val (.int (1 : Int32)), .val (.int (1 : Int32)), .val (.int (0 : Int32)), .val (.int (0 : Int32)), .val (.int (0 : Int32)), .val (.int (0 : Int32)), .val (.int (2 : Int32)), .val (.long (own_st p1)), .second, .val (.long (own_st p2)), .second, .val (.long (own_st p3)), .second, .val (.int (1 : Int32)), .val (.int (0 : Int32)), .unset] [(.int (1 : Int32)), (.int (1 : Int32))])
        refine OwnGo.st (fun _ kk => XS.ifNo X83.here hx rfl (hb hby at_126) rfl ((if0 _ _).trans (feq ((by decide) : ¬ ((1 : Int32) = (0 : Int32)))).1) kk) ?_
        show OwnGo p e below s _ _ _ T83 (mkF m 129 #[.val (.long p1), .second, .val (.long p2), .second, .val (.long p3), .second, .val (.ref b54), .val (.int (1 : Int32)), .val (.int (1 : Int32)), .val (.int (0 : Int32)), .val (.int (0 : Int32)), .val (.int (0 : Int32)), .val (.int (0 : Int32)), .val (.int (2 : Int32)), .val (.long (own_st p1)), .second, .val (.long (own_st p2)), .second, .val (.long (own_st p3)), .second, .val (.int (1 : Int32)), .val (.int (0 : Int32)), .unset] [(.int (1 : Int32))])
        refine OwnGo.st (fun _ kk => XS.iconst X83.here hx rfl (hb hby at_129) kk) ?_
        show OwnGo p e below s _ _ _ T83 (mkF m 130 #[.val (.long p1), .second, .val (.long p2), .second, .val (.long p3), .second, .val (.ref b54), .val (.int (1 : Int32)), .val (.int (1 : Int32)), .val (.int (0 : Int32)), .val (.int (0 : Int32)), .val (.int (0 : Int32)), .val (.int (0 : Int32)), .val (.int (2 : Int32)), .val (.long (own_st p1)), .second, .val (.long (own_st p2)), .second, .val (.long (own_st p3)), .second, .val (.int (1 : Int32)), .val (.int (0 : Int32)), .unset] [(.int (1 : Int32)), (.int (1 : Int32))])
        refine OwnGo.st (fun _ kk => XS.goto X83.here hx rfl (pc0 := 130) (pc' := 134) rfl (hb hby at_130) (by decide) (by decide) kk) ?_
        show OwnGo p e below s _ _ _ T83 (mkF m 134 #[.val (.long p1), .second, .val (.long p2), .second, .val (.long p3), .second, .val (.ref b54), .val (.int (1 : Int32)), .val (.int (1 : Int32)), .val (.int (0 : Int32)), .val (.int (0 : Int32)), .val (.int (0 : Int32)), .val (.int (0 : Int32)), .val (.int (2 : Int32)), .val (.long (own_st p1)), .second, .val (.long (own_st p2)), .second, .val (.long (own_st p3)), .second, .val (.int (1 : Int32)), .val (.int (0 : Int32)), .unset] [(.int (1 : Int32)), (.int (1 : Int32))])
        refine OwnGo.st (fun _ kk => XS.iadd X83.here hx rfl (hb hby at_134) rfl kk) ?_
        show OwnGo p e below s _ _ _ T83 (mkF m 135 #[.val (.long p1), .second, .val (.long p2), .second, .val (.long p3), .second, .val (.ref b54), .val (.int (1 : Int32)), .val (.int (1 : Int32)), .val (.int (0 : Int32)), .val (.int (0 : Int32)), .val (.int (0 : Int32)), .val (.int (0 : Int32)), .val (.int (2 : Int32)), .val (.long (own_st p1)), .second, .val (.long (own_st p2)), .second, .val (.long (own_st p3)), .second, .val (.int (1 : Int32)), .val (.int (0 : Int32)), .unset] [(.int (2 : Int32))])
        refine OwnGo.st (fun _ kk => XS.iload X83.here hx rfl (hb hby at_135) rfl  kk) ?_
        show OwnGo p e below s _ _ _ T83 (mkF m 137 #[.val (.long p1), .second, .val (.long p2), .second, .val (.long p3), .second, .val (.ref b54), .val (.int (1 : Int32)), .val (.int (1 : Int32)), .val (.int (0 : Int32)), .val (.int (0 : Int32)), .val (.int (0 : Int32)), .val (.int (0 : Int32)), .val (.int (2 : Int32)), .val (.long (own_st p1)), .second, .val (.long (own_st p2)), .second, .val (.long (own_st p3)), .second, .val (.int (1 : Int32)), .val (.int (0 : Int32)), .unset] [(.int (0 : Int32)), (.int (2 : Int32))])
        refine OwnGo.st (fun _ kk => XS.ifYes X83.here hx rfl (pc0 := 137) (pc' := 144) rfl (hb hby at_137) rfl ((if0 _ _).trans (teq ((by decide) : (0 : Int32) = (0 : Int32))).1) (by decide) (by decide) kk) ?_
        show OwnGo p e below s _ _ _ T83 (mkF m 144 #[.val (.long p1), .second, .val (.long p2), .second, .val (.long p3), .second, .val (.ref b54), .val (.int (1 : Int32)), .val (.int (1 : Int32)), .val (.int (0 : Int32)), .val (.int (0 : Int32)), .val (.int (0 : Int32)), .val (.int (0 : Int32)), .val (.int (2 : Int32)), .val (.long (own_st p1)), .second, .val (.long (own_st p2)), .second, .val (.long (own_st p3)), .second, .val (.int (1 : Int32)), .val (.int (0 : Int32)), .unset] [(.int (2 : Int32))])
        refine OwnGo.st (fun _ kk => XS.iconst X83.here hx rfl (hb hby at_144) kk) ?_
        show OwnGo p e below s _ _ _ T83 (mkF m 145 #[.val (.long p1), .second, .val (.long p2), .second, .val (.long p3), .second, .val (.ref b54), .val (.int (1 : Int32)), .val (.int (1 : Int32)), .val (.int (0 : Int32)), .val (.int (0 : Int32)), .val (.int (0 : Int32)), .val (.int (0 : Int32)), .val (.int (2 : Int32)), .val (.long (own_st p1)), .second, .val (.long (own_st p2)), .second, .val (.long (own_st p3)), .second, .val (.int (1 : Int32)), .val (.int (0 : Int32)), .unset] [(.int (0 : Int32)), (.int (2 : Int32))])
        refine OwnGo.st (fun _ kk => XS.iadd X83.here hx rfl (hb hby at_145) rfl kk) ?_
        show OwnGo p e below s _ _ _ T83 (mkF m 146 #[.val (.long p1), .second, .val (.long p2), .second, .val (.long p3), .second, .val (.ref b54), .val (.int (1 : Int32)), .val (.int (1 : Int32)), .val (.int (0 : Int32)), .val (.int (0 : Int32)), .val (.int (0 : Int32)), .val (.int (0 : Int32)), .val (.int (2 : Int32)), .val (.long (own_st p1)), .second, .val (.long (own_st p2)), .second, .val (.long (own_st p3)), .second, .val (.int (1 : Int32)), .val (.int (0 : Int32)), .unset] [(.int (2 : Int32))])
        refine OwnGo.st (fun _ kk => XS.istore X83.here hx rfl (hb hby at_146) rfl (l' := #[.val (.long p1), .second, .val (.long p2), .second, .val (.long p3), .second, .val (.ref b54), .val (.int (1 : Int32)), .val (.int (1 : Int32)), .val (.int (0 : Int32)), .val (.int (0 : Int32)), .val (.int (0 : Int32)), .val (.int (0 : Int32)), .val (.int (2 : Int32)), .val (.long (own_st p1)), .second, .val (.long (own_st p2)), .second, .val (.long (own_st p3)), .second, .val (.int (1 : Int32)), .val (.int (0 : Int32)), .val (.int (2 : Int32))]) rfl kk) ?_
        show OwnGo p e below s _ _ _ T83 (mkF m 148 #[.val (.long p1), .second, .val (.long p2), .second, .val (.long p3), .second, .val (.ref b54), .val (.int (1 : Int32)), .val (.int (1 : Int32)), .val (.int (0 : Int32)), .val (.int (0 : Int32)), .val (.int (0 : Int32)), .val (.int (0 : Int32)), .val (.int (2 : Int32)), .val (.long (own_st p1)), .second, .val (.long (own_st p2)), .second, .val (.long (own_st p3)), .second, .val (.int (1 : Int32)), .val (.int (0 : Int32)), .val (.int (2 : Int32))] [])
        refine OwnGo.st (fun _ kk => XS.iload X83.here hx rfl (hb hby at_148) rfl  kk) ?_
        show OwnGo p e below s _ _ _ T83 (mkF m 150 #[.val (.long p1), .second, .val (.long p2), .second, .val (.long p3), .second, .val (.ref b54), .val (.int (1 : Int32)), .val (.int (1 : Int32)), .val (.int (0 : Int32)), .val (.int (0 : Int32)), .val (.int (0 : Int32)), .val (.int (0 : Int32)), .val (.int (2 : Int32)), .val (.long (own_st p1)), .second, .val (.long (own_st p2)), .second, .val (.long (own_st p3)), .second, .val (.int (1 : Int32)), .val (.int (0 : Int32)), .val (.int (2 : Int32))] [(.int (1 : Int32))])
        refine OwnGo.st (fun _ kk => XS.ifNo X83.here hx rfl (hb hby at_150) rfl ((if0 _ _).trans (feq ((by decide) : ¬ ((1 : Int32) = (0 : Int32)))).1) kk) ?_
        show OwnGo p e below s _ _ _ T83 (mkF m 153 #[.val (.long p1), .second, .val (.long p2), .second, .val (.long p3), .second, .val (.ref b54), .val (.int (1 : Int32)), .val (.int (1 : Int32)), .val (.int (0 : Int32)), .val (.int (0 : Int32)), .val (.int (0 : Int32)), .val (.int (0 : Int32)), .val (.int (2 : Int32)), .val (.long (own_st p1)), .second, .val (.long (own_st p2)), .second, .val (.long (own_st p3)), .second, .val (.int (1 : Int32)), .val (.int (0 : Int32)), .val (.int (2 : Int32))] [])
        refine OwnGo.st (fun _ kk => XS.iload X83.here hx rfl (hb hby at_153) rfl  kk) ?_
        show OwnGo p e below s _ _ _ T83 (mkF m 155 #[.val (.long p1), .second, .val (.long p2), .second, .val (.long p3), .second, .val (.ref b54), .val (.int (1 : Int32)), .val (.int (1 : Int32)), .val (.int (0 : Int32)), .val (.int (0 : Int32)), .val (.int (0 : Int32)), .val (.int (0 : Int32)), .val (.int (2 : Int32)), .val (.long (own_st p1)), .second, .val (.long (own_st p2)), .second, .val (.long (own_st p3)), .second, .val (.int (1 : Int32)), .val (.int (0 : Int32)), .val (.int (2 : Int32))] [(.int (1 : Int32))])
        refine OwnGo.st (fun _ kk => XS.iload X83.here hx rfl (hb hby at_155) rfl  kk) ?_
        show OwnGo p e below s _ _ _ T83 (mkF m 157 #[.val (.long p1), .second, .val (.long p2), .second, .val (.long p3), .second, .val (.ref b54), .val (.int (1 : Int32)), .val (.int (1 : Int32)), .val (.int (0 : Int32)), .val (.int (0 : Int32)), .val (.int (0 : Int32)), .val (.int (0 : Int32)), .val (.int (2 : Int32)), .val (.long (own_st p1)), .second, .val (.long (own_st p2)), .second, .val (.long (own_st p3)), .second, .val (.int (1 : Int32)), .val (.int (0 : Int32)), .val (.int (2 : Int32))] [(.int (1 : Int32)), (.int (1 : Int32))])
        refine OwnGo.st (fun _ kk => XS.icmpNo X83.here hx rfl (hb hby at_157) rfl (teq ((by decide) : (1 : Int32) = (1 : Int32))).2 kk) ?_
        show OwnGo p e below s _ _ _ T83 (mkF m 160 #[.val (.long p1), .second, .val (.long p2), .second, .val (.long p3), .second, .val (.ref b54), .val (.int (1 : Int32)), .val (.int (1 : Int32)), .val (.int (0 : Int32)), .val (.int (0 : Int32)), .val (.int (0 : Int32)), .val (.int (0 : Int32)), .val (.int (2 : Int32)), .val (.long (own_st p1)), .second, .val (.long (own_st p2)), .second, .val (.long (own_st p3)), .second, .val (.int (1 : Int32)), .val (.int (0 : Int32)), .val (.int (2 : Int32))] [])
        refine OwnGo.st (fun _ kk => XS.iload X83.here hx rfl (hb hby at_160) rfl  kk) ?_
        show OwnGo p e below s _ _ _ T83 (mkF m 162 #[.val (.long p1), .second, .val (.long p2), .second, .val (.long p3), .second, .val (.ref b54), .val (.int (1 : Int32)), .val (.int (1 : Int32)), .val (.int (0 : Int32)), .val (.int (0 : Int32)), .val (.int (0 : Int32)), .val (.int (0 : Int32)), .val (.int (2 : Int32)), .val (.long (own_st p1)), .second, .val (.long (own_st p2)), .second, .val (.long (own_st p3)), .second, .val (.int (1 : Int32)), .val (.int (0 : Int32)), .val (.int (2 : Int32))] [(.int (0 : Int32))])
        refine OwnGo.st (fun _ kk => XS.iload X83.here hx rfl (hb hby at_162) rfl  kk) ?_
        show OwnGo p e below s _ _ _ T83 (mkF m 164 #[.val (.long p1), .second, .val (.long p2), .second, .val (.long p3), .second, .val (.ref b54), .val (.int (1 : Int32)), .val (.int (1 : Int32)), .val (.int (0 : Int32)), .val (.int (0 : Int32)), .val (.int (0 : Int32)), .val (.int (0 : Int32)), .val (.int (2 : Int32)), .val (.long (own_st p1)), .second, .val (.long (own_st p2)), .second, .val (.long (own_st p3)), .second, .val (.int (1 : Int32)), .val (.int (0 : Int32)), .val (.int (2 : Int32))] [(.int (0 : Int32)), (.int (0 : Int32))])
        refine OwnGo.st (fun _ kk => XS.icmpNo X83.here hx rfl (hb hby at_164) rfl (teq ((by decide) : (0 : Int32) = (0 : Int32))).2 kk) ?_
        show OwnGo p e below s _ _ _ T83 (mkF m 167 #[.val (.long p1), .second, .val (.long p2), .second, .val (.long p3), .second, .val (.ref b54), .val (.int (1 : Int32)), .val (.int (1 : Int32)), .val (.int (0 : Int32)), .val (.int (0 : Int32)), .val (.int (0 : Int32)), .val (.int (0 : Int32)), .val (.int (2 : Int32)), .val (.long (own_st p1)), .second, .val (.long (own_st p2)), .second, .val (.long (own_st p3)), .second, .val (.int (1 : Int32)), .val (.int (0 : Int32)), .val (.int (2 : Int32))] [])
        refine OwnGo.st (fun _ kk => XS.iload X83.here hx rfl (hb hby at_167) rfl  kk) ?_
        show OwnGo p e below s _ _ _ T83 (mkF m 169 #[.val (.long p1), .second, .val (.long p2), .second, .val (.long p3), .second, .val (.ref b54), .val (.int (1 : Int32)), .val (.int (1 : Int32)), .val (.int (0 : Int32)), .val (.int (0 : Int32)), .val (.int (0 : Int32)), .val (.int (0 : Int32)), .val (.int (2 : Int32)), .val (.long (own_st p1)), .second, .val (.long (own_st p2)), .second, .val (.long (own_st p3)), .second, .val (.int (1 : Int32)), .val (.int (0 : Int32)), .val (.int (2 : Int32))] [(.int (0 : Int32))])
        refine OwnGo.st (fun _ kk => XS.ifNo X83.here hx rfl (hb hby at_169) rfl ((if0 _ _).trans (teq ((by decide) : (0 : Int32) = (0 : Int32))).2) kk) ?_
        show OwnGo p e below s _ _ _ T83 (mkF m 172 #[.val (.long p1), .second, .val (.long p2), .second, .val (.long p3), .second, .val (.ref b54), .val (.int (1 : Int32)), .val (.int (1 : Int32)), .val (.int (0 : Int32)), .val (.int (0 : Int32)), .val (.int (0 : Int32)), .val (.int (0 : Int32)), .val (.int (2 : Int32)), .val (.long (own_st p1)), .second, .val (.long (own_st p2)), .second, .val (.long (own_st p3)), .second, .val (.int (1 : Int32)), .val (.int (0 : Int32)), .val (.int (2 : Int32))] [])
        refine OwnGo.st (fun _ kk => XS.iload X83.here hx rfl (hb hby at_172) rfl  kk) ?_
        show OwnGo p e below s _ _ _ T83 (mkF m 174 #[.val (.long p1), .second, .val (.long p2), .second, .val (.long p3), .second, .val (.ref b54), .val (.int (1 : Int32)), .val (.int (1 : Int32)), .val (.int (0 : Int32)), .val (.int (0 : Int32)), .val (.int (0 : Int32)), .val (.int (0 : Int32)), .val (.int (2 : Int32)), .val (.long (own_st p1)), .second, .val (.long (own_st p2)), .second, .val (.long (own_st p3)), .second, .val (.int (1 : Int32)), .val (.int (0 : Int32)), .val (.int (2 : Int32))] [(.int (0 : Int32))])
        refine OwnGo.st (fun _ kk => XS.ifNo X83.here hx rfl (hb hby at_174) rfl ((if0 _ _).trans (teq ((by decide) : (0 : Int32) = (0 : Int32))).2) kk) ?_
        show OwnGo p e below s _ _ _ T83 (mkF m 177 #[.val (.long p1), .second, .val (.long p2), .second, .val (.long p3), .second, .val (.ref b54), .val (.int (1 : Int32)), .val (.int (1 : Int32)), .val (.int (0 : Int32)), .val (.int (0 : Int32)), .val (.int (0 : Int32)), .val (.int (0 : Int32)), .val (.int (2 : Int32)), .val (.long (own_st p1)), .second, .val (.long (own_st p2)), .second, .val (.long (own_st p3)), .second, .val (.int (1 : Int32)), .val (.int (0 : Int32)), .val (.int (2 : Int32))] [])
        refine OwnGo.st (fun _ kk => XS.iload X83.here hx rfl (hb hby at_177) rfl  kk) ?_
        show OwnGo p e below s _ _ _ T83 (mkF m 179 #[.val (.long p1), .second, .val (.long p2), .second, .val (.long p3), .second, .val (.ref b54), .val (.int (1 : Int32)), .val (.int (1 : Int32)), .val (.int (0 : Int32)), .val (.int (0 : Int32)), .val (.int (0 : Int32)), .val (.int (0 : Int32)), .val (.int (2 : Int32)), .val (.long (own_st p1)), .second, .val (.long (own_st p2)), .second, .val (.long (own_st p3)), .second, .val (.int (1 : Int32)), .val (.int (0 : Int32)), .val (.int (2 : Int32))] [(.int (0 : Int32))])
        refine OwnGo.st (fun _ kk => XS.ifNo X83.here hx rfl (hb hby at_179) rfl ((if0 _ _).trans (teq ((by decide) : (0 : Int32) = (0 : Int32))).2) kk) ?_
        show OwnGo p e below s _ _ _ T83 (mkF m 182 #[.val (.long p1), .second, .val (.long p2), .second, .val (.long p3), .second, .val (.ref b54), .val (.int (1 : Int32)), .val (.int (1 : Int32)), .val (.int (0 : Int32)), .val (.int (0 : Int32)), .val (.int (0 : Int32)), .val (.int (0 : Int32)), .val (.int (2 : Int32)), .val (.long (own_st p1)), .second, .val (.long (own_st p2)), .second, .val (.long (own_st p3)), .second, .val (.int (1 : Int32)), .val (.int (0 : Int32)), .val (.int (2 : Int32))] [])
        refine OwnGo.st (fun _ kk => XS.iload X83.here hx rfl (hb hby at_182) rfl  kk) ?_
        show OwnGo p e below s _ _ _ T83 (mkF m 184 #[.val (.long p1), .second, .val (.long p2), .second, .val (.long p3), .second, .val (.ref b54), .val (.int (1 : Int32)), .val (.int (1 : Int32)), .val (.int (0 : Int32)), .val (.int (0 : Int32)), .val (.int (0 : Int32)), .val (.int (0 : Int32)), .val (.int (2 : Int32)), .val (.long (own_st p1)), .second, .val (.long (own_st p2)), .second, .val (.long (own_st p3)), .second, .val (.int (1 : Int32)), .val (.int (0 : Int32)), .val (.int (2 : Int32))] [(.int (2 : Int32))])
        refine OwnGo.st (fun _ kk => XS.iload X83.here hx rfl (hb hby at_184) rfl  kk) ?_
        show OwnGo p e below s _ _ _ T83 (mkF m 186 #[.val (.long p1), .second, .val (.long p2), .second, .val (.long p3), .second, .val (.ref b54), .val (.int (1 : Int32)), .val (.int (1 : Int32)), .val (.int (0 : Int32)), .val (.int (0 : Int32)), .val (.int (0 : Int32)), .val (.int (0 : Int32)), .val (.int (2 : Int32)), .val (.long (own_st p1)), .second, .val (.long (own_st p2)), .second, .val (.long (own_st p3)), .second, .val (.int (1 : Int32)), .val (.int (0 : Int32)), .val (.int (2 : Int32))] [(.int (2 : Int32)), (.int (2 : Int32))])
        refine OwnGo.st (fun _ kk => XS.icmpNo X83.here hx rfl (hb hby at_186) rfl (teq ((by decide) : (2 : Int32) = (2 : Int32))).2 kk) ?_
        show OwnGo p e below s _ _ _ T83 (mkF m 189 #[.val (.long p1), .second, .val (.long p2), .second, .val (.long p3), .second, .val (.ref b54), .val (.int (1 : Int32)), .val (.int (1 : Int32)), .val (.int (0 : Int32)), .val (.int (0 : Int32)), .val (.int (0 : Int32)), .val (.int (0 : Int32)), .val (.int (2 : Int32)), .val (.long (own_st p1)), .second, .val (.long (own_st p2)), .second, .val (.long (own_st p3)), .second, .val (.int (1 : Int32)), .val (.int (0 : Int32)), .val (.int (2 : Int32))] [])
        refine OwnGo.st (fun _ kk => XS.iconst X83.here hx rfl (hb hby at_189) kk) ?_
        show OwnGo p e below s _ _ _ T83 (mkF m 190 #[.val (.long p1), .second, .val (.long p2), .second, .val (.long p3), .second, .val (.ref b54), .val (.int (1 : Int32)), .val (.int (1 : Int32)), .val (.int (0 : Int32)), .val (.int (0 : Int32)), .val (.int (0 : Int32)), .val (.int (0 : Int32)), .val (.int (2 : Int32)), .val (.long (own_st p1)), .second, .val (.long (own_st p2)), .second, .val (.long (own_st p3)), .second, .val (.int (1 : Int32)), .val (.int (0 : Int32)), .val (.int (2 : Int32))] [(.int (1 : Int32))])
        refine OwnGo.st (fun _ kk => XS.goto X83.here hx rfl (pc0 := 190) (pc' := 194) rfl (hb hby at_190) (by decide) (by decide) kk) ?_
        show OwnGo p e below s _ _ _ T83 (mkF m 194 #[.val (.long p1), .second, .val (.long p2), .second, .val (.long p3), .second, .val (.ref b54), .val (.int (1 : Int32)), .val (.int (1 : Int32)), .val (.int (0 : Int32)), .val (.int (0 : Int32)), .val (.int (0 : Int32)), .val (.int (0 : Int32)), .val (.int (2 : Int32)), .val (.long (own_st p1)), .second, .val (.long (own_st p2)), .second, .val (.long (own_st p3)), .second, .val (.int (1 : Int32)), .val (.int (0 : Int32)), .val (.int (2 : Int32))] [(.int (1 : Int32))])
        exact OwnGo.retN X83 hx (t := .boolean) hret hlk (by simp) (hb hby at_194) (by show Q0 Z p1 p2 p3 h0 n0 _ T83.heap _; rw [e83]; exact ⟨rfl, N83⟩) (by decide) (by decide)
      · refine OwnGo.st (fun _ kk => XS.ifNo X83.here hx rfl (hb hby at_105) rfl ((if0 _ _).trans (feq ((fun q => hca ((lw_eq _ _).1 q)) : ¬ ((lcmpW (own_st p3) (own_st p1)) = (0 : Int32)))).1) kk) ?_
        show OwnGo p e below s _ _ _ T83 (mkF m 108 #[.val (.long p1), .second, .val (.long p2), .second, .val (.long p3), .second, .val (.ref b54), .val (.int (1 : Int32)), .val (.int (1 : Int32)), .val (.int (0 : Int32)), .val (.int (0 : Int32)), .val (.int (0 : Int32)), .val (.int (0 : Int32)), .val (.int (2 : Int32)), .val (.long (own_st p1)), .second, .val (.long (own_st p2)), .second, .val (.long (own_st p3)), .second, .val (.int (1 : Int32)), .unset, .unset] [])
        refine OwnGo.st (fun _ kk => XS.lload X83.here hx rfl (hb hby at_108) rfl  kk) ?_
        show OwnGo p e below s _ _ _ T83 (mkF m 110 #[.val (.long p1), .second, .val (.long p2), .second, .val (.long p3), .second, .val (.ref b54), .val (.int (1 : Int32)), .val (.int (1 : Int32)), .val (.int (0 : Int32)), .val (.int (0 : Int32)), .val (.int (0 : Int32)), .val (.int (0 : Int32)), .val (.int (2 : Int32)), .val (.long (own_st p1)), .second, .val (.long (own_st p2)), .second, .val (.long (own_st p3)), .second, .val (.int (1 : Int32)), .unset, .unset] [(.long (own_st p3))])
        refine OwnGo.st (fun _ kk => XS.lload X83.here hx rfl (hb hby at_110) rfl  kk) ?_
        show OwnGo p e below s _ _ _ T83 (mkF m 112 #[.val (.long p1), .second, .val (.long p2), .second, .val (.long p3), .second, .val (.ref b54), .val (.int (1 : Int32)), .val (.int (1 : Int32)), .val (.int (0 : Int32)), .val (.int (0 : Int32)), .val (.int (0 : Int32)), .val (.int (0 : Int32)), .val (.int (2 : Int32)), .val (.long (own_st p1)), .second, .val (.long (own_st p2)), .second, .val (.long (own_st p3)), .second, .val (.int (1 : Int32)), .unset, .unset] [(.long (own_st p2)), (.long (own_st p3))])
        refine OwnGo.st (fun _ kk => XS.lcmp X83.here hx rfl (hb hby at_112) rfl kk) ?_
        show OwnGo p e below s _ _ _ T83 (mkF m 113 #[.val (.long p1), .second, .val (.long p2), .second, .val (.long p3), .second, .val (.ref b54), .val (.int (1 : Int32)), .val (.int (1 : Int32)), .val (.int (0 : Int32)), .val (.int (0 : Int32)), .val (.int (0 : Int32)), .val (.int (0 : Int32)), .val (.int (2 : Int32)), .val (.long (own_st p1)), .second, .val (.long (own_st p2)), .second, .val (.long (own_st p3)), .second, .val (.int (1 : Int32)), .unset, .unset] [(.int (lcmpW (own_st p3) (own_st p2)))])
        refine OwnGo.st (fun _ kk => XS.ifYes X83.here hx rfl (pc0 := 113) (pc' := 120) rfl (hb hby at_113) rfl ((if0 _ _).trans (teq (((lw_eq _ _).2 (hc.resolve_left (fun q => hca q.symm)).symm) : (lcmpW (own_st p3) (own_st p2)) = (0 : Int32))).1) (by decide) (by decide) kk) ?_
        show OwnGo p e below s _ _ _ T83 (mkF m 120 #[.val (.long p1), .second, .val (.long p2), .second, .val (.long p3), .second, .val (.ref b54), .val (.int (1 : Int32)), .val (.int (1 : Int32)), .val (.int (0 : Int32)), .val (.int (0 : Int32)), .val (.int (0 : Int32)), .val (.int (0 : Int32)), .val (.int (2 : Int32)), .val (.long (own_st p1)), .second, .val (.long (own_st p2)), .second, .val (.long (own_st p3)), .second, .val (.int (1 : Int32)), .unset, .unset] [])
        refine OwnGo.st (fun _ kk => XS.iconst X83.here hx rfl (hb hby at_120) kk) ?_
        show OwnGo p e below s _ _ _ T83 (mkF m 121 #[.val (.long p1), .second, .val (.long p2), .second, .val (.long p3), .second, .val (.ref b54), .val (.int (1 : Int32)), .val (.int (1 : Int32)), .val (.int (0 : Int32)), .val (.int (0 : Int32)), .val (.int (0 : Int32)), .val (.int (0 : Int32)), .val (.int (2 : Int32)), .val (.long (own_st p1)), .second, .val (.long (own_st p2)), .second, .val (.long (own_st p3)), .second, .val (.int (1 : Int32)), .unset, .unset] [(.int (0 : Int32))])
        refine OwnGo.st (fun _ kk => XS.istore X83.here hx rfl (hb hby at_121) rfl (l' := #[.val (.long p1), .second, .val (.long p2), .second, .val (.long p3), .second, .val (.ref b54), .val (.int (1 : Int32)), .val (.int (1 : Int32)), .val (.int (0 : Int32)), .val (.int (0 : Int32)), .val (.int (0 : Int32)), .val (.int (0 : Int32)), .val (.int (2 : Int32)), .val (.long (own_st p1)), .second, .val (.long (own_st p2)), .second, .val (.long (own_st p3)), .second, .val (.int (1 : Int32)), .val (.int (0 : Int32)), .unset]) rfl kk) ?_
        show OwnGo p e below s _ _ _ T83 (mkF m 123 #[.val (.long p1), .second, .val (.long p2), .second, .val (.long p3), .second, .val (.ref b54), .val (.int (1 : Int32)), .val (.int (1 : Int32)), .val (.int (0 : Int32)), .val (.int (0 : Int32)), .val (.int (0 : Int32)), .val (.int (0 : Int32)), .val (.int (2 : Int32)), .val (.long (own_st p1)), .second, .val (.long (own_st p2)), .second, .val (.long (own_st p3)), .second, .val (.int (1 : Int32)), .val (.int (0 : Int32)), .unset] [])
        refine OwnGo.st (fun _ kk => XS.iconst X83.here hx rfl (hb hby at_123) kk) ?_
        show OwnGo p e below s _ _ _ T83 (mkF m 124 #[.val (.long p1), .second, .val (.long p2), .second, .val (.long p3), .second, .val (.ref b54), .val (.int (1 : Int32)), .val (.int (1 : Int32)), .val (.int (0 : Int32)), .val (.int (0 : Int32)), .val (.int (0 : Int32)), .val (.int (0 : Int32)), .val (.int (2 : Int32)), .val (.long (own_st p1)), .second, .val (.long (own_st p2)), .second, .val (.long (own_st p3)), .second, .val (.int (1 : Int32)), .val (.int (0 : Int32)), .unset] [(.int (1 : Int32))])
        refine OwnGo.st (fun _ kk => XS.iload X83.here hx rfl (hb hby at_124) rfl  kk) ?_
        show OwnGo p e below s _ _ _ T83 (mkF m 126 #[.val (.long p1), .second, .val (.long p2), .second, .val (.long p3), .second, .val (.ref b54), .val (.int (1 : Int32)), .val (.int (1 : Int32)), .val (.int (0 : Int32)), .val (.int (0 : Int32)), .val (.int (0 : Int32)), .val (.int (0 : Int32)), .val (.int (2 : Int32)), .val (.long (own_st p1)), .second, .val (.long (own_st p2)), .second, .val (.long (own_st p3)), .second, .val (.int (1 : Int32)), .val (.int (0 : Int32)), .unset] [(.int (1 : Int32)), (.int (1 : Int32))])
        refine OwnGo.st (fun _ kk => XS.ifNo X83.here hx rfl (hb hby at_126) rfl ((if0 _ _).trans (feq ((by decide) : ¬ ((1 : Int32) = (0 : Int32)))).1) kk) ?_
        show OwnGo p e below s _ _ _ T83 (mkF m 129 #[.val (.long p1), .second, .val (.long p2), .second, .val (.long p3), .second, .val (.ref b54), .val (.int (1 : Int32)), .val (.int (1 : Int32)), .val (.int (0 : Int32)), .val (.int (0 : Int32)), .val (.int (0 : Int32)), .val (.int (0 : Int32)), .val (.int (2 : Int32)), .val (.long (own_st p1)), .second, .val (.long (own_st p2)), .second, .val (.long (own_st p3)), .second, .val (.int (1 : Int32)), .val (.int (0 : Int32)), .unset] [(.int (1 : Int32))])
        refine OwnGo.st (fun _ kk => XS.iconst X83.here hx rfl (hb hby at_129) kk) ?_
        show OwnGo p e below s _ _ _ T83 (mkF m 130 #[.val (.long p1), .second, .val (.long p2), .second, .val (.long p3), .second, .val (.ref b54), .val (.int (1 : Int32)), .val (.int (1 : Int32)), .val (.int (0 : Int32)), .val (.int (0 : Int32)), .val (.int (0 : Int32)), .val (.int (0 : Int32)), .val (.int (2 : Int32)), .val (.long (own_st p1)), .second, .val (.long (own_st p2)), .second, .val (.long (own_st p3)), .second, .val (.int (1 : Int32)), .val (.int (0 : Int32)), .unset] [(.int (1 : Int32)), (.int (1 : Int32))])
        refine OwnGo.st (fun _ kk => XS.goto X83.here hx rfl (pc0 := 130) (pc' := 134) rfl (hb hby at_130) (by decide) (by decide) kk) ?_
        show OwnGo p e below s _ _ _ T83 (mkF m 134 #[.val (.long p1), .second, .val (.long p2), .second, .val (.long p3), .second, .val (.ref b54), .val (.int (1 : Int32)), .val (.int (1 : Int32)), .val (.int (0 : Int32)), .val (.int (0 : Int32)), .val (.int (0 : Int32)), .val (.int (0 : Int32)), .val (.int (2 : Int32)), .val (.long (own_st p1)), .second, .val (.long (own_st p2)), .second, .val (.long (own_st p3)), .second, .val (.int (1 : Int32)), .val (.int (0 : Int32)), .unset] [(.int (1 : Int32)), (.int (1 : Int32))])
        refine OwnGo.st (fun _ kk => XS.iadd X83.here hx rfl (hb hby at_134) rfl kk) ?_
        show OwnGo p e below s _ _ _ T83 (mkF m 135 #[.val (.long p1), .second, .val (.long p2), .second, .val (.long p3), .second, .val (.ref b54), .val (.int (1 : Int32)), .val (.int (1 : Int32)), .val (.int (0 : Int32)), .val (.int (0 : Int32)), .val (.int (0 : Int32)), .val (.int (0 : Int32)), .val (.int (2 : Int32)), .val (.long (own_st p1)), .second, .val (.long (own_st p2)), .second, .val (.long (own_st p3)), .second, .val (.int (1 : Int32)), .val (.int (0 : Int32)), .unset] [(.int (2 : Int32))])
        refine OwnGo.st (fun _ kk => XS.iload X83.here hx rfl (hb hby at_135) rfl  kk) ?_
        show OwnGo p e below s _ _ _ T83 (mkF m 137 #[.val (.long p1), .second, .val (.long p2), .second, .val (.long p3), .second, .val (.ref b54), .val (.int (1 : Int32)), .val (.int (1 : Int32)), .val (.int (0 : Int32)), .val (.int (0 : Int32)), .val (.int (0 : Int32)), .val (.int (0 : Int32)), .val (.int (2 : Int32)), .val (.long (own_st p1)), .second, .val (.long (own_st p2)), .second, .val (.long (own_st p3)), .second, .val (.int (1 : Int32)), .val (.int (0 : Int32)), .unset] [(.int (0 : Int32)), (.int (2 : Int32))])
        refine OwnGo.st (fun _ kk => XS.ifYes X83.here hx rfl (pc0 := 137) (pc' := 144) rfl (hb hby at_137) rfl ((if0 _ _).trans (teq ((by decide) : (0 : Int32) = (0 : Int32))).1) (by decide) (by decide) kk) ?_
        show OwnGo p e below s _ _ _ T83 (mkF m 144 #[.val (.long p1), .second, .val (.long p2), .second, .val (.long p3), .second, .val (.ref b54), .val (.int (1 : Int32)), .val (.int (1 : Int32)), .val (.int (0 : Int32)), .val (.int (0 : Int32)), .val (.int (0 : Int32)), .val (.int (0 : Int32)), .val (.int (2 : Int32)), .val (.long (own_st p1)), .second, .val (.long (own_st p2)), .second, .val (.long (own_st p3)), .second, .val (.int (1 : Int32)), .val (.int (0 : Int32)), .unset] [(.int (2 : Int32))])
        refine OwnGo.st (fun _ kk => XS.iconst X83.here hx rfl (hb hby at_144) kk) ?_
        show OwnGo p e below s _ _ _ T83 (mkF m 145 #[.val (.long p1), .second, .val (.long p2), .second, .val (.long p3), .second, .val (.ref b54), .val (.int (1 : Int32)), .val (.int (1 : Int32)), .val (.int (0 : Int32)), .val (.int (0 : Int32)), .val (.int (0 : Int32)), .val (.int (0 : Int32)), .val (.int (2 : Int32)), .val (.long (own_st p1)), .second, .val (.long (own_st p2)), .second, .val (.long (own_st p3)), .second, .val (.int (1 : Int32)), .val (.int (0 : Int32)), .unset] [(.int (0 : Int32)), (.int (2 : Int32))])
        refine OwnGo.st (fun _ kk => XS.iadd X83.here hx rfl (hb hby at_145) rfl kk) ?_
        show OwnGo p e below s _ _ _ T83 (mkF m 146 #[.val (.long p1), .second, .val (.long p2), .second, .val (.long p3), .second, .val (.ref b54), .val (.int (1 : Int32)), .val (.int (1 : Int32)), .val (.int (0 : Int32)), .val (.int (0 : Int32)), .val (.int (0 : Int32)), .val (.int (0 : Int32)), .val (.int (2 : Int32)), .val (.long (own_st p1)), .second, .val (.long (own_st p2)), .second, .val (.long (own_st p3)), .second, .val (.int (1 : Int32)), .val (.int (0 : Int32)), .unset] [(.int (2 : Int32))])
        refine OwnGo.st (fun _ kk => XS.istore X83.here hx rfl (hb hby at_146) rfl (l' := #[.val (.long p1), .second, .val (.long p2), .second, .val (.long p3), .second, .val (.ref b54), .val (.int (1 : Int32)), .val (.int (1 : Int32)), .val (.int (0 : Int32)), .val (.int (0 : Int32)), .val (.int (0 : Int32)), .val (.int (0 : Int32)), .val (.int (2 : Int32)), .val (.long (own_st p1)), .second, .val (.long (own_st p2)), .second, .val (.long (own_st p3)), .second, .val (.int (1 : Int32)), .val (.int (0 : Int32)), .val (.int (2 : Int32))]) rfl kk) ?_
        show OwnGo p e below s _ _ _ T83 (mkF m 148 #[.val (.long p1), .second, .val (.long p2), .second, .val (.long p3), .second, .val (.ref b54), .val (.int (1 : Int32)), .val (.int (1 : Int32)), .val (.int (0 : Int32)), .val (.int (0 : Int32)), .val (.int (0 : Int32)), .val (.int (0 : Int32)), .val (.int (2 : Int32)), .val (.long (own_st p1)), .second, .val (.long (own_st p2)), .second, .val (.long (own_st p3)), .second, .val (.int (1 : Int32)), .val (.int (0 : Int32)), .val (.int (2 : Int32))] [])
        refine OwnGo.st (fun _ kk => XS.iload X83.here hx rfl (hb hby at_148) rfl  kk) ?_
        show OwnGo p e below s _ _ _ T83 (mkF m 150 #[.val (.long p1), .second, .val (.long p2), .second, .val (.long p3), .second, .val (.ref b54), .val (.int (1 : Int32)), .val (.int (1 : Int32)), .val (.int (0 : Int32)), .val (.int (0 : Int32)), .val (.int (0 : Int32)), .val (.int (0 : Int32)), .val (.int (2 : Int32)), .val (.long (own_st p1)), .second, .val (.long (own_st p2)), .second, .val (.long (own_st p3)), .second, .val (.int (1 : Int32)), .val (.int (0 : Int32)), .val (.int (2 : Int32))] [(.int (1 : Int32))])
        refine OwnGo.st (fun _ kk => XS.ifNo X83.here hx rfl (hb hby at_150) rfl ((if0 _ _).trans (feq ((by decide) : ¬ ((1 : Int32) = (0 : Int32)))).1) kk) ?_
        show OwnGo p e below s _ _ _ T83 (mkF m 153 #[.val (.long p1), .second, .val (.long p2), .second, .val (.long p3), .second, .val (.ref b54), .val (.int (1 : Int32)), .val (.int (1 : Int32)), .val (.int (0 : Int32)), .val (.int (0 : Int32)), .val (.int (0 : Int32)), .val (.int (0 : Int32)), .val (.int (2 : Int32)), .val (.long (own_st p1)), .second, .val (.long (own_st p2)), .second, .val (.long (own_st p3)), .second, .val (.int (1 : Int32)), .val (.int (0 : Int32)), .val (.int (2 : Int32))] [])
        refine OwnGo.st (fun _ kk => XS.iload X83.here hx rfl (hb hby at_153) rfl  kk) ?_
        show OwnGo p e below s _ _ _ T83 (mkF m 155 #[.val (.long p1), .second, .val (.long p2), .second, .val (.long p3), .second, .val (.ref b54), .val (.int (1 : Int32)), .val (.int (1 : Int32)), .val (.int (0 : Int32)), .val (.int (0 : Int32)), .val (.int (0 : Int32)), .val (.int (0 : Int32)), .val (.int (2 : Int32)), .val (.long (own_st p1)), .second, .val (.long (own_st p2)), .second, .val (.long (own_st p3)), .second, .val (.int (1 : Int32)), .val (.int (0 : Int32)), .val (.int (2 : Int32))] [(.int (1 : Int32))])
        refine OwnGo.st (fun _ kk => XS.iload X83.here hx rfl (hb hby at_155) rfl  kk) ?_
        show OwnGo p e below s _ _ _ T83 (mkF m 157 #[.val (.long p1), .second, .val (.long p2), .second, .val (.long p3), .second, .val (.ref b54), .val (.int (1 : Int32)), .val (.int (1 : Int32)), .val (.int (0 : Int32)), .val (.int (0 : Int32)), .val (.int (0 : Int32)), .val (.int (0 : Int32)), .val (.int (2 : Int32)), .val (.long (own_st p1)), .second, .val (.long (own_st p2)), .second, .val (.long (own_st p3)), .second, .val (.int (1 : Int32)), .val (.int (0 : Int32)), .val (.int (2 : Int32))] [(.int (1 : Int32)), (.int (1 : Int32))])
        refine OwnGo.st (fun _ kk => XS.icmpNo X83.here hx rfl (hb hby at_157) rfl (teq ((by decide) : (1 : Int32) = (1 : Int32))).2 kk) ?_
        show OwnGo p e below s _ _ _ T83 (mkF m 160 #[.val (.long p1), .second, .val (.long p2), .second, .val (.long p3), .second, .val (.ref b54), .val (.int (1 : Int32)), .val (.int (1 : Int32)), .val (.int (0 : Int32)), .val (.int (0 : Int32)), .val (.int (0 : Int32)), .val (.int (0 : Int32)), .val (.int (2 : Int32)), .val (.long (own_st p1)), .second, .val (.long (own_st p2)), .second, .val (.long (own_st p3)), .second, .val (.int (1 : Int32)), .val (.int (0 : Int32)), .val (.int (2 : Int32))] [])
        refine OwnGo.st (fun _ kk => XS.iload X83.here hx rfl (hb hby at_160) rfl  kk) ?_
        show OwnGo p e below s _ _ _ T83 (mkF m 162 #[.val (.long p1), .second, .val (.long p2), .second, .val (.long p3), .second, .val (.ref b54), .val (.int (1 : Int32)), .val (.int (1 : Int32)), .val (.int (0 : Int32)), .val (.int (0 : Int32)), .val (.int (0 : Int32)), .val (.int (0 : Int32)), .val (.int (2 : Int32)), .val (.long (own_st p1)), .second, .val (.long (own_st p2)), .second, .val (.long (own_st p3)), .second, .val (.int (1 : Int32)), .val (.int (0 : Int32)), .val (.int (2 : Int32))] [(.int (0 : Int32))])
        refine OwnGo.st (fun _ kk => XS.iload X83.here hx rfl (hb hby at_162) rfl  kk) ?_
        show OwnGo p e below s _ _ _ T83 (mkF m 164 #[.val (.long p1), .second, .val (.long p2), .second, .val (.long p3), .second, .val (.ref b54), .val (.int (1 : Int32)), .val (.int (1 : Int32)), .val (.int (0 : Int32)), .val (.int (0 : Int32)), .val (.int (0 : Int32)), .val (.int (0 : Int32)), .val (.int (2 : Int32)), .val (.long (own_st p1)), .second, .val (.long (own_st p2)), .second, .val (.long (own_st p3)), .second, .val (.int (1 : Int32)), .val (.int (0 : Int32)), .val (.int (2 : Int32))] [(.int (0 : Int32)), (.int (0 : Int32))])
        refine OwnGo.st (fun _ kk => XS.icmpNo X83.here hx rfl (hb hby at_164) rfl (teq ((by decide) : (0 : Int32) = (0 : Int32))).2 kk) ?_
        show OwnGo p e below s _ _ _ T83 (mkF m 167 #[.val (.long p1), .second, .val (.long p2), .second, .val (.long p3), .second, .val (.ref b54), .val (.int (1 : Int32)), .val (.int (1 : Int32)), .val (.int (0 : Int32)), .val (.int (0 : Int32)), .val (.int (0 : Int32)), .val (.int (0 : Int32)), .val (.int (2 : Int32)), .val (.long (own_st p1)), .second, .val (.long (own_st p2)), .second, .val (.long (own_st p3)), .second, .val (.int (1 : Int32)), .val (.int (0 : Int32)), .val (.int (2 : Int32))] [])
        refine OwnGo.st (fun _ kk => XS.iload X83.here hx rfl (hb hby at_167) rfl  kk) ?_
        show OwnGo p e below s _ _ _ T83 (mkF m 169 #[.val (.long p1), .second, .val (.long p2), .second, .val (.long p3), .second, .val (.ref b54), .val (.int (1 : Int32)), .val (.int (1 : Int32)), .val (.int (0 : Int32)), .val (.int (0 : Int32)), .val (.int (0 : Int32)), .val (.int (0 : Int32)), .val (.int (2 : Int32)), .val (.long (own_st p1)), .second, .val (.long (own_st p2)), .second, .val (.long (own_st p3)), .second, .val (.int (1 : Int32)), .val (.int (0 : Int32)), .val (.int (2 : Int32))] [(.int (0 : Int32))])
        refine OwnGo.st (fun _ kk => XS.ifNo X83.here hx rfl (hb hby at_169) rfl ((if0 _ _).trans (teq ((by decide) : (0 : Int32) = (0 : Int32))).2) kk) ?_
        show OwnGo p e below s _ _ _ T83 (mkF m 172 #[.val (.long p1), .second, .val (.long p2), .second, .val (.long p3), .second, .val (.ref b54), .val (.int (1 : Int32)), .val (.int (1 : Int32)), .val (.int (0 : Int32)), .val (.int (0 : Int32)), .val (.int (0 : Int32)), .val (.int (0 : Int32)), .val (.int (2 : Int32)), .val (.long (own_st p1)), .second, .val (.long (own_st p2)), .second, .val (.long (own_st p3)), .second, .val (.int (1 : Int32)), .val (.int (0 : Int32)), .val (.int (2 : Int32))] [])
        refine OwnGo.st (fun _ kk => XS.iload X83.here hx rfl (hb hby at_172) rfl  kk) ?_
        show OwnGo p e below s _ _ _ T83 (mkF m 174 #[.val (.long p1), .second, .val (.long p2), .second, .val (.long p3), .second, .val (.ref b54), .val (.int (1 : Int32)), .val (.int (1 : Int32)), .val (.int (0 : Int32)), .val (.int (0 : Int32)), .val (.int (0 : Int32)), .val (.int (0 : Int32)), .val (.int (2 : Int32)), .val (.long (own_st p1)), .second, .val (.long (own_st p2)), .second, .val (.long (own_st p3)), .second, .val (.int (1 : Int32)), .val (.int (0 : Int32)), .val (.int (2 : Int32))] [(.int (0 : Int32))])
        refine OwnGo.st (fun _ kk => XS.ifNo X83.here hx rfl (hb hby at_174) rfl ((if0 _ _).trans (teq ((by decide) : (0 : Int32) = (0 : Int32))).2) kk) ?_
        show OwnGo p e below s _ _ _ T83 (mkF m 177 #[.val (.long p1), .second, .val (.long p2), .second, .val (.long p3), .second, .val (.ref b54), .val (.int (1 : Int32)), .val (.int (1 : Int32)), .val (.int (0 : Int32)), .val (.int (0 : Int32)), .val (.int (0 : Int32)), .val (.int (0 : Int32)), .val (.int (2 : Int32)), .val (.long (own_st p1)), .second, .val (.long (own_st p2)), .second, .val (.long (own_st p3)), .second, .val (.int (1 : Int32)), .val (.int (0 : Int32)), .val (.int (2 : Int32))] [])
        refine OwnGo.st (fun _ kk => XS.iload X83.here hx rfl (hb hby at_177) rfl  kk) ?_
        show OwnGo p e below s _ _ _ T83 (mkF m 179 #[.val (.long p1), .second, .val (.long p2), .second, .val (.long p3), .second, .val (.ref b54), .val (.int (1 : Int32)), .val (.int (1 : Int32)), .val (.int (0 : Int32)), .val (.int (0 : Int32)), .val (.int (0 : Int32)), .val (.int (0 : Int32)), .val (.int (2 : Int32)), .val (.long (own_st p1)), .second, .val (.long (own_st p2)), .second, .val (.long (own_st p3)), .second, .val (.int (1 : Int32)), .val (.int (0 : Int32)), .val (.int (2 : Int32))] [(.int (0 : Int32))])
        refine OwnGo.st (fun _ kk => XS.ifNo X83.here hx rfl (hb hby at_179) rfl ((if0 _ _).trans (teq ((by decide) : (0 : Int32) = (0 : Int32))).2) kk) ?_
        show OwnGo p e below s _ _ _ T83 (mkF m 182 #[.val (.long p1), .second, .val (.long p2), .second, .val (.long p3), .second, .val (.ref b54), .val (.int (1 : Int32)), .val (.int (1 : Int32)), .val (.int (0 : Int32)), .val (.int (0 : Int32)), .val (.int (0 : Int32)), .val (.int (0 : Int32)), .val (.int (2 : Int32)), .val (.long (own_st p1)), .second, .val (.long (own_st p2)), .second, .val (.long (own_st p3)), .second, .val (.int (1 : Int32)), .val (.int (0 : Int32)), .val (.int (2 : Int32))] [])
        refine OwnGo.st (fun _ kk => XS.iload X83.here hx rfl (hb hby at_182) rfl  kk) ?_
        show OwnGo p e below s _ _ _ T83 (mkF m 184 #[.val (.long p1), .second, .val (.long p2), .second, .val (.long p3), .second, .val (.ref b54), .val (.int (1 : Int32)), .val (.int (1 : Int32)), .val (.int (0 : Int32)), .val (.int (0 : Int32)), .val (.int (0 : Int32)), .val (.int (0 : Int32)), .val (.int (2 : Int32)), .val (.long (own_st p1)), .second, .val (.long (own_st p2)), .second, .val (.long (own_st p3)), .second, .val (.int (1 : Int32)), .val (.int (0 : Int32)), .val (.int (2 : Int32))] [(.int (2 : Int32))])
        refine OwnGo.st (fun _ kk => XS.iload X83.here hx rfl (hb hby at_184) rfl  kk) ?_
        show OwnGo p e below s _ _ _ T83 (mkF m 186 #[.val (.long p1), .second, .val (.long p2), .second, .val (.long p3), .second, .val (.ref b54), .val (.int (1 : Int32)), .val (.int (1 : Int32)), .val (.int (0 : Int32)), .val (.int (0 : Int32)), .val (.int (0 : Int32)), .val (.int (0 : Int32)), .val (.int (2 : Int32)), .val (.long (own_st p1)), .second, .val (.long (own_st p2)), .second, .val (.long (own_st p3)), .second, .val (.int (1 : Int32)), .val (.int (0 : Int32)), .val (.int (2 : Int32))] [(.int (2 : Int32)), (.int (2 : Int32))])
        refine OwnGo.st (fun _ kk => XS.icmpNo X83.here hx rfl (hb hby at_186) rfl (teq ((by decide) : (2 : Int32) = (2 : Int32))).2 kk) ?_
        show OwnGo p e below s _ _ _ T83 (mkF m 189 #[.val (.long p1), .second, .val (.long p2), .second, .val (.long p3), .second, .val (.ref b54), .val (.int (1 : Int32)), .val (.int (1 : Int32)), .val (.int (0 : Int32)), .val (.int (0 : Int32)), .val (.int (0 : Int32)), .val (.int (0 : Int32)), .val (.int (2 : Int32)), .val (.long (own_st p1)), .second, .val (.long (own_st p2)), .second, .val (.long (own_st p3)), .second, .val (.int (1 : Int32)), .val (.int (0 : Int32)), .val (.int (2 : Int32))] [])
        refine OwnGo.st (fun _ kk => XS.iconst X83.here hx rfl (hb hby at_189) kk) ?_
        show OwnGo p e below s _ _ _ T83 (mkF m 190 #[.val (.long p1), .second, .val (.long p2), .second, .val (.long p3), .second, .val (.ref b54), .val (.int (1 : Int32)), .val (.int (1 : Int32)), .val (.int (0 : Int32)), .val (.int (0 : Int32)), .val (.int (0 : Int32)), .val (.int (0 : Int32)), .val (.int (2 : Int32)), .val (.long (own_st p1)), .second, .val (.long (own_st p2)), .second, .val (.long (own_st p3)), .second, .val (.int (1 : Int32)), .val (.int (0 : Int32)), .val (.int (2 : Int32))] [(.int (1 : Int32))])
        refine OwnGo.st (fun _ kk => XS.goto X83.here hx rfl (pc0 := 190) (pc' := 194) rfl (hb hby at_190) (by decide) (by decide) kk) ?_
        show OwnGo p e below s _ _ _ T83 (mkF m 194 #[.val (.long p1), .second, .val (.long p2), .second, .val (.long p3), .second, .val (.ref b54), .val (.int (1 : Int32)), .val (.int (1 : Int32)), .val (.int (0 : Int32)), .val (.int (0 : Int32)), .val (.int (0 : Int32)), .val (.int (0 : Int32)), .val (.int (2 : Int32)), .val (.long (own_st p1)), .second, .val (.long (own_st p2)), .second, .val (.long (own_st p3)), .second, .val (.int (1 : Int32)), .val (.int (0 : Int32)), .val (.int (2 : Int32))] [(.int (1 : Int32))])
        exact OwnGo.retN X83 hx (t := .boolean) hret hlk (by simp) (hb hby at_194) (by show Q0 Z p1 p2 p3 h0 n0 _ T83.heap _; rw [e83]; exact ⟨rfl, N83⟩) (by decide) (by decide)
    · obtain ⟨cq84, kq84, q84a, q84b, q84c⟩ := isOf hZ rfl E_b54
      obtain ⟨_, _, ⟨T84, L84, k84, n84⟩, -, X84, ⟨Lc84, hQ84, l84, y84, z84⟩, st84⟩ := X56.virtualBack hx (y := (⟨"com/example/utsatt/utsatt/KeyHashes", "add", "(J)Z"⟩ : MethodName)) (z := (⟨"com/example/utsatt/utsatt/KeyHashes", "add", "(J)Z"⟩ : MethodName)) hown (mvT hZ (hw _ (List.mem_of_getElem? (i := 12) rfl))) (mvT hZ (hw _ (List.mem_of_getElem? (i := 13) rfl))) (notFace_of_selects (args := #[]) (mvT hZ (hw _ (List.mem_of_getElem? (i := 15) rfl)))) (mvT hZ (hw _ (List.mem_of_getElem? (i := 15) rfl))) (mvT hZ (hw _ (List.mem_of_getElem? (i := 14) rfl))) (by decide) (backOf (W := 0) (rmaddN1 l Z a0 hw [] b54 t55 kc55 w56 p2 T56.heap n0 Z_ E_b54 Fs56 V56 hl56 Fz56 g_b54 g_t55 (Ne.symm ne_b54_t55) (Nat.lt_of_lt_of_le (by decide) ze_56) (own_miss on_56 (own_stn _) (by simp only [List.mem_singleton]; exact hba))) hZ (hw _ (List.mem_of_getElem? (i := 16) rfl)) (hw _ (List.mem_of_getElem? (i := 2) rfl)) (by decide) (by decide)) q84a q84c (g := (mkF m 20 #[.val (.long p1), .second, .val (.long p2), .second, .val (.long p3), .second, .val (.ref b54), .val (.int (1 : Int32)), .unset, .unset, .unset, .unset, .unset, .unset, .unset, .unset, .unset, .unset, .unset, .unset, .unset, .unset, .unset] [(.long p2), (.ref b54)])) rfl (by rw [hml]; rfl) (Steps.refl _) (argsL := [(.long p2)]) (rest := []) (lenOf pd_5 rfl) rfl (by show 2 * 0 + _ ≤ _; exact Nat.le_of_eq rfl) (hb hby at_20) (fun _ _ => ⟨rfl, rfl, (by decide : 2 + 0 ≤ _), (by decide : 18 + 0 ≤ _)⟩)
      dsimp only [Pt.U, Pt.locs, Pt.cells, Pt.slots] at X84 l84 y84 z84 st84 hQ84
      subst l84 y84 z84
      obtain ⟨r84, k84, hr84, hz84, hk84, rfl, N84q, K84, Eo84, Fs84, Fz84, V84⟩ := hQ84
      have N84 := Fr.app N56 N84q
      have Z_ : n0 ≤ T84.heap.size := Nat.le_trans Z_ K84.1
      have E_b54 := E_b54.keep K84
      refine OwnGo.st (fun _ kk => st84.trans kk) ?_
      show OwnGo p e below s _ _ _ T84 (mkF m 23 #[.val (.long p1), .second, .val (.long p2), .second, .val (.long p3), .second, .val (.ref b54), .val (.int (1 : Int32)), .unset, .unset, .unset, .unset, .unset, .unset, .unset, .unset, .unset, .unset, .unset, .unset, .unset, .unset, .unset] [(.int (1 : Int32))])
      obtain ⟨w84, hw84⟩ : ∃ l : List Int64, l = w56.set r84 (own_st p2) := ⟨_, rfl⟩
      rw [← hw84] at V84
      have hl84 : w84.length = 16 := by rw [hw84, List.length_set]; exact hl56
      have in_p1_84 : own_in w84 (own_st p1) := hw84 ▸ own_in_keep (show r84 < List.length w56 by rw [hl56]; exact hr84) hz84 (own_stn _) in_p1_56
      have in_p2_84 : own_in w84 (own_st p2) := hw84 ▸ own_in_new (show r84 < List.length w56 by rw [hl56]; exact hr84) hz84 hk84
      have on_84 : own_only w84 ((own_st p2) :: ((own_st p1) :: [])) := hw84 ▸ own_only_set (show r84 < List.length w56 by rw [hl56]; exact hr84) on_56
      have ze_84 : 14 ≤ own_zeros w84 := by have q := own_zeros_set (own_st p2) w56 r84; rw [← hw84] at q; have q' := ze_56; omega
      refine OwnGo.st (fun _ kk => XS.istore X84.here hx rfl (hb hby at_23) rfl (l' := #[.val (.long p1), .second, .val (.long p2), .second, .val (.long p3), .second, .val (.ref b54), .val (.int (1 : Int32)), .val (.int (1 : Int32)), .unset, .unset, .unset, .unset, .unset, .unset, .unset, .unset, .unset, .unset, .unset, .unset, .unset, .unset]) rfl kk) ?_
      show OwnGo p e below s _ _ _ T84 (mkF m 25 #[.val (.long p1), .second, .val (.long p2), .second, .val (.long p3), .second, .val (.ref b54), .val (.int (1 : Int32)), .val (.int (1 : Int32)), .unset, .unset, .unset, .unset, .unset, .unset, .unset, .unset, .unset, .unset, .unset, .unset, .unset, .unset] [])
      refine OwnGo.st (fun _ kk => XS.aload X84.here hx rfl (hb hby at_25) rfl rfl  kk) ?_
      show OwnGo p e below s _ _ _ T84 (mkF m 27 #[.val (.long p1), .second, .val (.long p2), .second, .val (.long p3), .second, .val (.ref b54), .val (.int (1 : Int32)), .val (.int (1 : Int32)), .unset, .unset, .unset, .unset, .unset, .unset, .unset, .unset, .unset, .unset, .unset, .unset, .unset, .unset] [(.ref b54)])
      refine OwnGo.st (fun _ kk => XS.lload X84.here hx rfl (hb hby at_27) rfl  kk) ?_
      show OwnGo p e below s _ _ _ T84 (mkF m 29 #[.val (.long p1), .second, .val (.long p2), .second, .val (.long p3), .second, .val (.ref b54), .val (.int (1 : Int32)), .val (.int (1 : Int32)), .unset, .unset, .unset, .unset, .unset, .unset, .unset, .unset, .unset, .unset, .unset, .unset, .unset, .unset] [(.long p3), (.ref b54)])
      obtain ⟨cq85, kq85, q85a, q85b, q85c⟩ := isOf hZ rfl E_b54
      obtain ⟨_, _, ⟨T85, L85, k85, n85⟩, -, X85, ⟨Lc85, hQ85, l85, y85, z85⟩, st85⟩ := X84.virtualBack hx (y := (⟨"com/example/utsatt/utsatt/KeyHashes", "add", "(J)Z"⟩ : MethodName)) (z := (⟨"com/example/utsatt/utsatt/KeyHashes", "add", "(J)Z"⟩ : MethodName)) hown (mvT hZ (hw _ (List.mem_of_getElem? (i := 12) rfl))) (mvT hZ (hw _ (List.mem_of_getElem? (i := 13) rfl))) (notFace_of_selects (args := #[]) (mvT hZ (hw _ (List.mem_of_getElem? (i := 15) rfl)))) (mvT hZ (hw _ (List.mem_of_getElem? (i := 15) rfl))) (mvT hZ (hw _ (List.mem_of_getElem? (i := 14) rfl))) (by decide) (backOf (W := 0) (rmaddN2 l Z a0 hw [] b54 t55 kc55 w84 p3 T84.heap n0 Z_ E_b54 Fs84 V84 hl84 Fz84 g_b54 g_t55 (Ne.symm ne_b54_t55) (Nat.lt_of_lt_of_le (by decide) ze_84) (own_miss on_84 (own_stn _) (by simp only [List.mem_cons, List.not_mem_nil, or_false]; exact hcn))) hZ (hw _ (List.mem_of_getElem? (i := 16) rfl)) (hw _ (List.mem_of_getElem? (i := 2) rfl)) (by decide) (by decide)) q85a q85c (g := (mkF m 29 #[.val (.long p1), .second, .val (.long p2), .second, .val (.long p3), .second, .val (.ref b54), .val (.int (1 : Int32)), .val (.int (1 : Int32)), .unset, .unset, .unset, .unset, .unset, .unset, .unset, .unset, .unset, .unset, .unset, .unset, .unset, .unset] [(.long p3), (.ref b54)])) rfl (by rw [hml]; rfl) (Steps.refl _) (argsL := [(.long p3)]) (rest := []) (lenOf pd_5 rfl) rfl (by show 2 * 0 + _ ≤ _; exact Nat.le_of_eq rfl) (hb hby at_29) (fun _ _ => ⟨rfl, rfl, (by decide : 2 + 0 ≤ _), (by decide : 18 + 0 ≤ _)⟩)
      dsimp only [Pt.U, Pt.locs, Pt.cells, Pt.slots] at X85 l85 y85 z85 st85 hQ85
      subst l85 y85 z85
      obtain ⟨r85, k85, hr85, hz85, hk85, rfl, N85q, K85, Eo85, Fs85, Fz85, V85⟩ := hQ85
      have N85 := Fr.app N84 N85q
      have Z_ : n0 ≤ T85.heap.size := Nat.le_trans Z_ K85.1
      have E_b54 := E_b54.keep K85
      refine OwnGo.st (fun _ kk => st85.trans kk) ?_
      show OwnGo p e below s _ _ _ T85 (mkF m 32 #[.val (.long p1), .second, .val (.long p2), .second, .val (.long p3), .second, .val (.ref b54), .val (.int (1 : Int32)), .val (.int (1 : Int32)), .unset, .unset, .unset, .unset, .unset, .unset, .unset, .unset, .unset, .unset, .unset, .unset, .unset, .unset] [(.int (1 : Int32))])
      obtain ⟨w85, hw85⟩ : ∃ l : List Int64, l = w84.set r85 (own_st p3) := ⟨_, rfl⟩
      rw [← hw85] at V85
      have hl85 : w85.length = 16 := by rw [hw85, List.length_set]; exact hl84
      have in_p1_85 : own_in w85 (own_st p1) := hw85 ▸ own_in_keep (show r85 < List.length w84 by rw [hl84]; exact hr85) hz85 (own_stn _) in_p1_84
      have in_p2_85 : own_in w85 (own_st p2) := hw85 ▸ own_in_keep (show r85 < List.length w84 by rw [hl84]; exact hr85) hz85 (own_stn _) in_p2_84
      have in_p3_85 : own_in w85 (own_st p3) := hw85 ▸ own_in_new (show r85 < List.length w84 by rw [hl84]; exact hr85) hz85 hk85
      have on_85 : own_only w85 ((own_st p3) :: ((own_st p2) :: ((own_st p1) :: []))) := hw85 ▸ own_only_set (show r85 < List.length w84 by rw [hl84]; exact hr85) on_84
      have ze_85 : 13 ≤ own_zeros w85 := by have q := own_zeros_set (own_st p3) w84 r85; rw [← hw85] at q; have q' := ze_84; omega
      refine OwnGo.st (fun _ kk => XS.istore X85.here hx rfl (hb hby at_32) rfl (l' := #[.val (.long p1), .second, .val (.long p2), .second, .val (.long p3), .second, .val (.ref b54), .val (.int (1 : Int32)), .val (.int (1 : Int32)), .val (.int (1 : Int32)), .unset, .unset, .unset, .unset, .unset, .unset, .unset, .unset, .unset, .unset, .unset, .unset, .unset]) rfl kk) ?_
      show OwnGo p e below s _ _ _ T85 (mkF m 34 #[.val (.long p1), .second, .val (.long p2), .second, .val (.long p3), .second, .val (.ref b54), .val (.int (1 : Int32)), .val (.int (1 : Int32)), .val (.int (1 : Int32)), .unset, .unset, .unset, .unset, .unset, .unset, .unset, .unset, .unset, .unset, .unset, .unset, .unset] [])
      refine OwnGo.st (fun _ kk => XS.aload X85.here hx rfl (hb hby at_34) rfl rfl  kk) ?_
      show OwnGo p e below s _ _ _ T85 (mkF m 36 #[.val (.long p1), .second, .val (.long p2), .second, .val (.long p3), .second, .val (.ref b54), .val (.int (1 : Int32)), .val (.int (1 : Int32)), .val (.int (1 : Int32)), .unset, .unset, .unset, .unset, .unset, .unset, .unset, .unset, .unset, .unset, .unset, .unset, .unset] [(.ref b54)])
      refine OwnGo.st (fun _ kk => XS.lloadN X85.here hx rfl (hb hby at_36) rfl  kk) ?_
      show OwnGo p e below s _ _ _ T85 (mkF m 37 #[.val (.long p1), .second, .val (.long p2), .second, .val (.long p3), .second, .val (.ref b54), .val (.int (1 : Int32)), .val (.int (1 : Int32)), .val (.int (1 : Int32)), .unset, .unset, .unset, .unset, .unset, .unset, .unset, .unset, .unset, .unset, .unset, .unset, .unset] [(.long p1), (.ref b54)])
      obtain ⟨cq86, kq86, q86a, q86b, q86c⟩ := isOf hZ rfl E_b54
      obtain ⟨_, _, ⟨T86, L86, k86, n86⟩, -, X86, ⟨Lc86, hQ86, l86, y86, z86⟩, st86⟩ := X85.virtualBack hx (y := (⟨"com/example/utsatt/utsatt/KeyHashes", "add", "(J)Z"⟩ : MethodName)) (z := (⟨"com/example/utsatt/utsatt/KeyHashes", "add", "(J)Z"⟩ : MethodName)) hown (mvT hZ (hw _ (List.mem_of_getElem? (i := 12) rfl))) (mvT hZ (hw _ (List.mem_of_getElem? (i := 13) rfl))) (notFace_of_selects (args := #[]) (mvT hZ (hw _ (List.mem_of_getElem? (i := 15) rfl)))) (mvT hZ (hw _ (List.mem_of_getElem? (i := 15) rfl))) (mvT hZ (hw _ (List.mem_of_getElem? (i := 14) rfl))) (by decide) (backOf (W := 0) (rmaddO l Z a0 hw [] b54 t55 kc55 w85 p1 T85.heap n0 Z_ E_b54 Fs85 V85 hl85 (Nat.lt_of_lt_of_le (by decide) ze_85) in_p1_85) hZ (hw _ (List.mem_of_getElem? (i := 16) rfl)) (hw _ (List.mem_of_getElem? (i := 2) rfl)) (by decide) (by decide)) q86a q86c (g := (mkF m 37 #[.val (.long p1), .second, .val (.long p2), .second, .val (.long p3), .second, .val (.ref b54), .val (.int (1 : Int32)), .val (.int (1 : Int32)), .val (.int (1 : Int32)), .unset, .unset, .unset, .unset, .unset, .unset, .unset, .unset, .unset, .unset, .unset, .unset, .unset] [(.long p1), (.ref b54)])) rfl (by rw [hml]; rfl) (Steps.refl _) (argsL := [(.long p1)]) (rest := []) (lenOf pd_5 rfl) rfl (by show 2 * 0 + _ ≤ _; exact Nat.le_of_eq rfl) (hb hby at_37) (fun _ _ => ⟨rfl, rfl, (by decide : 2 + 0 ≤ _), (by decide : 18 + 0 ≤ _)⟩)
      dsimp only [Pt.U, Pt.locs, Pt.cells, Pt.slots] at X86 l86 y86 z86 st86 hQ86
      subst l86 y86 z86
      obtain ⟨rfl, N86q, e86⟩ := hQ86
      have N86 := Fr.app N85 N86q
      refine OwnGo.st (fun _ kk => st86.trans kk) ?_
      show OwnGo p e below s _ _ _ T86 (mkF m 40 #[.val (.long p1), .second, .val (.long p2), .second, .val (.long p3), .second, .val (.ref b54), .val (.int (1 : Int32)), .val (.int (1 : Int32)), .val (.int (1 : Int32)), .unset, .unset, .unset, .unset, .unset, .unset, .unset, .unset, .unset, .unset, .unset, .unset, .unset] [(.int (0 : Int32))])
      refine OwnGo.st (fun _ kk => XS.istore X86.here hx rfl (hb hby at_40) rfl (l' := #[.val (.long p1), .second, .val (.long p2), .second, .val (.long p3), .second, .val (.ref b54), .val (.int (1 : Int32)), .val (.int (1 : Int32)), .val (.int (1 : Int32)), .val (.int (0 : Int32)), .unset, .unset, .unset, .unset, .unset, .unset, .unset, .unset, .unset, .unset, .unset, .unset]) rfl kk) ?_
      show OwnGo p e below s _ _ _ T86 (mkF m 42 #[.val (.long p1), .second, .val (.long p2), .second, .val (.long p3), .second, .val (.ref b54), .val (.int (1 : Int32)), .val (.int (1 : Int32)), .val (.int (1 : Int32)), .val (.int (0 : Int32)), .unset, .unset, .unset, .unset, .unset, .unset, .unset, .unset, .unset, .unset, .unset, .unset] [])
      refine OwnGo.st (fun _ kk => XS.aload X86.here hx rfl (hb hby at_42) rfl rfl  kk) ?_
      show OwnGo p e below s _ _ _ T86 (mkF m 44 #[.val (.long p1), .second, .val (.long p2), .second, .val (.long p3), .second, .val (.ref b54), .val (.int (1 : Int32)), .val (.int (1 : Int32)), .val (.int (1 : Int32)), .val (.int (0 : Int32)), .unset, .unset, .unset, .unset, .unset, .unset, .unset, .unset, .unset, .unset, .unset, .unset] [(.ref b54)])
      refine OwnGo.st (fun _ kk => XS.lloadN X86.here hx rfl (hb hby at_44) rfl  kk) ?_
      show OwnGo p e below s _ _ _ T86 (mkF m 45 #[.val (.long p1), .second, .val (.long p2), .second, .val (.long p3), .second, .val (.ref b54), .val (.int (1 : Int32)), .val (.int (1 : Int32)), .val (.int (1 : Int32)), .val (.int (0 : Int32)), .unset, .unset, .unset, .unset, .unset, .unset, .unset, .unset, .unset, .unset, .unset, .unset] [(.long p2), (.ref b54)])
      obtain ⟨cq87, kq87, q87a, q87b, q87c⟩ := isOf hZ e86 E_b54
      obtain ⟨_, _, ⟨T87, L87, k87, n87⟩, -, X87, ⟨Lc87, hQ87, l87, y87, z87⟩, st87⟩ := X86.virtualBack hx (y := (⟨"com/example/utsatt/utsatt/KeyHashes", "add", "(J)Z"⟩ : MethodName)) (z := (⟨"com/example/utsatt/utsatt/KeyHashes", "add", "(J)Z"⟩ : MethodName)) hown (mvT hZ (hw _ (List.mem_of_getElem? (i := 12) rfl))) (mvT hZ (hw _ (List.mem_of_getElem? (i := 13) rfl))) (notFace_of_selects (args := #[]) (mvT hZ (hw _ (List.mem_of_getElem? (i := 15) rfl)))) (mvT hZ (hw _ (List.mem_of_getElem? (i := 15) rfl))) (mvT hZ (hw _ (List.mem_of_getElem? (i := 14) rfl))) (by decide) (backOf (W := 0) (rmaddO l Z a0 hw [] b54 t55 kc55 w85 p2 T85.heap n0 Z_ E_b54 Fs85 V85 hl85 (Nat.lt_of_lt_of_le (by decide) ze_85) in_p2_85) hZ (hw _ (List.mem_of_getElem? (i := 16) rfl)) (hw _ (List.mem_of_getElem? (i := 2) rfl)) (by decide) (by decide)) q87a q87c (g := (mkF m 45 #[.val (.long p1), .second, .val (.long p2), .second, .val (.long p3), .second, .val (.ref b54), .val (.int (1 : Int32)), .val (.int (1 : Int32)), .val (.int (1 : Int32)), .val (.int (0 : Int32)), .unset, .unset, .unset, .unset, .unset, .unset, .unset, .unset, .unset, .unset, .unset, .unset] [(.long p2), (.ref b54)])) rfl (by rw [hml]; rfl) (Steps.refl _) (argsL := [(.long p2)]) (rest := []) (lenOf pd_5 rfl) rfl (by show 2 * 0 + _ ≤ _; exact Nat.le_of_eq rfl) (hb hby at_45) (fun _ _ => ⟨rfl, e86, (by decide : 2 + 0 ≤ _), (by decide : 18 + 0 ≤ _)⟩)
      dsimp only [Pt.U, Pt.locs, Pt.cells, Pt.slots] at X87 l87 y87 z87 st87 hQ87
      subst l87 y87 z87
      obtain ⟨rfl, N87q, e87⟩ := hQ87
      have N87 := Fr.app N86 N87q
      refine OwnGo.st (fun _ kk => st87.trans kk) ?_
      show OwnGo p e below s _ _ _ T87 (mkF m 48 #[.val (.long p1), .second, .val (.long p2), .second, .val (.long p3), .second, .val (.ref b54), .val (.int (1 : Int32)), .val (.int (1 : Int32)), .val (.int (1 : Int32)), .val (.int (0 : Int32)), .unset, .unset, .unset, .unset, .unset, .unset, .unset, .unset, .unset, .unset, .unset, .unset] [(.int (0 : Int32))])
      refine OwnGo.st (fun _ kk => XS.istore X87.here hx rfl (hb hby at_48) rfl (l' := #[.val (.long p1), .second, .val (.long p2), .second, .val (.long p3), .second, .val (.ref b54), .val (.int (1 : Int32)), .val (.int (1 : Int32)), .val (.int (1 : Int32)), .val (.int (0 : Int32)), .val (.int (0 : Int32)), .unset, .unset, .unset, .unset, .unset, .unset, .unset, .unset, .unset, .unset, .unset]) rfl kk) ?_
      show OwnGo p e below s _ _ _ T87 (mkF m 50 #[.val (.long p1), .second, .val (.long p2), .second, .val (.long p3), .second, .val (.ref b54), .val (.int (1 : Int32)), .val (.int (1 : Int32)), .val (.int (1 : Int32)), .val (.int (0 : Int32)), .val (.int (0 : Int32)), .unset, .unset, .unset, .unset, .unset, .unset, .unset, .unset, .unset, .unset, .unset] [])
      refine OwnGo.st (fun _ kk => XS.aload X87.here hx rfl (hb hby at_50) rfl rfl  kk) ?_
      show OwnGo p e below s _ _ _ T87 (mkF m 52 #[.val (.long p1), .second, .val (.long p2), .second, .val (.long p3), .second, .val (.ref b54), .val (.int (1 : Int32)), .val (.int (1 : Int32)), .val (.int (1 : Int32)), .val (.int (0 : Int32)), .val (.int (0 : Int32)), .unset, .unset, .unset, .unset, .unset, .unset, .unset, .unset, .unset, .unset, .unset] [(.ref b54)])
      refine OwnGo.st (fun _ kk => XS.lload X87.here hx rfl (hb hby at_52) rfl  kk) ?_
      show OwnGo p e below s _ _ _ T87 (mkF m 54 #[.val (.long p1), .second, .val (.long p2), .second, .val (.long p3), .second, .val (.ref b54), .val (.int (1 : Int32)), .val (.int (1 : Int32)), .val (.int (1 : Int32)), .val (.int (0 : Int32)), .val (.int (0 : Int32)), .unset, .unset, .unset, .unset, .unset, .unset, .unset, .unset, .unset, .unset, .unset] [(.long p3), (.ref b54)])
      obtain ⟨cq88, kq88, q88a, q88b, q88c⟩ := isOf hZ e87 E_b54
      obtain ⟨_, _, ⟨T88, L88, k88, n88⟩, -, X88, ⟨Lc88, hQ88, l88, y88, z88⟩, st88⟩ := X87.virtualBack hx (y := (⟨"com/example/utsatt/utsatt/KeyHashes", "add", "(J)Z"⟩ : MethodName)) (z := (⟨"com/example/utsatt/utsatt/KeyHashes", "add", "(J)Z"⟩ : MethodName)) hown (mvT hZ (hw _ (List.mem_of_getElem? (i := 12) rfl))) (mvT hZ (hw _ (List.mem_of_getElem? (i := 13) rfl))) (notFace_of_selects (args := #[]) (mvT hZ (hw _ (List.mem_of_getElem? (i := 15) rfl)))) (mvT hZ (hw _ (List.mem_of_getElem? (i := 15) rfl))) (mvT hZ (hw _ (List.mem_of_getElem? (i := 14) rfl))) (by decide) (backOf (W := 0) (rmaddO l Z a0 hw [] b54 t55 kc55 w85 p3 T85.heap n0 Z_ E_b54 Fs85 V85 hl85 (Nat.lt_of_lt_of_le (by decide) ze_85) in_p3_85) hZ (hw _ (List.mem_of_getElem? (i := 16) rfl)) (hw _ (List.mem_of_getElem? (i := 2) rfl)) (by decide) (by decide)) q88a q88c (g := (mkF m 54 #[.val (.long p1), .second, .val (.long p2), .second, .val (.long p3), .second, .val (.ref b54), .val (.int (1 : Int32)), .val (.int (1 : Int32)), .val (.int (1 : Int32)), .val (.int (0 : Int32)), .val (.int (0 : Int32)), .unset, .unset, .unset, .unset, .unset, .unset, .unset, .unset, .unset, .unset, .unset] [(.long p3), (.ref b54)])) rfl (by rw [hml]; rfl) (Steps.refl _) (argsL := [(.long p3)]) (rest := []) (lenOf pd_5 rfl) rfl (by show 2 * 0 + _ ≤ _; exact Nat.le_of_eq rfl) (hb hby at_54) (fun _ _ => ⟨rfl, e87, (by decide : 2 + 0 ≤ _), (by decide : 18 + 0 ≤ _)⟩)
      dsimp only [Pt.U, Pt.locs, Pt.cells, Pt.slots] at X88 l88 y88 z88 st88 hQ88
      subst l88 y88 z88
      obtain ⟨rfl, N88q, e88⟩ := hQ88
      have N88 := Fr.app N87 N88q
      refine OwnGo.st (fun _ kk => st88.trans kk) ?_
      show OwnGo p e below s _ _ _ T88 (mkF m 57 #[.val (.long p1), .second, .val (.long p2), .second, .val (.long p3), .second, .val (.ref b54), .val (.int (1 : Int32)), .val (.int (1 : Int32)), .val (.int (1 : Int32)), .val (.int (0 : Int32)), .val (.int (0 : Int32)), .unset, .unset, .unset, .unset, .unset, .unset, .unset, .unset, .unset, .unset, .unset] [(.int (0 : Int32))])
      refine OwnGo.st (fun _ kk => XS.istore X88.here hx rfl (hb hby at_57) rfl (l' := #[.val (.long p1), .second, .val (.long p2), .second, .val (.long p3), .second, .val (.ref b54), .val (.int (1 : Int32)), .val (.int (1 : Int32)), .val (.int (1 : Int32)), .val (.int (0 : Int32)), .val (.int (0 : Int32)), .val (.int (0 : Int32)), .unset, .unset, .unset, .unset, .unset, .unset, .unset, .unset, .unset, .unset]) rfl kk) ?_
      show OwnGo p e below s _ _ _ T88 (mkF m 59 #[.val (.long p1), .second, .val (.long p2), .second, .val (.long p3), .second, .val (.ref b54), .val (.int (1 : Int32)), .val (.int (1 : Int32)), .val (.int (1 : Int32)), .val (.int (0 : Int32)), .val (.int (0 : Int32)), .val (.int (0 : Int32)), .unset, .unset, .unset, .unset, .unset, .unset, .unset, .unset, .unset, .unset] [])
      refine OwnGo.st (fun _ kk => XS.aload X88.here hx rfl (hb hby at_59) rfl rfl  kk) ?_
      show OwnGo p e below s _ _ _ T88 (mkF m 61 #[.val (.long p1), .second, .val (.long p2), .second, .val (.long p3), .second, .val (.ref b54), .val (.int (1 : Int32)), .val (.int (1 : Int32)), .val (.int (1 : Int32)), .val (.int (0 : Int32)), .val (.int (0 : Int32)), .val (.int (0 : Int32)), .unset, .unset, .unset, .unset, .unset, .unset, .unset, .unset, .unset, .unset] [(.ref b54)])
      obtain ⟨cq89, kq89, q89a, q89b, q89c⟩ := isOf hZ e88 E_b54
      obtain ⟨_, _, ⟨T89, L89, k89, n89⟩, -, X89, ⟨Lc89, hQ89, l89, y89, z89⟩, st89⟩ := X88.virtualBack hx (y := (⟨"com/example/utsatt/utsatt/KeyHashes", "size", "()I"⟩ : MethodName)) (z := (⟨"com/example/utsatt/utsatt/KeyHashes", "size", "()I"⟩ : MethodName)) hown (mvT hZ (hw _ (List.mem_of_getElem? (i := 34) rfl))) (mvT hZ (hw _ (List.mem_of_getElem? (i := 35) rfl))) (notFace_of_selects (args := #[]) (mvT hZ (hw _ (List.mem_of_getElem? (i := 37) rfl)))) (mvT hZ (hw _ (List.mem_of_getElem? (i := 37) rfl))) (mvT hZ (hw _ (List.mem_of_getElem? (i := 36) rfl))) (by decide) (backOf (W := 0) (rmsiz l Z a0 hw [] b54 (3 : Int32) T85.heap n0 Z_ Fz85) hZ (hw _ (List.mem_of_getElem? (i := 38) rfl)) (hw _ (List.mem_of_getElem? (i := 2) rfl)) (by decide) (by decide)) q89a q89c (g := (mkF m 61 #[.val (.long p1), .second, .val (.long p2), .second, .val (.long p3), .second, .val (.ref b54), .val (.int (1 : Int32)), .val (.int (1 : Int32)), .val (.int (1 : Int32)), .val (.int (0 : Int32)), .val (.int (0 : Int32)), .val (.int (0 : Int32)), .unset, .unset, .unset, .unset, .unset, .unset, .unset, .unset, .unset, .unset] [(.ref b54)])) rfl (by rw [hml]; rfl) (Steps.refl _) (argsL := []) (rest := []) (lenOf pd_6 rfl) rfl (by show 2 * 0 + _ ≤ _; exact Nat.le_of_eq rfl) (hb hby at_61) (fun _ _ => ⟨rfl, e88, (by decide : 2 + 0 ≤ _), (by decide : 18 + 0 ≤ _)⟩)
      dsimp only [Pt.U, Pt.locs, Pt.cells, Pt.slots] at X89 l89 y89 z89 st89 hQ89
      subst l89 y89 z89
      obtain ⟨rfl, N89q, e89⟩ := hQ89
      have N89 := Fr.app N88 N89q
      refine OwnGo.st (fun _ kk => st89.trans kk) ?_
      show OwnGo p e below s _ _ _ T89 (mkF m 64 #[.val (.long p1), .second, .val (.long p2), .second, .val (.long p3), .second, .val (.ref b54), .val (.int (1 : Int32)), .val (.int (1 : Int32)), .val (.int (1 : Int32)), .val (.int (0 : Int32)), .val (.int (0 : Int32)), .val (.int (0 : Int32)), .unset, .unset, .unset, .unset, .unset, .unset, .unset, .unset, .unset, .unset] [(.int (3 : Int32))])
      refine OwnGo.st (fun _ kk => XS.istore X89.here hx rfl (hb hby at_64) rfl (l' := #[.val (.long p1), .second, .val (.long p2), .second, .val (.long p3), .second, .val (.ref b54), .val (.int (1 : Int32)), .val (.int (1 : Int32)), .val (.int (1 : Int32)), .val (.int (0 : Int32)), .val (.int (0 : Int32)), .val (.int (0 : Int32)), .val (.int (3 : Int32)), .unset, .unset, .unset, .unset, .unset, .unset, .unset, .unset, .unset]) rfl kk) ?_
      show OwnGo p e below s _ _ _ T89 (mkF m 66 #[.val (.long p1), .second, .val (.long p2), .second, .val (.long p3), .second, .val (.ref b54), .val (.int (1 : Int32)), .val (.int (1 : Int32)), .val (.int (1 : Int32)), .val (.int (0 : Int32)), .val (.int (0 : Int32)), .val (.int (0 : Int32)), .val (.int (3 : Int32)), .unset, .unset, .unset, .unset, .unset, .unset, .unset, .unset, .unset] [])
      refine OwnGo.st (fun _ kk => XS.lloadN X89.here hx rfl (hb hby at_66) rfl  kk) ?_
      show OwnGo p e below s _ _ _ T89 (mkF m 67 #[.val (.long p1), .second, .val (.long p2), .second, .val (.long p3), .second, .val (.ref b54), .val (.int (1 : Int32)), .val (.int (1 : Int32)), .val (.int (1 : Int32)), .val (.int (0 : Int32)), .val (.int (0 : Int32)), .val (.int (0 : Int32)), .val (.int (3 : Int32)), .unset, .unset, .unset, .unset, .unset, .unset, .unset, .unset, .unset] [(.long p1)])
      obtain ⟨_, _, ⟨T90, L90, k90, n90⟩, -, X90, ⟨Lc90, hQ90, l90, y90, z90⟩, st90⟩ := Jvm.LawKit.callS X89 hx (y := (⟨"com/example/utsatt/utsatt/KeyHashesAddPinLaw", "norm", "(J)J"⟩ : MethodName)) hown (mvT hZ (hw _ (List.mem_of_getElem? (i := 39) rfl))) (mvT hZ (hw _ (List.mem_of_getElem? (i := 40) rfl))) (mvT hZ (hw _ (List.mem_of_getElem? (i := 41) rfl))) (mvT hZ (hw _ (List.mem_of_getElem? (i := 42) rfl))) (by decide) (backOf (W := 0) (rmnrm l Z a0 hw [] p1 T85.heap n0 Z_ ) hZ (hw _ (List.mem_of_getElem? (i := 42) rfl)) (hw _ (List.mem_of_getElem? (i := 41) rfl)) (by decide) (by decide)) (g := (mkF m 67 #[.val (.long p1), .second, .val (.long p2), .second, .val (.long p3), .second, .val (.ref b54), .val (.int (1 : Int32)), .val (.int (1 : Int32)), .val (.int (1 : Int32)), .val (.int (0 : Int32)), .val (.int (0 : Int32)), .val (.int (0 : Int32)), .val (.int (3 : Int32)), .unset, .unset, .unset, .unset, .unset, .unset, .unset, .unset, .unset] [(.long p1)])) rfl (by rw [hml]; rfl) (argsL := [(.long p1)]) (rest := []) (lenOf pd_2 rfl) rfl (by show 2 * 0 + _ ≤ _; exact Nat.le_of_eq rfl) (hb hby at_67) (fun _ _ => ⟨rfl, e89, (by decide : 2 + 0 ≤ _), (by decide : 18 + 0 ≤ _)⟩)
      dsimp only [Pt.U, Pt.locs, Pt.cells, Pt.slots] at X90 l90 y90 z90 st90 hQ90
      subst l90 y90 z90
      obtain ⟨rfl, N90q, e90⟩ := hQ90
      have N90 := Fr.app N89 N90q
      refine OwnGo.st st90 ?_
      show OwnGo p e below s _ _ _ T90 (mkF m 70 #[.val (.long p1), .second, .val (.long p2), .second, .val (.long p3), .second, .val (.ref b54), .val (.int (1 : Int32)), .val (.int (1 : Int32)), .val (.int (1 : Int32)), .val (.int (0 : Int32)), .val (.int (0 : Int32)), .val (.int (0 : Int32)), .val (.int (3 : Int32)), .unset, .unset, .unset, .unset, .unset, .unset, .unset, .unset, .unset] [(.long (own_st p1))])
      refine OwnGo.st (fun _ kk => XS.lstore X90.here hx rfl (hb hby at_70) rfl (l' := #[.val (.long p1), .second, .val (.long p2), .second, .val (.long p3), .second, .val (.ref b54), .val (.int (1 : Int32)), .val (.int (1 : Int32)), .val (.int (1 : Int32)), .val (.int (0 : Int32)), .val (.int (0 : Int32)), .val (.int (0 : Int32)), .val (.int (3 : Int32)), .val (.long (own_st p1)), .second, .unset, .unset, .unset, .unset, .unset, .unset, .unset]) rfl kk) ?_
      show OwnGo p e below s _ _ _ T90 (mkF m 72 #[.val (.long p1), .second, .val (.long p2), .second, .val (.long p3), .second, .val (.ref b54), .val (.int (1 : Int32)), .val (.int (1 : Int32)), .val (.int (1 : Int32)), .val (.int (0 : Int32)), .val (.int (0 : Int32)), .val (.int (0 : Int32)), .val (.int (3 : Int32)), .val (.long (own_st p1)), .second, .unset, .unset, .unset, .unset, .unset, .unset, .unset] [])
      refine OwnGo.st (fun _ kk => XS.lloadN X90.here hx rfl (hb hby at_72) rfl  kk) ?_
      show OwnGo p e below s _ _ _ T90 (mkF m 73 #[.val (.long p1), .second, .val (.long p2), .second, .val (.long p3), .second, .val (.ref b54), .val (.int (1 : Int32)), .val (.int (1 : Int32)), .val (.int (1 : Int32)), .val (.int (0 : Int32)), .val (.int (0 : Int32)), .val (.int (0 : Int32)), .val (.int (3 : Int32)), .val (.long (own_st p1)), .second, .unset, .unset, .unset, .unset, .unset, .unset, .unset] [(.long p2)])
      obtain ⟨_, _, ⟨T91, L91, k91, n91⟩, -, X91, ⟨Lc91, hQ91, l91, y91, z91⟩, st91⟩ := Jvm.LawKit.callS X90 hx (y := (⟨"com/example/utsatt/utsatt/KeyHashesAddPinLaw", "norm", "(J)J"⟩ : MethodName)) hown (mvT hZ (hw _ (List.mem_of_getElem? (i := 39) rfl))) (mvT hZ (hw _ (List.mem_of_getElem? (i := 40) rfl))) (mvT hZ (hw _ (List.mem_of_getElem? (i := 41) rfl))) (mvT hZ (hw _ (List.mem_of_getElem? (i := 42) rfl))) (by decide) (backOf (W := 0) (rmnrm l Z a0 hw [] p2 T85.heap n0 Z_ ) hZ (hw _ (List.mem_of_getElem? (i := 42) rfl)) (hw _ (List.mem_of_getElem? (i := 41) rfl)) (by decide) (by decide)) (g := (mkF m 73 #[.val (.long p1), .second, .val (.long p2), .second, .val (.long p3), .second, .val (.ref b54), .val (.int (1 : Int32)), .val (.int (1 : Int32)), .val (.int (1 : Int32)), .val (.int (0 : Int32)), .val (.int (0 : Int32)), .val (.int (0 : Int32)), .val (.int (3 : Int32)), .val (.long (own_st p1)), .second, .unset, .unset, .unset, .unset, .unset, .unset, .unset] [(.long p2)])) rfl (by rw [hml]; rfl) (argsL := [(.long p2)]) (rest := []) (lenOf pd_2 rfl) rfl (by show 2 * 0 + _ ≤ _; exact Nat.le_of_eq rfl) (hb hby at_73) (fun _ _ => ⟨rfl, e90, (by decide : 2 + 0 ≤ _), (by decide : 18 + 0 ≤ _)⟩)
      dsimp only [Pt.U, Pt.locs, Pt.cells, Pt.slots] at X91 l91 y91 z91 st91 hQ91
      subst l91 y91 z91
      obtain ⟨rfl, N91q, e91⟩ := hQ91
      have N91 := Fr.app N90 N91q
      refine OwnGo.st st91 ?_
      show OwnGo p e below s _ _ _ T91 (mkF m 76 #[.val (.long p1), .second, .val (.long p2), .second, .val (.long p3), .second, .val (.ref b54), .val (.int (1 : Int32)), .val (.int (1 : Int32)), .val (.int (1 : Int32)), .val (.int (0 : Int32)), .val (.int (0 : Int32)), .val (.int (0 : Int32)), .val (.int (3 : Int32)), .val (.long (own_st p1)), .second, .unset, .unset, .unset, .unset, .unset, .unset, .unset] [(.long (own_st p2))])
      refine OwnGo.st (fun _ kk => XS.lstore X91.here hx rfl (hb hby at_76) rfl (l' := #[.val (.long p1), .second, .val (.long p2), .second, .val (.long p3), .second, .val (.ref b54), .val (.int (1 : Int32)), .val (.int (1 : Int32)), .val (.int (1 : Int32)), .val (.int (0 : Int32)), .val (.int (0 : Int32)), .val (.int (0 : Int32)), .val (.int (3 : Int32)), .val (.long (own_st p1)), .second, .val (.long (own_st p2)), .second, .unset, .unset, .unset, .unset, .unset]) rfl kk) ?_
      show OwnGo p e below s _ _ _ T91 (mkF m 78 #[.val (.long p1), .second, .val (.long p2), .second, .val (.long p3), .second, .val (.ref b54), .val (.int (1 : Int32)), .val (.int (1 : Int32)), .val (.int (1 : Int32)), .val (.int (0 : Int32)), .val (.int (0 : Int32)), .val (.int (0 : Int32)), .val (.int (3 : Int32)), .val (.long (own_st p1)), .second, .val (.long (own_st p2)), .second, .unset, .unset, .unset, .unset, .unset] [])
      refine OwnGo.st (fun _ kk => XS.lload X91.here hx rfl (hb hby at_78) rfl  kk) ?_
      show OwnGo p e below s _ _ _ T91 (mkF m 80 #[.val (.long p1), .second, .val (.long p2), .second, .val (.long p3), .second, .val (.ref b54), .val (.int (1 : Int32)), .val (.int (1 : Int32)), .val (.int (1 : Int32)), .val (.int (0 : Int32)), .val (.int (0 : Int32)), .val (.int (0 : Int32)), .val (.int (3 : Int32)), .val (.long (own_st p1)), .second, .val (.long (own_st p2)), .second, .unset, .unset, .unset, .unset, .unset] [(.long p3)])
      obtain ⟨_, _, ⟨T92, L92, k92, n92⟩, -, X92, ⟨Lc92, hQ92, l92, y92, z92⟩, st92⟩ := Jvm.LawKit.callS X91 hx (y := (⟨"com/example/utsatt/utsatt/KeyHashesAddPinLaw", "norm", "(J)J"⟩ : MethodName)) hown (mvT hZ (hw _ (List.mem_of_getElem? (i := 39) rfl))) (mvT hZ (hw _ (List.mem_of_getElem? (i := 40) rfl))) (mvT hZ (hw _ (List.mem_of_getElem? (i := 41) rfl))) (mvT hZ (hw _ (List.mem_of_getElem? (i := 42) rfl))) (by decide) (backOf (W := 0) (rmnrm l Z a0 hw [] p3 T85.heap n0 Z_ ) hZ (hw _ (List.mem_of_getElem? (i := 42) rfl)) (hw _ (List.mem_of_getElem? (i := 41) rfl)) (by decide) (by decide)) (g := (mkF m 80 #[.val (.long p1), .second, .val (.long p2), .second, .val (.long p3), .second, .val (.ref b54), .val (.int (1 : Int32)), .val (.int (1 : Int32)), .val (.int (1 : Int32)), .val (.int (0 : Int32)), .val (.int (0 : Int32)), .val (.int (0 : Int32)), .val (.int (3 : Int32)), .val (.long (own_st p1)), .second, .val (.long (own_st p2)), .second, .unset, .unset, .unset, .unset, .unset] [(.long p3)])) rfl (by rw [hml]; rfl) (argsL := [(.long p3)]) (rest := []) (lenOf pd_2 rfl) rfl (by show 2 * 0 + _ ≤ _; exact Nat.le_of_eq rfl) (hb hby at_80) (fun _ _ => ⟨rfl, e91, (by decide : 2 + 0 ≤ _), (by decide : 18 + 0 ≤ _)⟩)
      dsimp only [Pt.U, Pt.locs, Pt.cells, Pt.slots] at X92 l92 y92 z92 st92 hQ92
      subst l92 y92 z92
      obtain ⟨rfl, N92q, e92⟩ := hQ92
      have N92 := Fr.app N91 N92q
      refine OwnGo.st st92 ?_
      show OwnGo p e below s _ _ _ T92 (mkF m 83 #[.val (.long p1), .second, .val (.long p2), .second, .val (.long p3), .second, .val (.ref b54), .val (.int (1 : Int32)), .val (.int (1 : Int32)), .val (.int (1 : Int32)), .val (.int (0 : Int32)), .val (.int (0 : Int32)), .val (.int (0 : Int32)), .val (.int (3 : Int32)), .val (.long (own_st p1)), .second, .val (.long (own_st p2)), .second, .unset, .unset, .unset, .unset, .unset] [(.long (own_st p3))])
      refine OwnGo.st (fun _ kk => XS.lstore X92.here hx rfl (hb hby at_83) rfl (l' := #[.val (.long p1), .second, .val (.long p2), .second, .val (.long p3), .second, .val (.ref b54), .val (.int (1 : Int32)), .val (.int (1 : Int32)), .val (.int (1 : Int32)), .val (.int (0 : Int32)), .val (.int (0 : Int32)), .val (.int (0 : Int32)), .val (.int (3 : Int32)), .val (.long (own_st p1)), .second, .val (.long (own_st p2)), .second, .val (.long (own_st p3)), .second, .unset, .unset, .unset]) rfl kk) ?_
      show OwnGo p e below s _ _ _ T92 (mkF m 85 #[.val (.long p1), .second, .val (.long p2), .second, .val (.long p3), .second, .val (.ref b54), .val (.int (1 : Int32)), .val (.int (1 : Int32)), .val (.int (1 : Int32)), .val (.int (0 : Int32)), .val (.int (0 : Int32)), .val (.int (0 : Int32)), .val (.int (3 : Int32)), .val (.long (own_st p1)), .second, .val (.long (own_st p2)), .second, .val (.long (own_st p3)), .second, .unset, .unset, .unset] [])
      refine OwnGo.st (fun _ kk => XS.lload X92.here hx rfl (hb hby at_85) rfl  kk) ?_
      show OwnGo p e below s _ _ _ T92 (mkF m 87 #[.val (.long p1), .second, .val (.long p2), .second, .val (.long p3), .second, .val (.ref b54), .val (.int (1 : Int32)), .val (.int (1 : Int32)), .val (.int (1 : Int32)), .val (.int (0 : Int32)), .val (.int (0 : Int32)), .val (.int (0 : Int32)), .val (.int (3 : Int32)), .val (.long (own_st p1)), .second, .val (.long (own_st p2)), .second, .val (.long (own_st p3)), .second, .unset, .unset, .unset] [(.long (own_st p2))])
      refine OwnGo.st (fun _ kk => XS.lload X92.here hx rfl (hb hby at_87) rfl  kk) ?_
      show OwnGo p e below s _ _ _ T92 (mkF m 89 #[.val (.long p1), .second, .val (.long p2), .second, .val (.long p3), .second, .val (.ref b54), .val (.int (1 : Int32)), .val (.int (1 : Int32)), .val (.int (1 : Int32)), .val (.int (0 : Int32)), .val (.int (0 : Int32)), .val (.int (0 : Int32)), .val (.int (3 : Int32)), .val (.long (own_st p1)), .second, .val (.long (own_st p2)), .second, .val (.long (own_st p3)), .second, .unset, .unset, .unset] [(.long (own_st p1)), (.long (own_st p2))])
      refine OwnGo.st (fun _ kk => XS.lcmp X92.here hx rfl (hb hby at_89) rfl kk) ?_
      show OwnGo p e below s _ _ _ T92 (mkF m 90 #[.val (.long p1), .second, .val (.long p2), .second, .val (.long p3), .second, .val (.ref b54), .val (.int (1 : Int32)), .val (.int (1 : Int32)), .val (.int (1 : Int32)), .val (.int (0 : Int32)), .val (.int (0 : Int32)), .val (.int (0 : Int32)), .val (.int (3 : Int32)), .val (.long (own_st p1)), .second, .val (.long (own_st p2)), .second, .val (.long (own_st p3)), .second, .unset, .unset, .unset] [(.int (lcmpW (own_st p2) (own_st p1)))])
      refine OwnGo.st (fun _ kk => XS.ifNo X92.here hx rfl (hb hby at_90) rfl ((if0 _ _).trans (feq ((fun q => hba ((lw_eq _ _).1 q)) : ¬ ((lcmpW (own_st p2) (own_st p1)) = (0 : Int32)))).1) kk) ?_
      show OwnGo p e below s _ _ _ T92 (mkF m 93 #[.val (.long p1), .second, .val (.long p2), .second, .val (.long p3), .second, .val (.ref b54), .val (.int (1 : Int32)), .val (.int (1 : Int32)), .val (.int (1 : Int32)), .val (.int (0 : Int32)), .val (.int (0 : Int32)), .val (.int (0 : Int32)), .val (.int (3 : Int32)), .val (.long (own_st p1)), .second, .val (.long (own_st p2)), .second, .val (.long (own_st p3)), .second, .unset, .unset, .unset] [])
      refine OwnGo.st (fun _ kk => XS.iconst X92.here hx rfl (hb hby at_93) kk) ?_
      show OwnGo p e below s _ _ _ T92 (mkF m 94 #[.val (.long p1), .second, .val (.long p2), .second, .val (.long p3), .second, .val (.ref b54), .val (.int (1 : Int32)), .val (.int (1 : Int32)), .val (.int (1 : Int32)), .val (.int (0 : Int32)), .val (.int (0 : Int32)), .val (.int (0 : Int32)), .val (.int (3 : Int32)), .val (.long (own_st p1)), .second, .val (.long (own_st p2)), .second, .val (.long (own_st p3)), .second, .unset, .unset, .unset] [(.int (1 : Int32))])
      refine OwnGo.st (fun _ kk => XS.goto X92.here hx rfl (pc0 := 94) (pc' := 98) rfl (hb hby at_94) (by decide) (by decide) kk) ?_
      show OwnGo p e below s _ _ _ T92 (mkF m 98 #[.val (.long p1), .second, .val (.long p2), .second, .val (.long p3), .second, .val (.ref b54), .val (.int (1 : Int32)), .val (.int (1 : Int32)), .val (.int (1 : Int32)), .val (.int (0 : Int32)), .val (.int (0 : Int32)), .val (.int (0 : Int32)), .val (.int (3 : Int32)), .val (.long (own_st p1)), .second, .val (.long (own_st p2)), .second, .val (.long (own_st p3)), .second, .unset, .unset, .unset] [(.int (1 : Int32))])
      refine OwnGo.st (fun _ kk => XS.istore X92.here hx rfl (hb hby at_98) rfl (l' := #[.val (.long p1), .second, .val (.long p2), .second, .val (.long p3), .second, .val (.ref b54), .val (.int (1 : Int32)), .val (.int (1 : Int32)), .val (.int (1 : Int32)), .val (.int (0 : Int32)), .val (.int (0 : Int32)), .val (.int (0 : Int32)), .val (.int (3 : Int32)), .val (.long (own_st p1)), .second, .val (.long (own_st p2)), .second, .val (.long (own_st p3)), .second, .val (.int (1 : Int32)), .unset, .unset]) rfl kk) ?_
      show OwnGo p e below s _ _ _ T92 (mkF m 100 #[.val (.long p1), .second, .val (.long p2), .second, .val (.long p3), .second, .val (.ref b54), .val (.int (1 : Int32)), .val (.int (1 : Int32)), .val (.int (1 : Int32)), .val (.int (0 : Int32)), .val (.int (0 : Int32)), .val (.int (0 : Int32)), .val (.int (3 : Int32)), .val (.long (own_st p1)), .second, .val (.long (own_st p2)), .second, .val (.long (own_st p3)), .second, .val (.int (1 : Int32)), .unset, .unset] [])
      refine OwnGo.st (fun _ kk => XS.lload X92.here hx rfl (hb hby at_100) rfl  kk) ?_
      show OwnGo p e below s _ _ _ T92 (mkF m 102 #[.val (.long p1), .second, .val (.long p2), .second, .val (.long p3), .second, .val (.ref b54), .val (.int (1 : Int32)), .val (.int (1 : Int32)), .val (.int (1 : Int32)), .val (.int (0 : Int32)), .val (.int (0 : Int32)), .val (.int (0 : Int32)), .val (.int (3 : Int32)), .val (.long (own_st p1)), .second, .val (.long (own_st p2)), .second, .val (.long (own_st p3)), .second, .val (.int (1 : Int32)), .unset, .unset] [(.long (own_st p3))])
      refine OwnGo.st (fun _ kk => XS.lload X92.here hx rfl (hb hby at_102) rfl  kk) ?_
      show OwnGo p e below s _ _ _ T92 (mkF m 104 #[.val (.long p1), .second, .val (.long p2), .second, .val (.long p3), .second, .val (.ref b54), .val (.int (1 : Int32)), .val (.int (1 : Int32)), .val (.int (1 : Int32)), .val (.int (0 : Int32)), .val (.int (0 : Int32)), .val (.int (0 : Int32)), .val (.int (3 : Int32)), .val (.long (own_st p1)), .second, .val (.long (own_st p2)), .second, .val (.long (own_st p3)), .second, .val (.int (1 : Int32)), .unset, .unset] [(.long (own_st p1)), (.long (own_st p3))])
      refine OwnGo.st (fun _ kk => XS.lcmp X92.here hx rfl (hb hby at_104) rfl kk) ?_
      show OwnGo p e below s _ _ _ T92 (mkF m 105 #[.val (.long p1), .second, .val (.long p2), .second, .val (.long p3), .second, .val (.ref b54), .val (.int (1 : Int32)), .val (.int (1 : Int32)), .val (.int (1 : Int32)), .val (.int (0 : Int32)), .val (.int (0 : Int32)), .val (.int (0 : Int32)), .val (.int (3 : Int32)), .val (.long (own_st p1)), .second, .val (.long (own_st p2)), .second, .val (.long (own_st p3)), .second, .val (.int (1 : Int32)), .unset, .unset] [(.int (lcmpW (own_st p3) (own_st p1)))])
      refine OwnGo.st (fun _ kk => XS.ifNo X92.here hx rfl (hb hby at_105) rfl ((if0 _ _).trans (feq ((fun q => hcn (Or.inr ((lw_eq _ _).1 q))) : ¬ ((lcmpW (own_st p3) (own_st p1)) = (0 : Int32)))).1) kk) ?_
      show OwnGo p e below s _ _ _ T92 (mkF m 108 #[.val (.long p1), .second, .val (.long p2), .second, .val (.long p3), .second, .val (.ref b54), .val (.int (1 : Int32)), .val (.int (1 : Int32)), .val (.int (1 : Int32)), .val (.int (0 : Int32)), .val (.int (0 : Int32)), .val (.int (0 : Int32)), .val (.int (3 : Int32)), .val (.long (own_st p1)), .second, .val (.long (own_st p2)), .second, .val (.long (own_st p3)), .second, .val (.int (1 : Int32)), .unset, .unset] [])
      refine OwnGo.st (fun _ kk => XS.lload X92.here hx rfl (hb hby at_108) rfl  kk) ?_
      show OwnGo p e below s _ _ _ T92 (mkF m 110 #[.val (.long p1), .second, .val (.long p2), .second, .val (.long p3), .second, .val (.ref b54), .val (.int (1 : Int32)), .val (.int (1 : Int32)), .val (.int (1 : Int32)), .val (.int (0 : Int32)), .val (.int (0 : Int32)), .val (.int (0 : Int32)), .val (.int (3 : Int32)), .val (.long (own_st p1)), .second, .val (.long (own_st p2)), .second, .val (.long (own_st p3)), .second, .val (.int (1 : Int32)), .unset, .unset] [(.long (own_st p3))])
      refine OwnGo.st (fun _ kk => XS.lload X92.here hx rfl (hb hby at_110) rfl  kk) ?_
      show OwnGo p e below s _ _ _ T92 (mkF m 112 #[.val (.long p1), .second, .val (.long p2), .second, .val (.long p3), .second, .val (.ref b54), .val (.int (1 : Int32)), .val (.int (1 : Int32)), .val (.int (1 : Int32)), .val (.int (0 : Int32)), .val (.int (0 : Int32)), .val (.int (0 : Int32)), .val (.int (3 : Int32)), .val (.long (own_st p1)), .second, .val (.long (own_st p2)), .second, .val (.long (own_st p3)), .second, .val (.int (1 : Int32)), .unset, .unset] [(.long (own_st p2)), (.long (own_st p3))])
      refine OwnGo.st (fun _ kk => XS.lcmp X92.here hx rfl (hb hby at_112) rfl kk) ?_
      show OwnGo p e below s _ _ _ T92 (mkF m 113 #[.val (.long p1), .second, .val (.long p2), .second, .val (.long p3), .second, .val (.ref b54), .val (.int (1 : Int32)), .val (.int (1 : Int32)), .val (.int (1 : Int32)), .val (.int (0 : Int32)), .val (.int (0 : Int32)), .val (.int (0 : Int32)), .val (.int (3 : Int32)), .val (.long (own_st p1)), .second, .val (.long (own_st p2)), .second, .val (.long (own_st p3)), .second, .val (.int (1 : Int32)), .unset, .unset] [(.int (lcmpW (own_st p3) (own_st p2)))])
      refine OwnGo.st (fun _ kk => XS.ifNo X92.here hx rfl (hb hby at_113) rfl ((if0 _ _).trans (feq ((fun q => hcn (Or.inl ((lw_eq _ _).1 q))) : ¬ ((lcmpW (own_st p3) (own_st p2)) = (0 : Int32)))).1) kk) ?_
      show OwnGo p e below s _ _ _ T92 (mkF m 116 #[.val (.long p1), .second, .val (.long p2), .second, .val (.long p3), .second, .val (.ref b54), .val (.int (1 : Int32)), .val (.int (1 : Int32)), .val (.int (1 : Int32)), .val (.int (0 : Int32)), .val (.int (0 : Int32)), .val (.int (0 : Int32)), .val (.int (3 : Int32)), .val (.long (own_st p1)), .second, .val (.long (own_st p2)), .second, .val (.long (own_st p3)), .second, .val (.int (1 : Int32)), .unset, .unset] [])
      refine OwnGo.st (fun _ kk => XS.iconst X92.here hx rfl (hb hby at_116) kk) ?_
      show OwnGo p e below s _ _ _ T92 (mkF m 117 #[.val (.long p1), .second, .val (.long p2), .second, .val (.long p3), .second, .val (.ref b54), .val (.int (1 : Int32)), .val (.int (1 : Int32)), .val (.int (1 : Int32)), .val (.int (0 : Int32)), .val (.int (0 : Int32)), .val (.int (0 : Int32)), .val (.int (3 : Int32)), .val (.long (own_st p1)), .second, .val (.long (own_st p2)), .second, .val (.long (own_st p3)), .second, .val (.int (1 : Int32)), .unset, .unset] [(.int (1 : Int32))])
      refine OwnGo.st (fun _ kk => XS.goto X92.here hx rfl (pc0 := 117) (pc' := 121) rfl (hb hby at_117) (by decide) (by decide) kk) ?_
      show OwnGo p e below s _ _ _ T92 (mkF m 121 #[.val (.long p1), .second, .val (.long p2), .second, .val (.long p3), .second, .val (.ref b54), .val (.int (1 : Int32)), .val (.int (1 : Int32)), .val (.int (1 : Int32)), .val (.int (0 : Int32)), .val (.int (0 : Int32)), .val (.int (0 : Int32)), .val (.int (3 : Int32)), .val (.long (own_st p1)), .second, .val (.long (own_st p2)), .second, .val (.long (own_st p3)), .second, .val (.int (1 : Int32)), .unset, .unset] [(.int (1 : Int32))])
      refine OwnGo.st (fun _ kk => XS.istore X92.here hx rfl (hb hby at_121) rfl (l' := #[.val (.long p1), .second, .val (.long p2), .second, .val (.long p3), .second, .val (.ref b54), .val (.int (1 : Int32)), .val (.int (1 : Int32)), .val (.int (1 : Int32)), .val (.int (0 : Int32)), .val (.int (0 : Int32)), .val (.int (0 : Int32)), .val (.int (3 : Int32)), .val (.long (own_st p1)), .second, .val (.long (own_st p2)), .second, .val (.long (own_st p3)), .second, .val (.int (1 : Int32)), .val (.int (1 : Int32)), .unset]) rfl kk) ?_
      show OwnGo p e below s _ _ _ T92 (mkF m 123 #[.val (.long p1), .second, .val (.long p2), .second, .val (.long p3), .second, .val (.ref b54), .val (.int (1 : Int32)), .val (.int (1 : Int32)), .val (.int (1 : Int32)), .val (.int (0 : Int32)), .val (.int (0 : Int32)), .val (.int (0 : Int32)), .val (.int (3 : Int32)), .val (.long (own_st p1)), .second, .val (.long (own_st p2)), .second, .val (.long (own_st p3)), .second, .val (.int (1 : Int32)), .val (.int (1 : Int32)), .unset] [])
      refine OwnGo.st (fun _ kk => XS.iconst X92.here hx rfl (hb hby at_123) kk) ?_
      show OwnGo p e below s _ _ _ T92 (mkF m 124 #[.val (.long p1), .second, .val (.long p2), .second, .val (.long p3), .second, .val (.ref b54), .val (.int (1 : Int32)), .val (.int (1 : Int32)), .val (.int (1 : Int32)), .val (.int (0 : Int32)), .val (.int (0 : Int32)), .val (.int (0 : Int32)), .val (.int (3 : Int32)), .val (.long (own_st p1)), .second, .val (.long (own_st p2)), .second, .val (.long (own_st p3)), .second, .val (.int (1 : Int32)), .val (.int (1 : Int32)), .unset] [(.int (1 : Int32))])
      refine OwnGo.st (fun _ kk => XS.iload X92.here hx rfl (hb hby at_124) rfl  kk) ?_
      show OwnGo p e below s _ _ _ T92 (mkF m 126 #[.val (.long p1), .second, .val (.long p2), .second, .val (.long p3), .second, .val (.ref b54), .val (.int (1 : Int32)), .val (.int (1 : Int32)), .val (.int (1 : Int32)), .val (.int (0 : Int32)), .val (.int (0 : Int32)), .val (.int (0 : Int32)), .val (.int (3 : Int32)), .val (.long (own_st p1)), .second, .val (.long (own_st p2)), .second, .val (.long (own_st p3)), .second, .val (.int (1 : Int32)), .val (.int (1 : Int32)), .unset] [(.int (1 : Int32)), (.int (1 : Int32))])
      refine OwnGo.st (fun _ kk => XS.ifNo X92.here hx rfl (hb hby at_126) rfl ((if0 _ _).trans (feq ((by decide) : ¬ ((1 : Int32) = (0 : Int32)))).1) kk) ?_
      show OwnGo p e below s _ _ _ T92 (mkF m 129 #[.val (.long p1), .second, .val (.long p2), .second, .val (.long p3), .second, .val (.ref b54), .val (.int (1 : Int32)), .val (.int (1 : Int32)), .val (.int (1 : Int32)), .val (.int (0 : Int32)), .val (.int (0 : Int32)), .val (.int (0 : Int32)), .val (.int (3 : Int32)), .val (.long (own_st p1)), .second, .val (.long (own_st p2)), .second, .val (.long (own_st p3)), .second, .val (.int (1 : Int32)), .val (.int (1 : Int32)), .unset] [(.int (1 : Int32))])
      refine OwnGo.st (fun _ kk => XS.iconst X92.here hx rfl (hb hby at_129) kk) ?_
      show OwnGo p e below s _ _ _ T92 (mkF m 130 #[.val (.long p1), .second, .val (.long p2), .second, .val (.long p3), .second, .val (.ref b54), .val (.int (1 : Int32)), .val (.int (1 : Int32)), .val (.int (1 : Int32)), .val (.int (0 : Int32)), .val (.int (0 : Int32)), .val (.int (0 : Int32)), .val (.int (3 : Int32)), .val (.long (own_st p1)), .second, .val (.long (own_st p2)), .second, .val (.long (own_st p3)), .second, .val (.int (1 : Int32)), .val (.int (1 : Int32)), .unset] [(.int (1 : Int32)), (.int (1 : Int32))])
      refine OwnGo.st (fun _ kk => XS.goto X92.here hx rfl (pc0 := 130) (pc' := 134) rfl (hb hby at_130) (by decide) (by decide) kk) ?_
      show OwnGo p e below s _ _ _ T92 (mkF m 134 #[.val (.long p1), .second, .val (.long p2), .second, .val (.long p3), .second, .val (.ref b54), .val (.int (1 : Int32)), .val (.int (1 : Int32)), .val (.int (1 : Int32)), .val (.int (0 : Int32)), .val (.int (0 : Int32)), .val (.int (0 : Int32)), .val (.int (3 : Int32)), .val (.long (own_st p1)), .second, .val (.long (own_st p2)), .second, .val (.long (own_st p3)), .second, .val (.int (1 : Int32)), .val (.int (1 : Int32)), .unset] [(.int (1 : Int32)), (.int (1 : Int32))])
      refine OwnGo.st (fun _ kk => XS.iadd X92.here hx rfl (hb hby at_134) rfl kk) ?_
      show OwnGo p e below s _ _ _ T92 (mkF m 135 #[.val (.long p1), .second, .val (.long p2), .second, .val (.long p3), .second, .val (.ref b54), .val (.int (1 : Int32)), .val (.int (1 : Int32)), .val (.int (1 : Int32)), .val (.int (0 : Int32)), .val (.int (0 : Int32)), .val (.int (0 : Int32)), .val (.int (3 : Int32)), .val (.long (own_st p1)), .second, .val (.long (own_st p2)), .second, .val (.long (own_st p3)), .second, .val (.int (1 : Int32)), .val (.int (1 : Int32)), .unset] [(.int (2 : Int32))])
      refine OwnGo.st (fun _ kk => XS.iload X92.here hx rfl (hb hby at_135) rfl  kk) ?_
      show OwnGo p e below s _ _ _ T92 (mkF m 137 #[.val (.long p1), .second, .val (.long p2), .second, .val (.long p3), .second, .val (.ref b54), .val (.int (1 : Int32)), .val (.int (1 : Int32)), .val (.int (1 : Int32)), .val (.int (0 : Int32)), .val (.int (0 : Int32)), .val (.int (0 : Int32)), .val (.int (3 : Int32)), .val (.long (own_st p1)), .second, .val (.long (own_st p2)), .second, .val (.long (own_st p3)), .second, .val (.int (1 : Int32)), .val (.int (1 : Int32)), .unset] [(.int (1 : Int32)), (.int (2 : Int32))])
      refine OwnGo.st (fun _ kk => XS.ifNo X92.here hx rfl (hb hby at_137) rfl ((if0 _ _).trans (feq ((by decide) : ¬ ((1 : Int32) = (0 : Int32)))).1) kk) ?_
      show OwnGo p e below s _ _ _ T92 (mkF m 140 #[.val (.long p1), .second, .val (.long p2), .second, .val (.long p3), .second, .val (.ref b54), .val (.int (1 : Int32)), .val (.int (1 : Int32)), .val (.int (1 : Int32)), .val (.int (0 : Int32)), .val (.int (0 : Int32)), .val (.int (0 : Int32)), .val (.int (3 : Int32)), .val (.long (own_st p1)), .second, .val (.long (own_st p2)), .second, .val (.long (own_st p3)), .second, .val (.int (1 : Int32)), .val (.int (1 : Int32)), .unset] [(.int (2 : Int32))])
      refine OwnGo.st (fun _ kk => XS.iconst X92.here hx rfl (hb hby at_140) kk) ?_
      show OwnGo p e below s _ _ _ T92 (mkF m 141 #[.val (.long p1), .second, .val (.long p2), .second, .val (.long p3), .second, .val (.ref b54), .val (.int (1 : Int32)), .val (.int (1 : Int32)), .val (.int (1 : Int32)), .val (.int (0 : Int32)), .val (.int (0 : Int32)), .val (.int (0 : Int32)), .val (.int (3 : Int32)), .val (.long (own_st p1)), .second, .val (.long (own_st p2)), .second, .val (.long (own_st p3)), .second, .val (.int (1 : Int32)), .val (.int (1 : Int32)), .unset] [(.int (1 : Int32)), (.int (2 : Int32))])
      refine OwnGo.st (fun _ kk => XS.goto X92.here hx rfl (pc0 := 141) (pc' := 145) rfl (hb hby at_141) (by decide) (by decide) kk) ?_
      show OwnGo p e below s _ _ _ T92 (mkF m 145 #[.val (.long p1), .second, .val (.long p2), .second, .val (.long p3), .second, .val (.ref b54), .val (.int (1 : Int32)), .val (.int (1 : Int32)), .val (.int (1 : Int32)), .val (.int (0 : Int32)), .val (.int (0 : Int32)), .val (.int (0 : Int32)), .val (.int (3 : Int32)), .val (.long (own_st p1)), .second, .val (.long (own_st p2)), .second, .val (.long (own_st p3)), .second, .val (.int (1 : Int32)), .val (.int (1 : Int32)), .unset] [(.int (1 : Int32)), (.int (2 : Int32))])
      refine OwnGo.st (fun _ kk => XS.iadd X92.here hx rfl (hb hby at_145) rfl kk) ?_
      show OwnGo p e below s _ _ _ T92 (mkF m 146 #[.val (.long p1), .second, .val (.long p2), .second, .val (.long p3), .second, .val (.ref b54), .val (.int (1 : Int32)), .val (.int (1 : Int32)), .val (.int (1 : Int32)), .val (.int (0 : Int32)), .val (.int (0 : Int32)), .val (.int (0 : Int32)), .val (.int (3 : Int32)), .val (.long (own_st p1)), .second, .val (.long (own_st p2)), .second, .val (.long (own_st p3)), .second, .val (.int (1 : Int32)), .val (.int (1 : Int32)), .unset] [(.int (3 : Int32))])
      refine OwnGo.st (fun _ kk => XS.istore X92.here hx rfl (hb hby at_146) rfl (l' := #[.val (.long p1), .second, .val (.long p2), .second, .val (.long p3), .second, .val (.ref b54), .val (.int (1 : Int32)), .val (.int (1 : Int32)), .val (.int (1 : Int32)), .val (.int (0 : Int32)), .val (.int (0 : Int32)), .val (.int (0 : Int32)), .val (.int (3 : Int32)), .val (.long (own_st p1)), .second, .val (.long (own_st p2)), .second, .val (.long (own_st p3)), .second, .val (.int (1 : Int32)), .val (.int (1 : Int32)), .val (.int (3 : Int32))]) rfl kk) ?_
      show OwnGo p e below s _ _ _ T92 (mkF m 148 #[.val (.long p1), .second, .val (.long p2), .second, .val (.long p3), .second, .val (.ref b54), .val (.int (1 : Int32)), .val (.int (1 : Int32)), .val (.int (1 : Int32)), .val (.int (0 : Int32)), .val (.int (0 : Int32)), .val (.int (0 : Int32)), .val (.int (3 : Int32)), .val (.long (own_st p1)), .second, .val (.long (own_st p2)), .second, .val (.long (own_st p3)), .second, .val (.int (1 : Int32)), .val (.int (1 : Int32)), .val (.int (3 : Int32))] [])
      refine OwnGo.st (fun _ kk => XS.iload X92.here hx rfl (hb hby at_148) rfl  kk) ?_
      show OwnGo p e below s _ _ _ T92 (mkF m 150 #[.val (.long p1), .second, .val (.long p2), .second, .val (.long p3), .second, .val (.ref b54), .val (.int (1 : Int32)), .val (.int (1 : Int32)), .val (.int (1 : Int32)), .val (.int (0 : Int32)), .val (.int (0 : Int32)), .val (.int (0 : Int32)), .val (.int (3 : Int32)), .val (.long (own_st p1)), .second, .val (.long (own_st p2)), .second, .val (.long (own_st p3)), .second, .val (.int (1 : Int32)), .val (.int (1 : Int32)), .val (.int (3 : Int32))] [(.int (1 : Int32))])
      refine OwnGo.st (fun _ kk => XS.ifNo X92.here hx rfl (hb hby at_150) rfl ((if0 _ _).trans (feq ((by decide) : ¬ ((1 : Int32) = (0 : Int32)))).1) kk) ?_
      show OwnGo p e below s _ _ _ T92 (mkF m 153 #[.val (.long p1), .second, .val (.long p2), .second, .val (.long p3), .second, .val (.ref b54), .val (.int (1 : Int32)), .val (.int (1 : Int32)), .val (.int (1 : Int32)), .val (.int (0 : Int32)), .val (.int (0 : Int32)), .val (.int (0 : Int32)), .val (.int (3 : Int32)), .val (.long (own_st p1)), .second, .val (.long (own_st p2)), .second, .val (.long (own_st p3)), .second, .val (.int (1 : Int32)), .val (.int (1 : Int32)), .val (.int (3 : Int32))] [])
      refine OwnGo.st (fun _ kk => XS.iload X92.here hx rfl (hb hby at_153) rfl  kk) ?_
      show OwnGo p e below s _ _ _ T92 (mkF m 155 #[.val (.long p1), .second, .val (.long p2), .second, .val (.long p3), .second, .val (.ref b54), .val (.int (1 : Int32)), .val (.int (1 : Int32)), .val (.int (1 : Int32)), .val (.int (0 : Int32)), .val (.int (0 : Int32)), .val (.int (0 : Int32)), .val (.int (3 : Int32)), .val (.long (own_st p1)), .second, .val (.long (own_st p2)), .second, .val (.long (own_st p3)), .second, .val (.int (1 : Int32)), .val (.int (1 : Int32)), .val (.int (3 : Int32))] [(.int (1 : Int32))])
      refine OwnGo.st (fun _ kk => XS.iload X92.here hx rfl (hb hby at_155) rfl  kk) ?_
      show OwnGo p e below s _ _ _ T92 (mkF m 157 #[.val (.long p1), .second, .val (.long p2), .second, .val (.long p3), .second, .val (.ref b54), .val (.int (1 : Int32)), .val (.int (1 : Int32)), .val (.int (1 : Int32)), .val (.int (0 : Int32)), .val (.int (0 : Int32)), .val (.int (0 : Int32)), .val (.int (3 : Int32)), .val (.long (own_st p1)), .second, .val (.long (own_st p2)), .second, .val (.long (own_st p3)), .second, .val (.int (1 : Int32)), .val (.int (1 : Int32)), .val (.int (3 : Int32))] [(.int (1 : Int32)), (.int (1 : Int32))])
      refine OwnGo.st (fun _ kk => XS.icmpNo X92.here hx rfl (hb hby at_157) rfl (teq ((by decide) : (1 : Int32) = (1 : Int32))).2 kk) ?_
      show OwnGo p e below s _ _ _ T92 (mkF m 160 #[.val (.long p1), .second, .val (.long p2), .second, .val (.long p3), .second, .val (.ref b54), .val (.int (1 : Int32)), .val (.int (1 : Int32)), .val (.int (1 : Int32)), .val (.int (0 : Int32)), .val (.int (0 : Int32)), .val (.int (0 : Int32)), .val (.int (3 : Int32)), .val (.long (own_st p1)), .second, .val (.long (own_st p2)), .second, .val (.long (own_st p3)), .second, .val (.int (1 : Int32)), .val (.int (1 : Int32)), .val (.int (3 : Int32))] [])
      refine OwnGo.st (fun _ kk => XS.iload X92.here hx rfl (hb hby at_160) rfl  kk) ?_
      show OwnGo p e below s _ _ _ T92 (mkF m 162 #[.val (.long p1), .second, .val (.long p2), .second, .val (.long p3), .second, .val (.ref b54), .val (.int (1 : Int32)), .val (.int (1 : Int32)), .val (.int (1 : Int32)), .val (.int (0 : Int32)), .val (.int (0 : Int32)), .val (.int (0 : Int32)), .val (.int (3 : Int32)), .val (.long (own_st p1)), .second, .val (.long (own_st p2)), .second, .val (.long (own_st p3)), .second, .val (.int (1 : Int32)), .val (.int (1 : Int32)), .val (.int (3 : Int32))] [(.int (1 : Int32))])
      refine OwnGo.st (fun _ kk => XS.iload X92.here hx rfl (hb hby at_162) rfl  kk) ?_
      show OwnGo p e below s _ _ _ T92 (mkF m 164 #[.val (.long p1), .second, .val (.long p2), .second, .val (.long p3), .second, .val (.ref b54), .val (.int (1 : Int32)), .val (.int (1 : Int32)), .val (.int (1 : Int32)), .val (.int (0 : Int32)), .val (.int (0 : Int32)), .val (.int (0 : Int32)), .val (.int (3 : Int32)), .val (.long (own_st p1)), .second, .val (.long (own_st p2)), .second, .val (.long (own_st p3)), .second, .val (.int (1 : Int32)), .val (.int (1 : Int32)), .val (.int (3 : Int32))] [(.int (1 : Int32)), (.int (1 : Int32))])
      refine OwnGo.st (fun _ kk => XS.icmpNo X92.here hx rfl (hb hby at_164) rfl (teq ((by decide) : (1 : Int32) = (1 : Int32))).2 kk) ?_
      show OwnGo p e below s _ _ _ T92 (mkF m 167 #[.val (.long p1), .second, .val (.long p2), .second, .val (.long p3), .second, .val (.ref b54), .val (.int (1 : Int32)), .val (.int (1 : Int32)), .val (.int (1 : Int32)), .val (.int (0 : Int32)), .val (.int (0 : Int32)), .val (.int (0 : Int32)), .val (.int (3 : Int32)), .val (.long (own_st p1)), .second, .val (.long (own_st p2)), .second, .val (.long (own_st p3)), .second, .val (.int (1 : Int32)), .val (.int (1 : Int32)), .val (.int (3 : Int32))] [])
      refine OwnGo.st (fun _ kk => XS.iload X92.here hx rfl (hb hby at_167) rfl  kk) ?_
      show OwnGo p e below s _ _ _ T92 (mkF m 169 #[.val (.long p1), .second, .val (.long p2), .second, .val (.long p3), .second, .val (.ref b54), .val (.int (1 : Int32)), .val (.int (1 : Int32)), .val (.int (1 : Int32)), .val (.int (0 : Int32)), .val (.int (0 : Int32)), .val (.int (0 : Int32)), .val (.int (3 : Int32)), .val (.long (own_st p1)), .second, .val (.long (own_st p2)), .second, .val (.long (own_st p3)), .second, .val (.int (1 : Int32)), .val (.int (1 : Int32)), .val (.int (3 : Int32))] [(.int (0 : Int32))])
      refine OwnGo.st (fun _ kk => XS.ifNo X92.here hx rfl (hb hby at_169) rfl ((if0 _ _).trans (teq ((by decide) : (0 : Int32) = (0 : Int32))).2) kk) ?_
      show OwnGo p e below s _ _ _ T92 (mkF m 172 #[.val (.long p1), .second, .val (.long p2), .second, .val (.long p3), .second, .val (.ref b54), .val (.int (1 : Int32)), .val (.int (1 : Int32)), .val (.int (1 : Int32)), .val (.int (0 : Int32)), .val (.int (0 : Int32)), .val (.int (0 : Int32)), .val (.int (3 : Int32)), .val (.long (own_st p1)), .second, .val (.long (own_st p2)), .second, .val (.long (own_st p3)), .second, .val (.int (1 : Int32)), .val (.int (1 : Int32)), .val (.int (3 : Int32))] [])
      refine OwnGo.st (fun _ kk => XS.iload X92.here hx rfl (hb hby at_172) rfl  kk) ?_
      show OwnGo p e below s _ _ _ T92 (mkF m 174 #[.val (.long p1), .second, .val (.long p2), .second, .val (.long p3), .second, .val (.ref b54), .val (.int (1 : Int32)), .val (.int (1 : Int32)), .val (.int (1 : Int32)), .val (.int (0 : Int32)), .val (.int (0 : Int32)), .val (.int (0 : Int32)), .val (.int (3 : Int32)), .val (.long (own_st p1)), .second, .val (.long (own_st p2)), .second, .val (.long (own_st p3)), .second, .val (.int (1 : Int32)), .val (.int (1 : Int32)), .val (.int (3 : Int32))] [(.int (0 : Int32))])
      refine OwnGo.st (fun _ kk => XS.ifNo X92.here hx rfl (hb hby at_174) rfl ((if0 _ _).trans (teq ((by decide) : (0 : Int32) = (0 : Int32))).2) kk) ?_
      show OwnGo p e below s _ _ _ T92 (mkF m 177 #[.val (.long p1), .second, .val (.long p2), .second, .val (.long p3), .second, .val (.ref b54), .val (.int (1 : Int32)), .val (.int (1 : Int32)), .val (.int (1 : Int32)), .val (.int (0 : Int32)), .val (.int (0 : Int32)), .val (.int (0 : Int32)), .val (.int (3 : Int32)), .val (.long (own_st p1)), .second, .val (.long (own_st p2)), .second, .val (.long (own_st p3)), .second, .val (.int (1 : Int32)), .val (.int (1 : Int32)), .val (.int (3 : Int32))] [])
      refine OwnGo.st (fun _ kk => XS.iload X92.here hx rfl (hb hby at_177) rfl  kk) ?_
      show OwnGo p e below s _ _ _ T92 (mkF m 179 #[.val (.long p1), .second, .val (.long p2), .second, .val (.long p3), .second, .val (.ref b54), .val (.int (1 : Int32)), .val (.int (1 : Int32)), .val (.int (1 : Int32)), .val (.int (0 : Int32)), .val (.int (0 : Int32)), .val (.int (0 : Int32)), .val (.int (3 : Int32)), .val (.long (own_st p1)), .second, .val (.long (own_st p2)), .second, .val (.long (own_st p3)), .second, .val (.int (1 : Int32)), .val (.int (1 : Int32)), .val (.int (3 : Int32))] [(.int (0 : Int32))])
      refine OwnGo.st (fun _ kk => XS.ifNo X92.here hx rfl (hb hby at_179) rfl ((if0 _ _).trans (teq ((by decide) : (0 : Int32) = (0 : Int32))).2) kk) ?_
      show OwnGo p e below s _ _ _ T92 (mkF m 182 #[.val (.long p1), .second, .val (.long p2), .second, .val (.long p3), .second, .val (.ref b54), .val (.int (1 : Int32)), .val (.int (1 : Int32)), .val (.int (1 : Int32)), .val (.int (0 : Int32)), .val (.int (0 : Int32)), .val (.int (0 : Int32)), .val (.int (3 : Int32)), .val (.long (own_st p1)), .second, .val (.long (own_st p2)), .second, .val (.long (own_st p3)), .second, .val (.int (1 : Int32)), .val (.int (1 : Int32)), .val (.int (3 : Int32))] [])
      refine OwnGo.st (fun _ kk => XS.iload X92.here hx rfl (hb hby at_182) rfl  kk) ?_
      show OwnGo p e below s _ _ _ T92 (mkF m 184 #[.val (.long p1), .second, .val (.long p2), .second, .val (.long p3), .second, .val (.ref b54), .val (.int (1 : Int32)), .val (.int (1 : Int32)), .val (.int (1 : Int32)), .val (.int (0 : Int32)), .val (.int (0 : Int32)), .val (.int (0 : Int32)), .val (.int (3 : Int32)), .val (.long (own_st p1)), .second, .val (.long (own_st p2)), .second, .val (.long (own_st p3)), .second, .val (.int (1 : Int32)), .val (.int (1 : Int32)), .val (.int (3 : Int32))] [(.int (3 : Int32))])
      refine OwnGo.st (fun _ kk => XS.iload X92.here hx rfl (hb hby at_184) rfl  kk) ?_
      show OwnGo p e below s _ _ _ T92 (mkF m 186 #[.val (.long p1), .second, .val (.long p2), .second, .val (.long p3), .second, .val (.ref b54), .val (.int (1 : Int32)), .val (.int (1 : Int32)), .val (.int (1 : Int32)), .val (.int (0 : Int32)), .val (.int (0 : Int32)), .val (.int (0 : Int32)), .val (.int (3 : Int32)), .val (.long (own_st p1)), .second, .val (.long (own_st p2)), .second, .val (.long (own_st p3)), .second, .val (.int (1 : Int32)), .val (.int (1 : Int32)), .val (.int (3 : Int32))] [(.int (3 : Int32)), (.int (3 : Int32))])
      refine OwnGo.st (fun _ kk => XS.icmpNo X92.here hx rfl (hb hby at_186) rfl (teq ((by decide) : (3 : Int32) = (3 : Int32))).2 kk) ?_
      show OwnGo p e below s _ _ _ T92 (mkF m 189 #[.val (.long p1), .second, .val (.long p2), .second, .val (.long p3), .second, .val (.ref b54), .val (.int (1 : Int32)), .val (.int (1 : Int32)), .val (.int (1 : Int32)), .val (.int (0 : Int32)), .val (.int (0 : Int32)), .val (.int (0 : Int32)), .val (.int (3 : Int32)), .val (.long (own_st p1)), .second, .val (.long (own_st p2)), .second, .val (.long (own_st p3)), .second, .val (.int (1 : Int32)), .val (.int (1 : Int32)), .val (.int (3 : Int32))] [])
      refine OwnGo.st (fun _ kk => XS.iconst X92.here hx rfl (hb hby at_189) kk) ?_
      show OwnGo p e below s _ _ _ T92 (mkF m 190 #[.val (.long p1), .second, .val (.long p2), .second, .val (.long p3), .second, .val (.ref b54), .val (.int (1 : Int32)), .val (.int (1 : Int32)), .val (.int (1 : Int32)), .val (.int (0 : Int32)), .val (.int (0 : Int32)), .val (.int (0 : Int32)), .val (.int (3 : Int32)), .val (.long (own_st p1)), .second, .val (.long (own_st p2)), .second, .val (.long (own_st p3)), .second, .val (.int (1 : Int32)), .val (.int (1 : Int32)), .val (.int (3 : Int32))] [(.int (1 : Int32))])
      refine OwnGo.st (fun _ kk => XS.goto X92.here hx rfl (pc0 := 190) (pc' := 194) rfl (hb hby at_190) (by decide) (by decide) kk) ?_
      show OwnGo p e below s _ _ _ T92 (mkF m 194 #[.val (.long p1), .second, .val (.long p2), .second, .val (.long p3), .second, .val (.ref b54), .val (.int (1 : Int32)), .val (.int (1 : Int32)), .val (.int (1 : Int32)), .val (.int (0 : Int32)), .val (.int (0 : Int32)), .val (.int (0 : Int32)), .val (.int (3 : Int32)), .val (.long (own_st p1)), .second, .val (.long (own_st p2)), .second, .val (.long (own_st p3)), .second, .val (.int (1 : Int32)), .val (.int (1 : Int32)), .val (.int (3 : Int32))] [(.int (1 : Int32))])
      exact OwnGo.retN X92 hx (t := .boolean) hret hlk (by simp) (hb hby at_194) (by show Q0 Z p1 p2 p3 h0 n0 _ T92.heap _; rw [e92]; exact ⟨rfl, N92⟩) (by decide) (by decide)
set_option maxRecDepth 65536 in
set_option maxHeartbeats 40000000 in
theorem comes_1 {Post : Tables → Env → Array Value → State → Outcome → State → Prop} (hpost : ∀ tb e args s v u, (limb_1_1.after args s (.returned v) u = true ∧ limb_1_2.after args s (.returned v) u = true ∧ True) → FrameEnd s (.returned v) u (Jvm.fieldLocs frame_1_writes args s ++ Jvm.arrayLocs frame_1_arrays args s ++ Jvm.staticLocs frame_1_statics s) 16 128 → Post tb e args s (.returned v) u) :
    ArmFor flags0 classFile x code maxLocals ret World_1 tables_1 room_1 Calls_1 rest_1 Pre_1 Post := by
  intro l hfl _ _ p e ha hc hk s m args below hf hA hF happ hP
  obtain ⟨hcalls, hrest, hpre⟩ := hP
  obtain ⟨-, -, -, hnamed, -, -, -, hat⟩ := (Spec.applies_iff hf).mp happ
  obtain ⟨hg, hn⟩ := and_e (Cond.before_iff.mp (show (Jvm.Cond.and given_1 narrow_1).before args s = true from hpre))
  obtain ⟨hcnt, hg⟩ := and_e hg
  obtain ⟨hg0, hg⟩ := and_e hg
  obtain ⟨hg1, hg⟩ := and_e hg
  have hg2 := hg
  obtain ⟨w0, w1, w2, rfl⟩ : ∃ w0 w1 w2 : Value, args = #[w0, w1, w2] := by
    have hs : args.size = 3 := by simpa [Cond.value, given_1] using hcnt
    obtain ⟨L⟩ := args
    match L, hs with
    | [w0, w1, w2], _ => exact ⟨w0, w1, w2, rfl⟩
  have hw := fun d (hd : d ∈ tables_1) => atoms_spec (ws := Jvm.Cond.code x code maxLocals ret :: tables_1) hat d (List.mem_cons_of_mem _ hd)
  have hfit : Fit s := fun {y c} hc i hi => by
    obtain ⟨ha, rfl⟩ := Array.getElem?_eq_some_iff.mp hc
    have q := List.all_eq_true.mp ((Array.all_eq_true_iff_forall_mem.mp hF) _ (Array.getElem_mem ha)) i (List.mem_range.mpr hi)
    simpa [Array.getElem?_eq_getElem hi] using q
  obtain ⟨i0, ei0⟩ := isL_v hg0
  obtain rfl : w0 = (.long i0) := Option.some.inj ei0
  obtain ⟨i1, ei1⟩ := isL_v hg1
  obtain rfl : w1 = (.long i1) := Option.some.inj ei1
  obtain ⟨i2, ei2⟩ := isL_v hg2
  obtain rfl : w2 = (.long i2) := Option.some.inj ei2
  obtain ⟨n, o, h1, h2, h3, _, L, rfl, ⟨rfl, N⟩, hq⟩ := rm0 l s _ hw tables_1 i0 i1 i2 s.heap s.heap.size (Nat.le_refl _)   p e ha hc hk s m _ below hf ((Spec.applies_iff_loose hf).mp happ).1 ⟨rfl, State.Warmed39.refl s, rfl⟩ trivial
  refine ⟨n, _, h1, h2, h3, hpost _ _ _ _ _ _ ⟨Cond.after_iff.mpr rfl, Cond.after_iff.mpr (eq_i res_at (Term.int_eval (1)) rfl), trivial⟩ ⟨hq.1, hq.2.1, (hq.2.2.sift fun y hy => Or.inr (N y hy)).mono (by decide) (by decide)⟩⟩
theorem main_1_1 : Claimed_1_1 := comes_1 fun _ _ _ _ _ _ h hF => ⟨h.1, hF⟩
theorem main_1_2 : Claimed_1_2 := comes_1 fun _ _ _ _ _ _ h hF => ⟨h.2.1, hF⟩
end Jvm.Pilot.@@N@@
namespace Jvm.Pilot.@@N@@
open Jvm Jvm.ClassFile Sem Op Lib Jvm.Free Jvm.Stand Jvm.Pilot.@@N@@.Jvm.D
/-! MADE BY PROGRAM (witnessworld.py) out of the Statement's table words and the real class files: 11 classes; the members and pool entries that the words name. The judged class is class 1, her method 2. -/
namespace start1
open Jvm.ClassFile
def u (s : String) : CpInfo := .utf8 (stringToUtf16 s)
/-- a pool by its gaps: so many unusable entries, then the entry; so many at the end -/
def gap : Nat → List CpInfo → List CpInfo
  | 0, r => r
  | n + 1, r => .unusable :: gap n r
def poolList (es : List (Nat × CpInfo)) (last : Nat) : List CpInfo := es.foldr (fun e r => gap e.1 (e.2 :: r)) (gap last [])
def pool (es : List (Nat × CpInfo)) (last : Nat) : Array CpInfo := ⟨poolList es last⟩
def fileOf (pool : Array CpInfo) (this : Nat) (attrs : Array Attribute := #[]) (ms : Array MethodInfo := #[]) (fl : Nat := 33) (sup : Nat := 0) (ifs : Array Nat := #[]) (fds : Array FieldInfo := #[]) : ClassFile where
  minorVersion := 0
  majorVersion := 65
  constantPool := pool
  accessFlags := fl
  thisClass := this
  superClass := sup
  interfaces := ifs
  fields := fds
  methods := ms
  attributes := attrs
def plain (name : String) (sup : Option ClassId) : Class where
  name := name
  kind := .ordinary
  loader := none
  accessFlags := 33
  super := sup
  interfaces := #[]
  cf := none
  fields := #[]
  methods := #[]
  instanceTypes := #[]
  staticTypes := #[]
  resolved := #[]
  callSites := []
  init := .initialized
  statics := none
  mirror := none

def pool0 : Array CpInfo := pool [(5, u "<init>"), (0, u "()V"), (1, .class_ 10), (1, u "java/lang/Object")] 113

def k0c0 : Code := { maxStack := 0, maxLocals := 1, code := object_method_1_code, exceptionTable := #[], attributes := #[] }
def k0m0 : Method := { name := "<init>", desc := "()V", sig := { parameters := [], returnType := none }, accessFlags := 1, code := some k0c0 }
/-- java/lang/Object -/
def k0 : Class := { plain "java/lang/Object" none with
  accessFlags := 33
  interfaces := #[]
  cf := some (fileOf pool0 8 #[] #[{ accessFlags := 1, nameIndex := 5, descriptorIndex := 6, attributes := #[] }] 33 0 #[] #[])
  fields := #[]
  methods := #[k0m0]
  instanceTypes := #[]
  staticTypes := #[]
  resolved := Array.replicate 124 none
  statics := none }

def pool1 : Array CpInfo := pool [(2, .class_ 4), (0, .nameAndType 5 6), (0, u "java/lang/Object"), (0, u "<init>"), (0, u "()V"), (0, .class_ 8), (0, u "com/example/utsatt/utsatt/KeyHashes"), (0, .methodref 7 3), (0, .methodref 7 11), (0, .nameAndType 12 13), (0, u "add"), (0, u "(J)Z"), (0, .methodref 7 15), (0, .nameAndType 16 17), (0, u "size"), (0, u "()I"), (0, .methodref 19 20), (0, .class_ 21), (0, .nameAndType 22 23), (0, u "com/example/utsatt/utsatt/KeyHashesAddPinLaw"), (0, u "norm"), (0, u "(J)J"), (3, u "law"), (0, u "(JJJ)Z")] 2

def k1m0 : Method := { name := "<init>", desc := "()V", sig := { parameters := [], returnType := none }, accessFlags := 1, code := none }
def k1c1 : Code := { maxStack := 4, maxLocals := 2, code := method_2_code, exceptionTable := #[], attributes := #[] }
def k1m1 : Method := { name := "norm", desc := "(J)J", sig := { parameters := [.long], returnType := some .long }, accessFlags := 10, code := some k1c1 }
def k1c2 : Code := { maxStack := 4, maxLocals := 23, code := code, exceptionTable := #[], attributes := #[] }
def k1m2 : Method := { name := "law", desc := "(JJJ)Z", sig := { parameters := [.long, .long, .long], returnType := some .boolean }, accessFlags := 9, code := some k1c2 }
/-- com/example/utsatt/utsatt/KeyHashesAddPinLaw -/
def k1 : Class := { plain "com/example/utsatt/utsatt/KeyHashesAddPinLaw" (some 0) with
  accessFlags := 49
  interfaces := #[]
  cf := some (fileOf pool1 19 #[] #[{ accessFlags := 1, nameIndex := 5, descriptorIndex := 6, attributes := #[] }, { accessFlags := 10, nameIndex := 22, descriptorIndex := 23, attributes := #[] }, { accessFlags := 9, nameIndex := 27, descriptorIndex := 28, attributes := #[] }] 49 2 #[] #[])
  fields := #[]
  methods := #[k1m0, k1m1, k1m2]
  instanceTypes := #[]
  staticTypes := #[]
  resolved := Array.replicate 31 none
  statics := none }

def pool2 : Array CpInfo := pool [(1, .methodref 2 3), (0, .class_ 4), (0, .nameAndType 5 6), (0, u "java/lang/Object"), (0, u "<init>"), (0, u "()V"), (0, .class_ 8), (0, u "com/example/utsatt/utsatt/KeyHashes"), (0, .fieldref 7 10), (0, .nameAndType 11 12), (0, u "slots"), (0, u "[J"), (8, .fieldref 7 22), (0, .nameAndType 23 24), (0, u "size"), (0, u "I"), (0, .methodref 7 26), (0, .nameAndType 27 28), (0, u "stored"), (0, u "(J)J"), (0, .methodref 7 30), (0, .nameAndType 31 32), (0, u "slotOf"), (0, u "(J)I"), (0, .double 4605380978949069210), (5, .methodref 7 40), (0, .nameAndType 41 42), (0, u "next"), (0, u "(I)I"), (0, .methodref 7 44), (0, .nameAndType 45 46), (0, u "home"), (0, u "(JI)I"), (8, u "FREE"), (0, u "J"), (3, u "ZERO_STANDIN"), (2, u "MIN_CAPACITY"), (1, u "MAX_LOAD"), (0, u "D"), (0, u "MIN_LOAD"), (7, u "()I"), (0, u "add"), (0, u "(J)Z")] 4

def k2c0 : Code := { maxStack := 2, maxLocals := 1, code := prog_2_method_1_code, exceptionTable := #[], attributes := #[] }
def k2m0 : Method := { name := "<init>", desc := "()V", sig := { parameters := [], returnType := none }, accessFlags := 0, code := some k2c0 }
def k2c1 : Code := { maxStack := 1, maxLocals := 1, code := prog_2_method_3_code, exceptionTable := #[], attributes := #[] }
def k2m1 : Method := { name := "size", desc := "()I", sig := { parameters := [], returnType := some .int }, accessFlags := 0, code := some k2c1 }
def k2c2 : Code := { maxStack := 6, maxLocals := 6, code := prog_2_method_4_code, exceptionTable := #[], attributes := #[] }
def k2m2 : Method := { name := "add", desc := "(J)Z", sig := { parameters := [.long], returnType := some .boolean }, accessFlags := 0, code := some k2c2 }
def k2c3 : Code := { maxStack := 4, maxLocals := 4, code := prog_2_method_7_code, exceptionTable := #[], attributes := #[] }
def k2m3 : Method := { name := "slotOf", desc := "(J)I", sig := { parameters := [.long], returnType := some .int }, accessFlags := 2, code := some k2c3 }
def k2c4 : Code := { maxStack := 4, maxLocals := 2, code := prog_2_method_8_code, exceptionTable := #[], attributes := #[] }
def k2m4 : Method := { name := "stored", desc := "(J)J", sig := { parameters := [.long], returnType := some .long }, accessFlags := 10, code := some k2c4 }
def k2c5 : Code := { maxStack := 4, maxLocals := 3, code := prog_2_method_9_code, exceptionTable := #[], attributes := #[] }
def k2m5 : Method := { name := "home", desc := "(JI)I", sig := { parameters := [.long, .int], returnType := some .int }, accessFlags := 10, code := some k2c5 }
def k2c6 : Code := { maxStack := 2, maxLocals := 2, code := prog_2_method_10_code, exceptionTable := #[], attributes := #[] }
def k2m6 : Method := { name := "next", desc := "(I)I", sig := { parameters := [.int], returnType := some .int }, accessFlags := 2, code := some k2c6 }
/-- com/example/utsatt/utsatt/KeyHashes -/
def k2 : Class := { plain "com/example/utsatt/utsatt/KeyHashes" (some 0) with
  accessFlags := 48
  interfaces := #[]
  cf := some (fileOf pool2 7 #[] #[{ accessFlags := 0, nameIndex := 5, descriptorIndex := 6, attributes := #[] }, { accessFlags := 0, nameIndex := 23, descriptorIndex := 75, attributes := #[] }, { accessFlags := 0, nameIndex := 76, descriptorIndex := 77, attributes := #[] }, { accessFlags := 2, nameIndex := 31, descriptorIndex := 32, attributes := #[] }, { accessFlags := 10, nameIndex := 27, descriptorIndex := 28, attributes := #[] }, { accessFlags := 10, nameIndex := 45, descriptorIndex := 46, attributes := #[] }, { accessFlags := 2, nameIndex := 41, descriptorIndex := 42, attributes := #[] }] 48 2 #[] #[{ accessFlags := 26, nameIndex := 55, descriptorIndex := 56, attributes := #[] }, { accessFlags := 26, nameIndex := 60, descriptorIndex := 56, attributes := #[] }, { accessFlags := 26, nameIndex := 63, descriptorIndex := 24, attributes := #[] }, { accessFlags := 26, nameIndex := 65, descriptorIndex := 66, attributes := #[] }, { accessFlags := 26, nameIndex := 67, descriptorIndex := 66, attributes := #[] }, { accessFlags := 2, nameIndex := 11, descriptorIndex := 12, attributes := #[] }, { accessFlags := 2, nameIndex := 23, descriptorIndex := 24, attributes := #[] }])
  fields := #[{ name := "FREE", type := .long, accessFlags := 26, slot := 0, constantValue := 0 }, { name := "ZERO_STANDIN", type := .long, accessFlags := 26, slot := 1, constantValue := 0 }, { name := "MIN_CAPACITY", type := .int, accessFlags := 26, slot := 2, constantValue := 0 }, { name := "MAX_LOAD", type := .double, accessFlags := 26, slot := 3, constantValue := 0 }, { name := "MIN_LOAD", type := .double, accessFlags := 26, slot := 4, constantValue := 0 }, { name := "slots", type := (.array .long), accessFlags := 2, slot := 0, constantValue := 0 }, { name := "size", type := .int, accessFlags := 2, slot := 1, constantValue := 0 }]
  methods := #[k2m0, k2m1, k2m2, k2m3, k2m4, k2m5, k2m6]
  instanceTypes := #[(.array .long), .int]
  staticTypes := #[.long, .long, .int, .double, .double]
  resolved := Array.replicate 82 none
  statics := none }

def pool3 : Array CpInfo := pool [(1, u "java/lang/Cloneable"), (0, .class_ 1), (0, u "java/lang/Object"), (0, .class_ 3)] 3

/-- java/lang/Cloneable -/
def k3 : Class := { plain "java/lang/Cloneable" (some 0) with
  accessFlags := 1537
  interfaces := #[]
  cf := some (fileOf pool3 2 #[] #[] 1537 4 #[] #[])
  fields := #[]
  methods := #[]
  instanceTypes := #[]
  staticTypes := #[]
  resolved := Array.replicate 8 none
  statics := none }

def pool4 : Array CpInfo := pool [(1, u "java/io/Serializable"), (0, .class_ 1), (0, u "java/lang/Object"), (0, .class_ 3)] 3

/-- java/io/Serializable -/
def k4 : Class := { plain "java/io/Serializable" (some 0) with
  accessFlags := 1537
  interfaces := #[]
  cf := some (fileOf pool4 2 #[] #[] 1537 4 #[] #[])
  fields := #[]
  methods := #[]
  instanceTypes := #[]
  staticTypes := #[]
  resolved := Array.replicate 8 none
  statics := none }

/-- the primitive byte -/
def k5 : Class := { plain "byte" none with kind := .primitive 'B', accessFlags := 0x411 }
/-- [B -/
def k6 : Class := { plain "[B" (some 0) with kind := .array 5 .byte, interfaces := #[3, 4], accessFlags := 1041 }

/-- the primitive int -/
def k7 : Class := { plain "int" none with kind := .primitive 'I', accessFlags := 0x411 }
/-- [I -/
def k8 : Class := { plain "[I" (some 0) with kind := .array 7 .int, interfaces := #[3, 4], accessFlags := 1041 }

/-- the primitive long -/
def k9 : Class := { plain "long" none with kind := .primitive 'J', accessFlags := 0x411 }
/-- [J -/
def k10 : Class := { plain "[J" (some 0) with kind := .array 9 .long, interfaces := #[3, 4], accessFlags := 1041 }

def heap : Heap := #[]
def classes : Array Class := #[k0, k1, k2, k3, k4, k5, k6, k7, k8, k9, k10]
def interned : List (Array UInt16 × Addr) := []
def slotsUsed : Nat := 0
def theMethod : MethodId := ⟨1, 2⟩
def args0 : Array Value := #[.long 5, .long 7, .long 0]
def aboutOver (below : List Frame) : State where
  vm := { classes := classes, interned := interned.toArray }
  heap := heap
  slotsUsed := slotsUsed
  threads := #[{ frames := .invoking theMethod args0 :: below }]
def below0 : List Frame := [.native { method := ⟨0, 0⟩, args := #[] }]
def about1 : State := aboutOver below0
def p0 : Program := .bare "" "" ""
def e0 : Env := launch0.env 0 0 0
theorem w_frames : about1.frames = Frame.invoking theMethod args0 :: below0 := rfl
set_option maxRecDepth 65536 in
theorem w_args : argsFit about1.vm theMethod args0 = true := by decide +kernel
set_option maxRecDepth 65536 in
theorem w_heap : heapFits about1 = true := by decide +kernel
set_option maxRecDepth 65536 in
theorem w_runnable : about1.curStatus? = some .runnable := by decide +kernel
set_option maxRecDepth 65536 in
theorem w_alone : about1.alone = true := by decide +kernel
set_option maxRecDepth 65536 in
theorem w_named : about1.methodNamed? x = some theMethod := by decide +kernel
set_option maxRecDepth 65536 in
theorem w_hears : about1.hears theMethod below0 = true := by decide +kernel
set_option maxRecDepth 65536 in
theorem w_ripe : about1.ripe theMethod args0 below0 = true := by decide +kernel
theorem w_running : about1.status = .running := rfl
set_option maxRecDepth 65536 in
theorem w_room : about1.hasRoom e0.platform room_1 = true :=
  launch0.hasRoom_least _ room_1 (by decide +kernel) (by decide +kernel) (by decide +kernel) (by decide +kernel) (by decide +kernel) (by decide +kernel)
theorem allAtoms_all (ts : List Jvm.Cond) (a : Array Jvm.Value) (st : Jvm.State) : (allAtoms ts).before a st = ts.all (fun c => c.before a st) := by
  induction ts with
  | nil => rfl
  | cons c t ih =>
    show (Jvm.Cond.and c (allAtoms t)).before a st = _
    rw [Jvm.Cond.before_and, ih, List.all_cons]
def words1 : List Jvm.Cond := Jvm.Cond.code x code maxLocals ret :: tables_1
/-- a 'code' word, met by the world's own term for the bytes: nothing is compared byte by byte -/
theorem code_word {y : MethodName} {bytes : ByteArray} {mx : Nat} {rt : Option FieldType} {a : Array Value} {s : State} {m : MethodId} {meth : Method} {c : Code} (h1 : s.methodNamed? y = some m) (h2 : s.vm.method? m = some meth) (h3 : meth.code = some c) (h4 : c.code = bytes)
    (h5 : (c.maxLocals == mx && c.exceptionTable.isEmpty && decide (c.maxStack ≤ mostOperands) && decide (meth.sig.returnType = rt) && !meth.locks && decide (parseMethodDescriptor y.desc = some meth.sig)) = true) : (Jvm.Cond.code y bytes mx rt).before a s = true := by
  simp only [Bool.and_eq_true, beq_iff_eq, Bool.not_eq_true', decide_eq_true_eq] at h5
  obtain ⟨⟨⟨⟨⟨g1, g2⟩, g3⟩, g4⟩, g5⟩, g6⟩ := h5
  simp [Cond.before, Cond.holds, Cond.value, h1, h2, h3, h4, g1, g2, g3, g4, g5, g6]
def isCode : Jvm.Cond → Bool
  | .code _ _ _ _ => true
  | _ => false
theorem all_split {L : List Jvm.Cond} {P : Jvm.Cond → Bool} (h1 : L.all (fun c => isCode c || P c) = true) (h2 : ∀ c ∈ L.filter isCode, P c = true) : L.all P = true := by
  refine List.all_eq_true.mpr fun c hc => ?_
  have h := List.all_eq_true.mp h1 c hc
  rcases Bool.eq_false_or_eq_true (isCode c) with hi | hi
  · exact h2 c (List.mem_filter.mpr ⟨hc, hi⟩)
  · simpa [hi] using h
set_option maxRecDepth 65536 in
theorem w_c0 : (Jvm.Cond.code x code maxLocals ret).before args0 about1 = true := code_word (m := ⟨1, 2⟩) (meth := k1m2) (c := k1c2) (by decide +kernel) rfl rfl rfl (by decide +kernel)
set_option maxRecDepth 65536 in
theorem w_c1 : (Jvm.Cond.code ({ cls := "com/example/utsatt/utsatt/KeyHashes", name := "<init>", desc := "()V" } : Jvm.MethodName) prog_2_method_1_code (1 : Nat) (Option.none : Option Jvm.ClassFile.FieldType)).before args0 about1 = true := code_word (m := ⟨2, 0⟩) (meth := k2m0) (c := k2c0) (by decide +kernel) rfl rfl rfl (by decide +kernel)
set_option maxRecDepth 65536 in
theorem w_c2 : (Jvm.Cond.code ({ cls := "java/lang/Object", name := "<init>", desc := "()V" } : Jvm.MethodName) object_method_1_code (1 : Nat) (Option.none : Option Jvm.ClassFile.FieldType)).before args0 about1 = true := code_word (m := ⟨0, 0⟩) (meth := k0m0) (c := k0c0) (by decide +kernel) rfl rfl rfl (by decide +kernel)
set_option maxRecDepth 65536 in
theorem w_c3 : (Jvm.Cond.code ({ cls := "com/example/utsatt/utsatt/KeyHashes", name := "add", desc := "(J)Z" } : Jvm.MethodName) prog_2_method_4_code (6 : Nat) (Option.some Jvm.ClassFile.FieldType.boolean)).before args0 about1 = true := code_word (m := ⟨2, 2⟩) (meth := k2m2) (c := k2c2) (by decide +kernel) rfl rfl rfl (by decide +kernel)
set_option maxRecDepth 65536 in
theorem w_c4 : (Jvm.Cond.code ({ cls := "com/example/utsatt/utsatt/KeyHashes", name := "stored", desc := "(J)J" } : Jvm.MethodName) prog_2_method_8_code (2 : Nat) (Option.some Jvm.ClassFile.FieldType.long)).before args0 about1 = true := code_word (m := ⟨2, 4⟩) (meth := k2m4) (c := k2c4) (by decide +kernel) rfl rfl rfl (by decide +kernel)
set_option maxRecDepth 65536 in
theorem w_c5 : (Jvm.Cond.code ({ cls := "com/example/utsatt/utsatt/KeyHashes", name := "slotOf", desc := "(J)I" } : Jvm.MethodName) prog_2_method_7_code (4 : Nat) (Option.some Jvm.ClassFile.FieldType.int)).before args0 about1 = true := code_word (m := ⟨2, 3⟩) (meth := k2m3) (c := k2c3) (by decide +kernel) rfl rfl rfl (by decide +kernel)
set_option maxRecDepth 65536 in
theorem w_c6 : (Jvm.Cond.code ({ cls := "com/example/utsatt/utsatt/KeyHashes", name := "home", desc := "(JI)I" } : Jvm.MethodName) prog_2_method_9_code (3 : Nat) (Option.some Jvm.ClassFile.FieldType.int)).before args0 about1 = true := code_word (m := ⟨2, 5⟩) (meth := k2m5) (c := k2c5) (by decide +kernel) rfl rfl rfl (by decide +kernel)
set_option maxRecDepth 65536 in
theorem w_c7 : (Jvm.Cond.code ({ cls := "com/example/utsatt/utsatt/KeyHashes", name := "next", desc := "(I)I" } : Jvm.MethodName) prog_2_method_10_code (2 : Nat) (Option.some Jvm.ClassFile.FieldType.int)).before args0 about1 = true := code_word (m := ⟨2, 6⟩) (meth := k2m6) (c := k2c6) (by decide +kernel) rfl rfl rfl (by decide +kernel)
set_option maxRecDepth 65536 in
theorem w_c8 : (Jvm.Cond.code ({ cls := "com/example/utsatt/utsatt/KeyHashes", name := "size", desc := "()I" } : Jvm.MethodName) prog_2_method_3_code (1 : Nat) (Option.some Jvm.ClassFile.FieldType.int)).before args0 about1 = true := code_word (m := ⟨2, 1⟩) (meth := k2m1) (c := k2c1) (by decide +kernel) rfl rfl rfl (by decide +kernel)
set_option maxRecDepth 65536 in
theorem w_c9 : (Jvm.Cond.code ({ cls := "com/example/utsatt/utsatt/KeyHashesAddPinLaw", name := "norm", desc := "(J)J" } : Jvm.MethodName) method_2_code (2 : Nat) (Option.some Jvm.ClassFile.FieldType.long)).before args0 about1 = true := code_word (m := ⟨1, 1⟩) (meth := k1m1) (c := k1c1) (by decide +kernel) rfl rfl rfl (by decide +kernel)
def codes1 : List Jvm.Cond := [Jvm.Cond.code x code maxLocals ret, Jvm.Cond.code ({ cls := "com/example/utsatt/utsatt/KeyHashes", name := "<init>", desc := "()V" } : Jvm.MethodName) prog_2_method_1_code (1 : Nat) (Option.none : Option Jvm.ClassFile.FieldType), Jvm.Cond.code ({ cls := "java/lang/Object", name := "<init>", desc := "()V" } : Jvm.MethodName) object_method_1_code (1 : Nat) (Option.none : Option Jvm.ClassFile.FieldType), Jvm.Cond.code ({ cls := "com/example/utsatt/utsatt/KeyHashes", name := "add", desc := "(J)Z" } : Jvm.MethodName) prog_2_method_4_code (6 : Nat) (Option.some Jvm.ClassFile.FieldType.boolean), Jvm.Cond.code ({ cls := "com/example/utsatt/utsatt/KeyHashes", name := "stored", desc := "(J)J" } : Jvm.MethodName) prog_2_method_8_code (2 : Nat) (Option.some Jvm.ClassFile.FieldType.long), Jvm.Cond.code ({ cls := "com/example/utsatt/utsatt/KeyHashes", name := "slotOf", desc := "(J)I" } : Jvm.MethodName) prog_2_method_7_code (4 : Nat) (Option.some Jvm.ClassFile.FieldType.int), Jvm.Cond.code ({ cls := "com/example/utsatt/utsatt/KeyHashes", name := "home", desc := "(JI)I" } : Jvm.MethodName) prog_2_method_9_code (3 : Nat) (Option.some Jvm.ClassFile.FieldType.int), Jvm.Cond.code ({ cls := "com/example/utsatt/utsatt/KeyHashes", name := "next", desc := "(I)I" } : Jvm.MethodName) prog_2_method_10_code (2 : Nat) (Option.some Jvm.ClassFile.FieldType.int), Jvm.Cond.code ({ cls := "com/example/utsatt/utsatt/KeyHashes", name := "size", desc := "()I" } : Jvm.MethodName) prog_2_method_3_code (1 : Nat) (Option.some Jvm.ClassFile.FieldType.int), Jvm.Cond.code ({ cls := "com/example/utsatt/utsatt/KeyHashesAddPinLaw", name := "norm", desc := "(J)J" } : Jvm.MethodName) method_2_code (2 : Nat) (Option.some Jvm.ClassFile.FieldType.long)]
set_option maxRecDepth 65536 in
theorem codes_eq : words1.filter isCode = codes1 := rfl
theorem w_codes : ∀ c ∈ words1.filter isCode, c.before args0 about1 = true := by
  rw [codes_eq]
  intro c hc
  simp only [codes1, List.mem_cons, List.not_mem_nil, or_false] at hc
  rcases hc with rfl | rfl | rfl | rfl | rfl | rfl | rfl | rfl | rfl | rfl
  · exact w_c0
  · exact w_c1
  · exact w_c2
  · exact w_c3
  · exact w_c4
  · exact w_c5
  · exact w_c6
  · exact w_c7
  · exact w_c8
  · exact w_c9
set_option maxRecDepth 65536 in
theorem w_t1 : (words1.take 24).all (fun c => isCode c || c.before args0 about1) = true := by decide +kernel
set_option maxRecDepth 65536 in
theorem w_t2 : (words1.drop 24).all (fun c => isCode c || c.before args0 about1) = true := by decide +kernel
theorem w_tables : (allAtoms (Jvm.Cond.code x code maxLocals ret :: tables_1)).before args0 about1 = true := by
  rw [allAtoms_all]
  show words1.all (fun c => c.before args0 about1) = true
  refine all_split ?_ w_codes
  rw [← List.take_append_drop 24 words1, List.all_append, w_t1, w_t2]
  rfl
set_option maxRecDepth 65536 in
theorem w_case : (Jvm.Cond.and given_1 narrow_1).before args0 about1 = true := by decide +kernel
theorem w_applies : (headSpec (Jvm.Cond.code x code maxLocals ret :: tables_1) room_1).applies x e0.platform about1 = true :=
  (Spec.applies_iff w_frames).mpr ⟨w_running, w_runnable, w_alone, w_named, w_hears, w_ripe, w_room, w_tables⟩
theorem atStart : AtStart classFile x code maxLocals ret World_1 tables_1 room_1 Calls_1 rest_1 Pre_1 launch0 p0 e0 about1 theMethod args0 below0 :=
  ⟨lists_1, trivial, launch0.admits_env _ _ _, launch0.least_env, fairChoices_fair.cas, fairChoices_fair.clock, w_frames, w_args, w_heap, w_applies, trivial, trivial, w_case⟩
end start1
theorem witness_1 : WitnessClaimed_1 := ⟨start1.p0, start1.e0, start1.about1, start1.theMethod, start1.args0, start1.below0, start1.atStart⟩
end Jvm.Pilot.@@N@@
