import JvmDerived
import JvmDerived.Pilot.@@N@@Statement
import JvmDerived.Pilot.@@N@@Code
set_option linter.unusedVariables false
set_option linter.unusedSimpArgs false
namespace Jvm.Pilot.@@N@@
open Jvm Jvm.ClassFile Sem Op Lib Jvm.Free Jvm.Stand Jvm.LawKit Jvm.RoadKit Bundle Jvm.Pilot.@@N@@.Jvm.D
section Own
set_option maxHeartbeats 4000000
variable {p : Program} {l : Launch} {e : Env} {R : Room} {s : State} {m : MethodId} {args : Array Value} {below : List Frame} {meth : Method} {c : Code} {T : State} {locs : List Loc} {cells slots : Nat} {Z : State} {a0 : Array Value} {h : Heap} {own nm : String} {bytes : ByteArray} {ml : Nat} {rt : Option FieldType} {Q : Option Value → Heap → List Loc → Prop} {CC SS : Nat} {E : Outcome → State → Prop} {pc : Nat} {Ls : Array Slot} {St : List Value}
def Ctx (p : Program) (s : State) (m : MethodId) (meth : Method) (c : Code) (Z : State) (own nm : String) (bytes : ByteArray) (ml : Nat) (rt : Option FieldType) : Prop :=
  p.tables.exec = Jvm.exec ∧ Z.Warmed39 s.vm ∧ c.code = bytes ∧ c.maxLocals = ml ∧ s.vm.findClass own = some m.cls ∧ meth.locks = false ∧ meth.sig.returnType = rt ∧ meth.name = nm
theorem Ctx.c_x (C : Ctx p s m meth c Z own nm bytes ml rt) : p.tables.exec = Jvm.exec := C.1
theorem Ctx.c_z (C : Ctx p s m meth c Z own nm bytes ml rt) : Z.Warmed39 s.vm := C.2.1
theorem Ctx.c_by (C : Ctx p s m meth c Z own nm bytes ml rt) : c.code = bytes := C.2.2.1
theorem Ctx.c_ml (C : Ctx p s m meth c Z own nm bytes ml rt) : c.maxLocals = ml := C.2.2.2.1
theorem Ctx.c_own (C : Ctx p s m meth c Z own nm bytes ml rt) : s.vm.findClass own = some m.cls := C.2.2.2.2.1
theorem Ctx.c_lk (C : Ctx p s m meth c Z own nm bytes ml rt) : meth.locks = false := C.2.2.2.2.2.1
theorem Ctx.c_rt (C : Ctx p s m meth c Z own nm bytes ml rt) : meth.sig.returnType = rt := C.2.2.2.2.2.2.1
theorem Ctx.c_nm (C : Ctx p s m meth c Z own nm bytes ml rt) : meth.name = nm := C.2.2.2.2.2.2.2
def EndN (s : State) (Q : Option Value → Heap → List Loc → Prop) (CC SS : Nat) (o : Outcome) (t : State) : Prop := ∃ v L, o = .returned v ∧ Q v t.heap L ∧ FrameEnd s o t L CC SS
def Goes (p : Program) (e : Env) (below : List Frame) (E : Outcome → State → Prop) (T : State) (m : MethodId) (pc : Nat) (Ls : Array Slot) (St : List Value) : Prop :=
  ∃ s₂ o, Steps p.tables e below (T.setTop (mkF m pc Ls St)) s₂ ∧ s₂.status = .running ∧ Ended s₂ below o ∧ E o s₂
theorem Goes.back {T' : State} {q : Nat} {Ls' : Array Slot} {St' : List Value} (k : Goes p e below E T' m q Ls' St') (f : ∀ t, Steps p.tables e below (T'.setTop (mkF m q Ls' St')) t → Steps p.tables e below (T.setTop (mkF m pc Ls St)) t) : Goes p e below E T m pc Ls St := by
  obtain ⟨s2, o, h1, h2⟩ := k
  exact ⟨s2, o, f _ h1, h2⟩
theorem Goes.enter {g : JFrame} (hg : g = mkF m 0 Ls []) (k : Goes p e below (EndN s Q CC SS) T m 0 Ls []) : ∃ s₂ o, Steps p.tables e below (T.setTop g) s₂ ∧ s₂.status = .running ∧ Ended s₂ below o ∧ ∃ v L, o = .returned v ∧ Q v s₂.heap L ∧ FrameEnd s o s₂ L CC SS := by
  subst hg
  exact k
theorem Ctx.of {x : MethodName} {S : Spec} {s₁ : State} (Bd : BodyLoose p l x S bytes ml rt e s m args below meth c s₁) (hml : c.maxLocals = ml) (hZ : Z.Warmed39 s.vm) : Ctx p s m meth c Z x.cls x.name bytes ml rt :=
  ⟨Bd.exec, hZ, Bd.bytes, hml, findClass_of_methodNamed Bd.named, Bd.notSynchronized, Bd.returns, (name_of_methodNamed Bd.named Bd.method).1⟩
theorem g_iadd (q : Nat) (hq : pc + 1 = q) (C : Ctx p s m meth c Z own nm bytes ml rt) (X : Stand p l e R s m args below meth c T locs cells slots) {x y : Int32} (hd : decode bytes pc = .ok (.iadd, 1)) (k : Goes p e below E T m q Ls (.int (x + y) :: St)) : Goes p e below E T m pc Ls (.int y :: .int x :: St) := by
  subst hq
  exact k.back fun t kt => XS.iadd (g := mkF m pc Ls (.int y :: .int x :: St)) X.here C.c_x rfl (hb C.c_by hd) rfl kt
theorem g_iand (q : Nat) (hq : pc + 1 = q) (C : Ctx p s m meth c Z own nm bytes ml rt) (X : Stand p l e R s m args below meth c T locs cells slots) {x y : Int32} (hd : decode bytes pc = .ok (.iand, 1)) (k : Goes p e below E T m q Ls (.int (x &&& y) :: St)) : Goes p e below E T m pc Ls (.int y :: .int x :: St) := by
  subst hq
  exact k.back fun t kt => XS.iand (g := mkF m pc Ls (.int y :: .int x :: St)) X.here C.c_x rfl (hb C.c_by hd) rfl kt
theorem g_irem (q : Nat) (hq : pc + 1 = q) (C : Ctx p s m meth c Z own nm bytes ml rt) (X : Stand p l e R s m args below meth c T locs cells slots) {x y : Int32} (hd : decode bytes pc = .ok (.irem, 1)) (hy : y ≠ 0) (k : Goes p e below E T m q Ls (.int (x % y) :: St)) : Goes p e below E T m pc Ls (.int y :: .int x :: St) := by
  subst hq
  exact k.back fun t kt => XS.irem (g := mkF m pc Ls (.int y :: .int x :: St)) X.here C.c_x rfl (hb C.c_by hd) rfl hy (by rw [irem_eq_mod]; exact kt)
theorem g_ishr (q : Nat) (hq : pc + 1 = q) (C : Ctx p s m meth c Z own nm bytes ml rt) (X : Stand p l e R s m args below meth c T locs cells slots) {x y : Int32} (hd : decode bytes pc = .ok (.ishr, 1)) (k : Goes p e below E T m q Ls (.int (x >>> (y &&& 31)) :: St)) : Goes p e below E T m pc Ls (.int y :: .int x :: St) := by
  subst hq
  exact k.back fun t kt => XS.ishr (g := mkF m pc Ls (.int y :: .int x :: St)) X.here C.c_x rfl (hb C.c_by hd) rfl kt
theorem g_iconst (q : Nat) (hq : pc + 1 = q) (C : Ctx p s m meth c Z own nm bytes ml rt) (X : Stand p l e R s m args below meth c T locs cells slots) {i : Int} (v : Int32) (hd : decode bytes pc = .ok (.iconst i, 1)) (hv : Int32.ofInt i = v) (k : Goes p e below E T m q Ls (.int v :: St)) : Goes p e below E T m pc Ls St := by
  subst hq
  exact k.back fun t kt => XS.iconst (g := mkF m pc Ls St) X.here C.c_x rfl (hb C.c_by hd) (by subst hv; exact kt)
theorem g_iloadN (q : Nat) (hq : pc + 1 = q) (C : Ctx p s m meth c Z own nm bytes ml rt) (X : Stand p l e R s m args below meth c T locs cells slots) {k0 : Fin 4} {v : Int32} (hd : decode bytes pc = .ok (.iload_n k0, 1)) (hl : Ls[k0.val]? = some (.val (.int v))) (k : Goes p e below E T m q Ls (.int v :: St)) : Goes p e below E T m pc Ls St := by
  subst hq
  exact k.back fun t kt => XS.iloadN (g := mkF m pc Ls St) X.here C.c_x rfl (hb C.c_by hd) hl kt
theorem g_iload (q : Nat) (hq : pc + 2 = q) (C : Ctx p s m meth c Z own nm bytes ml rt) (X : Stand p l e R s m args below meth c T locs cells slots) {k0 : Nat} {v : Int32} (hd : decode bytes pc = .ok (.iload k0, 2)) (hl : Ls[k0]? = some (.val (.int v))) (k : Goes p e below E T m q Ls (.int v :: St)) : Goes p e below E T m pc Ls St := by
  subst hq
  exact k.back fun t kt => XS.iload (g := mkF m pc Ls St) X.here C.c_x rfl (hb C.c_by hd) hl kt
theorem g_aloadN (q : Nat) (hq : pc + 1 = q) (C : Ctx p s m meth c Z own nm bytes ml rt) (X : Stand p l e R s m args below meth c T locs cells slots) {k0 : Fin 4} {v : Value} (hd : decode bytes pc = .ok (.aload_n k0, 1)) (hl : Ls[k0.val]? = some (.val v)) (hv : v.isRef = true) (k : Goes p e below E T m q Ls (v :: St)) : Goes p e below E T m pc Ls St := by
  subst hq
  exact k.back fun t kt => XS.aloadN (g := mkF m pc Ls St) X.here C.c_x rfl (hb C.c_by hd) hl hv kt
theorem g_aload (q : Nat) (hq : pc + 2 = q) (C : Ctx p s m meth c Z own nm bytes ml rt) (X : Stand p l e R s m args below meth c T locs cells slots) {k0 : Nat} {v : Value} (hd : decode bytes pc = .ok (.aload k0, 2)) (hl : Ls[k0]? = some (.val v)) (hv : v.isRef = true) (k : Goes p e below E T m q Ls (v :: St)) : Goes p e below E T m pc Ls St := by
  subst hq
  exact k.back fun t kt => XS.aload (g := mkF m pc Ls St) X.here C.c_x rfl (hb C.c_by hd) hl hv kt
theorem g_istoreN (q : Nat) (hq : pc + 1 = q) (C : Ctx p s m meth c Z own nm bytes ml rt) (X : Stand p l e R s m args below meth c T locs cells slots) {k0 : Fin 4} {x : Int32} (v : Int32) (hv : x = v) (Ls' : Array Slot) (hd : decode bytes pc = .ok (.istore_n k0, 1)) (hl : storeLocals Ls k0.val (.int v) = some Ls') (k : Goes p e below E T m q Ls' St) : Goes p e below E T m pc Ls (.int x :: St) := by
  subst hq
  exact k.back fun t kt => XS.istoreN (g := mkF m pc Ls (.int x :: St)) X.here C.c_x rfl (hb C.c_by hd) rfl (by subst hv; exact hl) kt
theorem g_istore (q : Nat) (hq : pc + 2 = q) (C : Ctx p s m meth c Z own nm bytes ml rt) (X : Stand p l e R s m args below meth c T locs cells slots) {k0 : Nat} {x : Int32} (v : Int32) (hv : x = v) (Ls' : Array Slot) (hd : decode bytes pc = .ok (.istore k0, 2)) (hl : storeLocals Ls k0 (.int v) = some Ls') (k : Goes p e below E T m q Ls' St) : Goes p e below E T m pc Ls (.int x :: St) := by
  subst hq
  exact k.back fun t kt => XS.istore (g := mkF m pc Ls (.int x :: St)) X.here C.c_x rfl (hb C.c_by hd) rfl (by subst hv; exact hl) kt
theorem g_astore (q : Nat) (hq : pc + 2 = q) (C : Ctx p s m meth c Z own nm bytes ml rt) (X : Stand p l e R s m args below meth c T locs cells slots) {k0 : Nat} {x : Value} (Ls' : Array Slot) (hd : decode bytes pc = .ok (.astore k0, 2)) (hv : x.isRef = true) (hl : storeLocals Ls k0 x = some Ls') (k : Goes p e below E T m q Ls' St) : Goes p e below E T m pc Ls (x :: St) := by
  subst hq
  exact k.back fun t kt => XS.astore (g := mkF m pc Ls (x :: St)) X.here C.c_x rfl (hb C.c_by hd) rfl hv hl kt
theorem g_iinc (q : Nat) (hq : pc + 3 = q) (C : Ctx p s m meth c Z own nm bytes ml rt) (X : Stand p l e R s m args below meth c T locs cells slots) {k0 : Nat} {i : Int} {x : Int32} (w v : Int32) (Ls' : Array Slot) (hd : decode bytes pc = .ok (.iinc k0 i, 3)) (hw : Int32.ofInt i = w) (hl : Ls[k0]? = some (.val (.int x))) (hv : x + w = v) (hl' : storeLocals Ls k0 (.int v) = some Ls') (k : Goes p e below E T m q Ls' St) : Goes p e below E T m pc Ls St := by
  subst hq
  exact k.back fun t kt => XS.iinc (g := mkF m pc Ls St) X.here C.c_x rfl (hb C.c_by hd) hl (by subst hw hv; exact hl') kt
theorem g_dup (q : Nat) (hq : pc + 1 = q) (C : Ctx p s m meth c Z own nm bytes ml rt) (X : Stand p l e R s m args below meth c T locs cells slots) {v : Value} (hd : decode bytes pc = .ok (.dup, 1)) (hv : v.category = 1) (k : Goes p e below E T m q Ls (v :: v :: St)) : Goes p e below E T m pc Ls (v :: St) := by
  subst hq
  exact k.back fun t kt => XS.dup (g := mkF m pc Ls (v :: St)) X.here C.c_x rfl (hb C.c_by hd) rfl hv kt
theorem g_dupX1 (q : Nat) (hq : pc + 1 = q) (C : Ctx p s m meth c Z own nm bytes ml rt) (X : Stand p l e R s m args below meth c T locs cells slots) {v w : Value} (hd : decode bytes pc = .ok (.dup_x1, 1)) (hv : v.category = 1) (hw : w.category = 1) (k : Goes p e below E T m q Ls (v :: w :: v :: St)) : Goes p e below E T m pc Ls (v :: w :: St) := by
  subst hq
  exact k.back fun t kt => XS.dupX1 (g := mkF m pc Ls (v :: w :: St)) X.here C.c_x rfl (hb C.c_by hd) rfl hv hw kt
theorem g_dup2 (q : Nat) (hq : pc + 1 = q) (C : Ctx p s m meth c Z own nm bytes ml rt) (X : Stand p l e R s m args below meth c T locs cells slots) {v w : Value} (hd : decode bytes pc = .ok (.dup2, 1)) (hv : v.category = 1) (hw : w.category = 1) (k : Goes p e below E T m q Ls (v :: w :: v :: w :: St)) : Goes p e below E T m pc Ls (v :: w :: St) := by
  subst hq
  refine k.back fun t kt => ?_
  show Steps p.tables e below (T.setTop { method := m, pc := pc, locals := Ls, stack := _, locked := none }) _
  jvm_step X.here [X.here.top, C.c_x, (hb C.c_by hd), hv, hw]
  exact kt
theorem g_goto (q : Nat) (C : Ctx p s m meth c Z own nm bytes ml rt) (X : Stand p l e R s m args below meth c T locs cells slots) {o : Int} (hd : decode bytes pc = .ok (.goto o, 3)) (ho : 0 ≤ (pc : Int) + o) (hp : ((pc : Int) + o).toNat = q) (k : Goes p e below E T m q Ls St) : Goes p e below E T m pc Ls St :=
  k.back fun t kt => XS.goto (g := mkF m pc Ls St) X.here C.c_x rfl (pc0 := pc) (pc' := q) rfl (hb C.c_by hd) ho hp kt
theorem own_z0 : (0 : Int32).toInt = 0 := rfl
theorem own_0lt {x : Int32} : (0 : Int32) < x ↔ 0 < x.toInt := Int32.lt_iff_toInt_lt
theorem own_lt0 {x : Int32} : x < (0 : Int32) ↔ x.toInt < 0 := Int32.lt_iff_toInt_lt
theorem own_eq0 {x : Int32} : x = (0 : Int32) ↔ x.toInt = 0 := Int32.toInt_inj.symm
theorem g_icmp_ge_t (q : Nat) (C : Ctx p s m meth c Z own nm bytes ml rt) (X : Stand p l e R s m args below meth c T locs cells slots) {o : Int} {x y : Int32} (hd : decode bytes pc = .ok (.if_icmp .ge o, 3)) (ho : 0 ≤ (pc : Int) + o) (hp : ((pc : Int) + o).toNat = q) (h : ¬ x.toInt < y.toInt) (k : Goes p e below E T m q Ls St) : Goes p e below E T m pc Ls (.int y :: .int x :: St) :=
  k.back fun t kt => XS.icmpYes (g := mkF m pc Ls (.int y :: .int x :: St)) X.here C.c_x rfl (pc0 := pc) (pc' := q) rfl (hb C.c_by hd) rfl (flt (fun r => h (Int32.lt_iff_toInt_lt.mp r))).2.1 ho hp kt
theorem g_icmp_ge_f (q : Nat) (hq : pc + 3 = q) (C : Ctx p s m meth c Z own nm bytes ml rt) (X : Stand p l e R s m args below meth c T locs cells slots) {o : Int} {x y : Int32} (hd : decode bytes pc = .ok (.if_icmp .ge o, 3)) (h : x.toInt < y.toInt) (k : Goes p e below E T m q Ls St) : Goes p e below E T m pc Ls (.int y :: .int x :: St) := by
  subst hq
  exact k.back fun t kt => XS.icmpNo (g := mkF m pc Ls (.int y :: .int x :: St)) X.here C.c_x rfl (hb C.c_by hd) rfl (tlt (Int32.lt_iff_toInt_lt.mpr h)).2.1 kt
theorem g_if_le_t (q : Nat) (C : Ctx p s m meth c Z own nm bytes ml rt) (X : Stand p l e R s m args below meth c T locs cells slots) {o : Int} {x : Int32} (hd : decode bytes pc = .ok (.ifCond .le o, 3)) (ho : 0 ≤ (pc : Int) + o) (hp : ((pc : Int) + o).toNat = q) (h : ¬ 0 < x.toInt) (k : Goes p e below E T m q Ls St) : Goes p e below E T m pc Ls (.int x :: St) :=
  k.back fun t kt => XS.ifYes (g := mkF m pc Ls (.int x :: St)) X.here C.c_x rfl (pc0 := pc) (pc' := q) rfl (hb C.c_by hd) rfl ((if0 _ _).trans (flt (fun r => h (own_0lt.mp r))).2.2.2) ho hp kt
theorem g_icmp_eq_t (q : Nat) (C : Ctx p s m meth c Z own nm bytes ml rt) (X : Stand p l e R s m args below meth c T locs cells slots) {o : Int} {x y : Int32} (hd : decode bytes pc = .ok (.if_icmp .eq o, 3)) (ho : 0 ≤ (pc : Int) + o) (hp : ((pc : Int) + o).toNat = q) (h : x.toInt = y.toInt) (k : Goes p e below E T m q Ls St) : Goes p e below E T m pc Ls (.int y :: .int x :: St) :=
  k.back fun t kt => XS.icmpYes (g := mkF m pc Ls (.int y :: .int x :: St)) X.here C.c_x rfl (pc0 := pc) (pc' := q) rfl (hb C.c_by hd) rfl (teq (Int32.toInt_inj.mp h)).1 ho hp kt
theorem g_if_eq_t (q : Nat) (C : Ctx p s m meth c Z own nm bytes ml rt) (X : Stand p l e R s m args below meth c T locs cells slots) {o : Int} {x : Int32} (hd : decode bytes pc = .ok (.ifCond .eq o, 3)) (ho : 0 ≤ (pc : Int) + o) (hp : ((pc : Int) + o).toNat = q) (h : x.toInt = 0) (k : Goes p e below E T m q Ls St) : Goes p e below E T m pc Ls (.int x :: St) :=
  k.back fun t kt => XS.ifYes (g := mkF m pc Ls (.int x :: St)) X.here C.c_x rfl (pc0 := pc) (pc' := q) rfl (hb C.c_by hd) rfl ((if0 _ _).trans (teq (own_eq0.mpr h)).1) ho hp kt
theorem g_icmp_eq_f (q : Nat) (hq : pc + 3 = q) (C : Ctx p s m meth c Z own nm bytes ml rt) (X : Stand p l e R s m args below meth c T locs cells slots) {o : Int} {x y : Int32} (hd : decode bytes pc = .ok (.if_icmp .eq o, 3)) (h : ¬ x.toInt = y.toInt) (k : Goes p e below E T m q Ls St) : Goes p e below E T m pc Ls (.int y :: .int x :: St) := by
  subst hq
  exact k.back fun t kt => XS.icmpNo (g := mkF m pc Ls (.int y :: .int x :: St)) X.here C.c_x rfl (hb C.c_by hd) rfl (feq (fun r => h (congrArg Int32.toInt r))).1 kt
theorem g_if_eq_f (q : Nat) (hq : pc + 3 = q) (C : Ctx p s m meth c Z own nm bytes ml rt) (X : Stand p l e R s m args below meth c T locs cells slots) {o : Int} {x : Int32} (hd : decode bytes pc = .ok (.ifCond .eq o, 3)) (h : ¬ x.toInt = 0) (k : Goes p e below E T m q Ls St) : Goes p e below E T m pc Ls (.int x :: St) := by
  subst hq
  exact k.back fun t kt => XS.ifNo (g := mkF m pc Ls (.int x :: St)) X.here C.c_x rfl (hb C.c_by hd) rfl ((if0 _ _).trans (feq (fun r => h (own_eq0.mp r))).1) kt
theorem g_icmp_ne_t (q : Nat) (C : Ctx p s m meth c Z own nm bytes ml rt) (X : Stand p l e R s m args below meth c T locs cells slots) {o : Int} {x y : Int32} (hd : decode bytes pc = .ok (.if_icmp .ne o, 3)) (ho : 0 ≤ (pc : Int) + o) (hp : ((pc : Int) + o).toNat = q) (h : ¬ x.toInt = y.toInt) (k : Goes p e below E T m q Ls St) : Goes p e below E T m pc Ls (.int y :: .int x :: St) :=
  k.back fun t kt => XS.icmpYes (g := mkF m pc Ls (.int y :: .int x :: St)) X.here C.c_x rfl (pc0 := pc) (pc' := q) rfl (hb C.c_by hd) rfl (feq (fun r => h (congrArg Int32.toInt r))).2 ho hp kt
theorem g_icmp_ne_f (q : Nat) (hq : pc + 3 = q) (C : Ctx p s m meth c Z own nm bytes ml rt) (X : Stand p l e R s m args below meth c T locs cells slots) {o : Int} {x y : Int32} (hd : decode bytes pc = .ok (.if_icmp .ne o, 3)) (h : x.toInt = y.toInt) (k : Goes p e below E T m q Ls St) : Goes p e below E T m pc Ls (.int y :: .int x :: St) := by
  subst hq
  exact k.back fun t kt => XS.icmpNo (g := mkF m pc Ls (.int y :: .int x :: St)) X.here C.c_x rfl (hb C.c_by hd) rfl (teq (Int32.toInt_inj.mp h)).2 kt
theorem g_ldc (q : Nat) (hq : pc + 2 = q) (C : Ctx p s m meth c Z own nm bytes ml rt) (X : Stand p l e R s m args below meth c T locs cells slots) {i : Nat} {v : Int32} (w : (Cond.constant own i v).before a0 Z = true) (hd : decode bytes pc = .ok (.ldc i, 2)) (k : Goes p e below E T m q Ls (.int v :: St)) : Goes p e below E T m pc Ls St := by
  subst hq
  exact k.back fun t kt => X.ldcInt C.c_x C.c_own (mvT C.c_z w) (g := mkF m pc Ls St) rfl (hb C.c_by hd) _ kt
theorem g_retW (C : Ctx p s m meth c Z own nm bytes ml rt) (X : Stand p l e R s m args below meth c T locs cells slots) {w : Value} {t : FieldType} {i : Instr} (hrt : rt = some t) (hn : narrow t w = w)
    (hi : (i = .ireturn ∧ (t = .int ∨ t = .boolean ∨ t = .byte ∨ t = .char ∨ t = .short) ∧ ∃ z, w = .int z) ∨ (i = .lreturn ∧ t = .long ∧ ∃ z, w = .long z) ∨ (i = .dreturn ∧ t = .double ∧ ∃ z, w = .double z) ∨ (i = .freturn ∧ t = .float ∧ ∃ z, w = .float z) ∨ (i = .areturn ∧ t.isReference = true ∧ w.isRef = true))
    (hd : decode bytes pc = .ok (i, 1)) (eT : T.heap = h) (hc : cells ≤ CC) (hs : slots ≤ SS) (hQ : Q (some w) h locs) : Goes p e below (EndN s Q CC SS) T m pc Ls (w :: St) := by
  obtain ⟨fs, hr, hrun, hended, hW, hsame⟩ := X.leave (v := some w) (fun r => by rw [C.c_rt, hrt] at r; cases r) C.c_lk
  subst eT
  exact ⟨_, _, retOut X C.c_x (C.c_rt.trans hrt) hn hi (hb C.c_by hd) hr, hrun, hended, _, _, rfl, hQ, ⟨_, rfl⟩, hW, hsame.mono hc hs⟩
theorem g_retI (C : Ctx p s m meth c Z own nm bytes ml rt) (X : Stand p l e R s m args below meth c T locs cells slots) {z : Int32} (hrt : rt = some .int) (hd : decode bytes pc = .ok (.ireturn, 1)) (eT : T.heap = h) (hc : cells ≤ CC) (hs : slots ≤ SS) (hQ : Q (some (.int z)) h locs) : Goes p e below (EndN s Q CC SS) T m pc Ls (.int z :: St) :=
  g_retW C X hrt rfl (Or.inl ⟨rfl, Or.inl rfl, z, rfl⟩) hd eT hc hs hQ
theorem g_retN (C : Ctx p s m meth c Z own nm bytes ml rt) (X : Stand p l e R s m args below meth c T locs cells slots) {z z' : Int32} {t : FieldType} (hrt : rt = some t) (ht : t = .boolean ∨ t = .byte ∨ t = .char ∨ t = .short) (hd : decode bytes pc = .ok (.ireturn, 1)) (eT : T.heap = h) (hc : cells ≤ CC) (hs : slots ≤ SS) (hz : nar t z = z') (hQ : Q (some (.int z')) h locs) : Goes p e below (EndN s Q CC SS) T m pc Ls (.int z :: St) := by
  obtain ⟨fs, hr, hrun, hended, hW, hsame⟩ := X.leave (v := some (.int (nar t z))) (fun r => by rw [C.c_rt, hrt] at r; cases r) C.c_lk
  subst eT
  subst hz
  exact ⟨_, _, retN X C.c_x (C.c_rt.trans hrt) ht (hb C.c_by hd) hr, hrun, hended, _, _, rfl, hQ, ⟨_, rfl⟩, hW, hsame.mono hc hs⟩
theorem g_retV (C : Ctx p s m meth c Z own nm bytes ml rt) (X : Stand p l e R s m args below meth c T locs cells slots) (hrt : rt = none) (hd : decode bytes pc = .ok (.return_, 1)) (eT : T.heap = h) (hc : cells ≤ CC) (hs : slots ≤ SS) (hQ : Q none h locs) : Goes p e below (EndN s Q CC SS) T m pc Ls [] := by
  obtain ⟨fs, hr, hrun, hended, hW, hsame⟩ := X.leave (v := none) (fun _ => rfl) C.c_lk
  subst eT
  exact ⟨_, _, X.returnOut C.c_x (C.c_rt.trans hrt) (hb C.c_by hd) hr, hrun, hended, _, _, rfl, hQ, ⟨_, rfl⟩, hW, hsame.mono hc hs⟩
theorem g_getF (q : Nat) (hq : pc + 3 = q) (C : Ctx p s m meth c Z own nm bytes ml rt) (X : Stand p l e R s m args below meth c T locs cells slots) {R0 O n d host : String} {i : Nat} {a : Addr} {v : Value} (w : (Cond.fieldLink own i R0 n d).before a0 Z = true ∨ (Cond.fieldLinkNest own i R0 n d host).before a0 Z = true) (via : Via Z R0 O n d) (eT : T.heap = h) (F : Fld Z h a O n d v) (hd : decode bytes pc = .ok (.getfield i, 3))
    (k : ∀ T', Stand p l e R s m args below meth c T' locs cells slots → T'.heap = h → Goes p e below E T' m q Ls (v :: St)) : Goes p e below E T m pc Ls (.ref a :: St) := by
  subst hq
  obtain ⟨T', X', e', st⟩ := getF X C.c_x C.c_z C.c_own w via eT F (g := mkF m pc Ls (.ref a :: St)) rfl rfl (hb C.c_by hd)
  exact (k T' X' e').back fun t kt => st t kt
theorem g_putF (q : Nat) (hq : pc + 3 = q) (C : Ctx p s m meth c Z own nm bytes ml rt) (X : Stand p l e R s m args below meth c T locs cells slots) {R0 O n d host K : String} {i kk : Nat} {ty : FieldType} {a : Addr} {v old : Value} (w : (Cond.fieldLink own i R0 n d).before a0 Z = true ∨ (Cond.fieldLinkNest own i R0 n d host).before a0 Z = true) (via : Via Z R0 O n d) (eT : T.heap = h) (F : Fld Z h a O n d old) (EX : Exa Z h a K)
    (L : (Cond.lays K O n d).before a0 Z = true ∨ ((Cond.laysFinal K O n d).before a0 Z = true ∧ own = O ∧ nm = "<init>")) (wi : (Cond.instantiable K kk).before a0 Z = true) (hty : parseFieldDescriptor d = some ty) (hn : narrow ty v = v) (hf : fits ty v = true) (hd : decode bytes pc = .ok (.putfield i, 3)) {n0 : Nat} (N : Fr n0 locs) (hn0 : n0 ≤ a)
    (k : ∀ T' h' locs', Stand p l e R s m args below meth c T' locs' cells slots → T'.heap = h' → Wr h h' a (Jvm.RoadKit.slotOf Z O n d) v → Fr n0 locs' → Goes p e below E T' m q Ls St) : Goes p e below E T m pc Ls (v :: .ref a :: St) := by
  subst hq
  obtain ⟨T', h', X', e', W', st⟩ := putF X C.c_x C.c_z C.c_own w via eT F EX (L.imp id fun r => ⟨r.1, r.2.1, C.c_nm.trans r.2.2⟩) wi hty hn hf (g := mkF m pc Ls (v :: .ref a :: St)) rfl rfl (hb C.c_by hd)
  exact (k T' h' _ X' e' W' (Fr.snoc X' N hn0)).back fun t kt => st t kt
theorem g_new (q : Nat) (hq : pc + 3 = q) (C : Ctx p s m meth c Z own nm bytes ml rt) (X : Stand p l e R s m args below meth c T locs cells slots) {K : String} {i n : Nat} (w : (Cond.classLink own i K).before a0 Z = true) (wi : (Cond.instantiable K n).before a0 Z = true) (wz : (Cond.initialized K).before a0 Z = true) (eT : T.heap = h) (hd : decode bytes pc = .ok (.new i, 3)) (hc : cells + 1 ≤ R.cells) (hl : slots + n ≤ R.slots)
    (k : ∀ T' h' a, a = h.size → Stand p l e R s m args below meth c T' locs (cells + 1) (slots + n) → T'.heap = h' → Ext h h' → Exa Z h' a K → (∀ {O nm d : String} {ty : FieldType}, Laid Z a0 K O nm d → parseFieldDescriptor d = some ty → Fld Z h' a O nm d (defaultValue ty)) → Goes p e below E T' m q Ls (.ref a :: St)) : Goes p e below E T m pc Ls St := by
  subst hq
  obtain ⟨T', h', X', e', E', A', D', -, st⟩ := newO X C.c_x C.c_z C.c_own w wi wz eT (g := mkF m pc Ls St) rfl (hb C.c_by hd) hc hl
  exact (k T' h' _ rfl X' e' E' A' D').back fun t kt => st t kt
theorem g_initO (q : Nat) (hq : pc + 3 = q) (C : Ctx p s m meth c Z own nm bytes ml rt) (X : Stand p l e R s m args below meth c T locs cells slots) {i : Nat} {a : Addr} (w1 : (Cond.methodLink own i Lib.objectInit).before a0 Z = true) (w2 : (Cond.instanceMethod Lib.objectInit).before a0 Z = true) (w3 : (Cond.code Lib.objectInit ⟨#[0xb1]⟩ 1 none).before a0 Z = true) (eT : T.heap = h) (hd : decode bytes pc = .ok (.invokespecial i, 3)) (hsz : Ls.size = ml) (hf : 1 ≤ R.frames) {W : Nat} (hW : (St.map fun v => v.category).sum ≤ W) (hl : W + 12 ≤ R.locals)
    (k : ∀ T', Stand p l e R s m args below meth c T' locs cells slots → T'.heap = h → Goes p e below E T' m q Ls St) : Goes p e below E T m pc Ls (.ref a :: St) := by
  subst hq
  obtain ⟨T', X', e', st⟩ := initO X C.c_x C.c_z C.c_own w1 w2 w3 eT (g := mkF m pc Ls (.ref a :: St)) rfl (hsz.trans C.c_ml.symm) rfl (hb C.c_by hd) hf (W := W) (by show 2 * 0 + _ ≤ _; omega) hl
  exact (k T' X' e').back fun t kt => st t kt
def Ba (Z : State) (h : Heap) (a : Addr) (ty : FieldType) (n : Nat) (f : Nat → Int32) : Prop := ∃ c : Cell, Arr Z h a c ty ∧ c.slots.size = n ∧ n < 2 ^ 31 ∧ (∀ k, k < n → c.slots[k]? = some (.int (f k)))
def upd (f : Nat → Int32) (j : Nat) (v : Int32) : Nat → Int32 := fun k => bif Nat.beq k j then v else f k
theorem upd_same {f : Nat → Int32} {j k : Nat} {v : Int32} (q : k = j) : upd f j v k = v := by subst q; simp [upd]
theorem upd_ne {f : Nat → Int32} {j k : Nat} {v : Int32} (q : k ≠ j) : upd f j v k = f k := by
  have : Nat.beq k j = false := by
    cases hb : Nat.beq k j with
    | false => rfl
    | true => exact absurd (Nat.eq_of_beq_eq_true hb) q
  show (bif Nat.beq k j then v else f k) = f k
  rw [this]; rfl
theorem upd_eq (f : Nat → Int32) (j k : Nat) (v : Int32) : upd f j v k = if k = j then v else f k := by
  split
  · rename_i q; exact upd_same q
  · rename_i q; exact upd_ne q
theorem Ba.lt {a : Addr} {ty : FieldType} {n : Nat} {f : Nat → Int32} (F : Ba Z h a ty n f) : a < h.size := by obtain ⟨c, A, -⟩ := F; exact A.lt
theorem Ba.ext {h' : Heap} {a : Addr} {ty : FieldType} {n : Nat} {f : Nat → Int32} (F : Ba Z h a ty n f) (E : Ext h h') : Ba Z h' a ty n f := by obtain ⟨c, A, r⟩ := F; exact ⟨c, A.ext E, r⟩
theorem Ba.other {h' : Heap} {a b : Addr} {ty : FieldType} {n sl : Nat} {v : Value} {f : Nat → Int32} (F : Ba Z h a ty n f) (W : Wr h h' b sl v) (q : a ≠ b) : Ba Z h' a ty n f := by obtain ⟨c, A, r⟩ := F; exact ⟨c, A.other W q, r⟩
theorem Ba.keep {h' : Heap} {a : Addr} {ty : FieldType} {n : Nat} {ws : List Addr} {f : Nat → Int32} (F : Ba Z h a ty n f) (K : Keep h h' ws) (q : a ∉ ws) : Ba Z h' a ty n f := by obtain ⟨c, A, r⟩ := F; exact ⟨c, ⟨K.2.1 a c A.1 q, A.2⟩, r⟩
theorem Ba.same {h' : Heap} {a : Addr} {ty : FieldType} {n j : Nat} {v : Int32} {f : Nat → Int32} (F : Ba Z h a ty n f) (W : Wr h h' a j (.int v)) : Ba Z h' a ty n (upd f j v) := by
  obtain ⟨c, A, hs, hn, hf⟩ := F
  refine ⟨_, A.same W, by simp [Cell.setSlot, hs], hn, fun k hk => ?_⟩
  rw [upd_eq]
  by_cases q : k = j
  · subst q; simp [Cell.setSlot, hs, hk]
  · rw [if_neg q]; simp only [Cell.setSlot]; rw [Array.getElem?_setIfInBounds_ne (Ne.symm q)]; exact hf k hk
theorem Ba.cong {a : Addr} {ty : FieldType} {n : Nat} {f f' : Nat → Int32} (F : Ba Z h a ty n f) (q : ∀ k, k < n → f k = f' k) : Ba Z h a ty n f' := by
  obtain ⟨c, A, hs, hn, hf⟩ := F
  exact ⟨c, A, hs, hn, fun k hk => by rw [← q k hk]; exact hf k hk⟩
theorem Ba.new {a : Addr} {cA : ClassId} {ty : FieldType} {z : Int32} {n : Nat} (A : Arr Z h a (newA cA ty z) ty) (hz : z.toInt = n) (hd : defaultValue ty = .int 0) : Ba Z h a ty n (fun _ => 0) := by
  have hr := rng32 z
  have hn : z.toNatClampNeg = n := by simp only [Int32.toNatClampNeg, hz]; rfl
  exact ⟨_, A, by rw [sz_new, hn], by omega, fun k hk => by simp [newA, hn, hk, hd]⟩
theorem own_clamp {j : Int32} {k : Nat} (hj : j.toInt = k) : j.toNatClampNeg = k ∧ ¬ j < 0 := by
  refine ⟨by simp only [Int32.toNatClampNeg, hj]; rfl, fun r => ?_⟩
  have := Int32.lt_iff_toInt_lt.mp r
  rw [hj, own_z0] at this; omega
theorem own_in {j : Int32} {k n : Nat} {c : Cell} (hs : c.slots.size = n) (hj : j.toInt = k) (hk : k < n) : ¬ (j < 0 ∨ c.slots.size ≤ j.toNatClampNeg) := by
  obtain ⟨h1, h2⟩ := own_clamp hj
  rw [h1, hs]; intro r; rcases r with r | r
  · exact h2 r
  · omega
theorem own_lenI {n : Nat} (hn : n < 2 ^ 31) : (n.toInt32).toInt = n := by
  have := len_toInt hn
  exact this
theorem g_newP (q : Nat) (hq : pc + 2 = q) (C : Ctx p s m meth c Z own nm bytes ml rt) (X : Stand p l e R s m args below meth c T locs cells slots) {aty : ArrayType} {z : Int32} (n : Nat) (hz : z.toInt = n) (cap : Nat) (hcap : n ≤ cap) (hb' : cap * 8 ≤ 536870912) (hdf : defaultValue (newarray.typeOf aty) = .int 0) (w : (Cond.arrayClass (newarray.typeOf aty)).before a0 Z = true) (eT : T.heap = h) (hd : decode bytes pc = .ok (.newarray aty, 2)) (hc : cells + 1 ≤ R.cells) (hl : slots + cap ≤ R.slots)
    (k : ∀ T' h' a, a = h.size → Stand p l e R s m args below meth c T' locs (cells + 1) (slots + cap) → T'.heap = h' → Ext h h' → Ba Z h' a (newarray.typeOf aty) n (fun _ => 0) → Goes p e below E T' m q Ls (.ref a :: St)) : Goes p e below E T m pc Ls (.int z :: St) := by
  subst hq
  obtain ⟨h1, h2⟩ := own_clamp hz
  obtain ⟨T', h', cA, X', e', E', A', st⟩ := newP X C.c_x C.c_z w eT (g := mkF m pc Ls (.int z :: St)) rfl (hb C.c_by hd) rfl h2 (cap := cap) (by rw [h1]; exact hcap) hb' hc hl
  exact (k T' h' _ rfl X' e' E' (Ba.new A' hz hdf)).back fun t kt => st t kt
theorem g_len (q : Nat) (hq : pc + 1 = q) (C : Ctx p s m meth c Z own nm bytes ml rt) (X : Stand p l e R s m args below meth c T locs cells slots) {a : Addr} {ty : FieldType} {n : Nat} {f : Nat → Int32} (eT : T.heap = h) (F : Ba Z h a ty n f) (z : Int32) (hz : z.toInt = n) (hd : decode bytes pc = .ok (.arraylength, 1)) (k : Goes p e below E T m q Ls (.int z :: St)) : Goes p e below E T m pc Ls (.ref a :: St) := by
  subst hq
  obtain ⟨c0, A, hs, hn, hf⟩ := F
  have ez : c0.slots.size.toInt32 = z := Int32.toInt_inj.mp (by rw [hs, own_lenI hn, hz])
  exact k.back fun t kt => X.arraylength C.c_x (by rw [eT]; exact A.1) (State.isArrayOf_alike C.c_z.alike A.2.1) (g := mkF m pc Ls (.ref a :: St)) rfl rfl (hb C.c_by hd) t (by rw [ez]; exact kt)
theorem g_iaload (q : Nat) (hq : pc + 1 = q) (C : Ctx p s m meth c Z own nm bytes ml rt) (X : Stand p l e R s m args below meth c T locs cells slots) {a : Addr} {n : Nat} {f : Nat → Int32} {j : Int32} (eT : T.heap = h) (F : Ba Z h a .int n f) (i : Nat) (hj : j.toInt = i) (hi : i < n) (v : Int32) (hv : f i = v) (hd : decode bytes pc = .ok (.iaload, 1)) (k : Goes p e below E T m q Ls (.int v :: St)) : Goes p e below E T m pc Ls (.int j :: .ref a :: St) := by
  subst hq
  obtain ⟨c0, A, hs, hn, hf⟩ := F
  exact k.back fun t kt => X.iaload C.c_x (j := j) (v := .int v) (by rw [eT]; exact A.1) (State.isArrayOf_alike C.c_z.alike A.2.1) A.2.2 (own_in hs hj hi) (by rw [(own_clamp hj).1, ← hv]; exact hf i hi) (g := mkF m pc Ls (.int j :: .ref a :: St)) rfl rfl (hb C.c_by hd) t kt
theorem g_iastore (q : Nat) (hq : pc + 1 = q) (C : Ctx p s m meth c Z own nm bytes ml rt) (X : Stand p l e R s m args below meth c T locs cells slots) {a : Addr} {n : Nat} {f : Nat → Int32} {j x : Int32} (eT : T.heap = h) (F : Ba Z h a .int n f) (i : Nat) (hj : j.toInt = i) (hi : i < n) (v : Int32) (hv : x = v) (hd : decode bytes pc = .ok (.iastore, 1)) {n0 : Nat} (N : Fr n0 locs) (hn0 : n0 ≤ a)
    (k : ∀ T' h' locs', Stand p l e R s m args below meth c T' locs' cells slots → T'.heap = h' → Wr h h' a i (.int v) → Ba Z h' a .int n (upd f i v) → Fr n0 locs' → Goes p e below E T' m q Ls St) : Goes p e below E T m pc Ls (.int x :: .int j :: .ref a :: St) := by
  subst hq hv
  have F0 := F
  obtain ⟨c0, A, hs, hn, hf⟩ := F
  obtain ⟨T', h', X', e', W', st⟩ := stI X C.c_x C.c_z eT A (j := j) (own_in hs hj hi) (g := mkF m pc Ls (.int x :: .int j :: .ref a :: St)) rfl rfl (hb C.c_by hd)
  rw [(own_clamp hj).1] at W' X'
  exact (k T' h' _ X' e' W' (F0.same W') (Fr.snoc X' N hn0)).back fun t kt => st t kt
theorem own_narByte {b : Int32} (h0 : -128 ≤ b.toInt) (h1 : b.toInt < 128) : b.toInt8.toInt32 = b := by
  have := c_i2b b
  exact Int32.toInt_inj.mp (by omega)
theorem own_fitB {x : Int32} (h0 : -128 ≤ x.toInt) (h1 : x.toInt < 128) : fits .byte (.int x) = true := by
  have e := own_narByte h0 h1
  rw [← e]; exact fits_nar_byte x

theorem g_callS (q : Nat) (hq : pc + 3 = q) (C : Ctx p s m meth c Z own nm bytes ml rt) (X : Stand p l e R s m args below meth c T locs cells slots) {y : MethodName} {bytes' : ByteArray} {maxL' : Nat} {ret' : Option FieldType} {rm : Room} {Q' : Option Value → Heap → List Loc → Prop} {i W : Nat} {argsL : List Value} (w1 : (Cond.methodLink own i y).before a0 Z = true) (w2 : (Cond.static y).before a0 Z = true) (wc : (Cond.code y bytes' maxL' ret').before a0 Z = true) (wz : (Cond.initialized y.cls).before a0 Z = true) (eT : T.heap = h) (M : MetFree l y (head1 [Cond.code y bytes' maxL' ret'] rm) (fun a' U => a' = argsL.toArray ∧ Z.Warmed39 U.vm ∧ U.heap = h) (fun _ _ _ _ _ => True) (fun _ U o U' => ∃ v L, o = .returned v ∧ Q' v U'.heap L ∧ FrameEnd U o U' L rm.cells rm.slots)) (hlen : ∀ sig, parseMethodDescriptor y.desc = some sig → argsL.length = sig.parameters.length) (hf : rm.frames + 1 ≤ R.frames) (hl : W + (maxL' + 11) + rm.locals ≤ R.locals) (hc : cells + rm.cells ≤ R.cells) (hsl : slots + rm.slots ≤ R.slots) (hsz : Ls.size = ml) (hW : (St.map fun v => v.category).sum ≤ W) (hy : y.cls ≠ "java/lang/invoke/MethodHandle" ∧ y.cls ≠ "java/lang/invoke/VarHandle") (hd : decode bytes pc = .ok (.invokestatic i, 3)) {St0 : List Value} (hst : St0 = argsL.reverse ++ St)
    (k : ∀ v T' L, Stand p l e R s m args below meth c T' (locs ++ L) (cells + rm.cells) (slots + rm.slots) → Q' v T'.heap L → Goes p e below E T' m q Ls (v.toList ++ St)) : Goes p e below E T m pc Ls St0 := by
  subst hq hst
  obtain ⟨v, _, ⟨T', L', k', n'⟩, -, X', ⟨Lc, hQ', l', y', z'⟩, st⟩ := Jvm.LawKit.callS X C.c_x (y := y) C.c_own (mvT C.c_z w1) (mvT C.c_z w2) (mvT C.c_z wz) (mvT C.c_z wc) hy (backOf (W := W) M C.c_z wc wz hf hl) (g := mkF m pc Ls (argsL.reverse ++ St)) rfl (hsz.trans C.c_ml.symm) (argsL := argsL) (rest := St) hlen rfl (by show 2 * 0 + _ ≤ _; omega) (hb C.c_by hd) (fun _ _ => ⟨rfl, eT, hc, hsl⟩)
  dsimp only [Pt.U, Pt.locs, Pt.cells, Pt.slots] at X' l' y' z' st hQ'
  subst l' y' z'
  exact (k v T' Lc X' hQ').back fun t kt => st t kt
theorem g_callN (q : Nat) (hq : pc + 3 = q) (C : Ctx p s m meth c Z own nm bytes ml rt) (X : Stand p l e R s m args below meth c T locs cells slots) {y : MethodName} {bytes' : ByteArray} {maxL' : Nat} {ret' : Option FieldType} {rm : Room} {Q' : Option Value → Heap → List Loc → Prop} {i W : Nat} {a : Addr} {argsL : List Value} (hy1 : y.name = "<init>") (hre : ret' = none) (w1 : (Cond.methodLink own i y).before a0 Z = true) (w2 : (Cond.instanceMethod y).before a0 Z = true) (wc : (Cond.code y bytes' maxL' ret').before a0 Z = true) (wz : (Cond.initialized y.cls).before a0 Z = true) (eT : T.heap = h) (M : MetFree l y (head1 [Cond.code y bytes' maxL' ret'] rm) (fun a' U => a' = (.ref a :: argsL).toArray ∧ Z.Warmed39 U.vm ∧ U.heap = h) (fun _ _ _ _ _ => True) (fun _ U o U' => ∃ v L, o = .returned v ∧ Q' v U'.heap L ∧ FrameEnd U o U' L rm.cells rm.slots)) (hlen : ∀ sig, parseMethodDescriptor y.desc = some sig → argsL.length = sig.parameters.length) (hf : rm.frames + 1 ≤ R.frames) (hl : W + (maxL' + 11) + rm.locals ≤ R.locals) (hc : cells + rm.cells ≤ R.cells) (hsl : slots + rm.slots ≤ R.slots) (hsz : Ls.size = ml) (hW : (St.map fun v => v.category).sum ≤ W) (hy : y.cls ≠ "java/lang/invoke/MethodHandle" ∧ y.cls ≠ "java/lang/invoke/VarHandle") (hd : decode bytes pc = .ok (.invokespecial i, 3)) {St0 : List Value} (hst : St0 = argsL.reverse ++ .ref a :: St)
    (k : ∀ v T' L, Stand p l e R s m args below meth c T' (locs ++ L) (cells + rm.cells) (slots + rm.slots) → Q' v T'.heap L → Goes p e below E T' m q Ls (v.toList ++ St)) : Goes p e below E T m pc Ls St0 := by
  subst hq hst hre
  obtain ⟨v, _, ⟨T', L', k', n'⟩, -, X', ⟨Lc, hQ', l', y', z'⟩, st⟩ := X.specialBack C.c_x (y := y) hy1 C.c_own (mvT C.c_z w1) (mvT C.c_z w2) (mvT C.c_z wc) hy (backOf (W := W) M C.c_z wc wz hf hl) (g := mkF m pc Ls (argsL.reverse ++ .ref a :: St)) rfl (hsz.trans C.c_ml.symm) (Steps.refl _) (a := a) (argsL := argsL) (rest := St) hlen rfl (by show 2 * 0 + _ ≤ _; omega) (hb C.c_by hd) (fun _ _ => ⟨rfl, eT, hc, hsl⟩)
  dsimp only [Pt.U, Pt.locs, Pt.cells, Pt.slots] at X' l' y' z' st hQ'
  subst l' y' z'
  exact (k v T' Lc X' hQ').back fun t kt => st.trans kt
theorem g_callV (q : Nat) (hq : pc + 3 = q) (C : Ctx p s m meth c Z own nm bytes ml rt) (X : Stand p l e R s m args below meth c T locs cells slots) {y : MethodName} {bytes' : ByteArray} {maxL' : Nat} {ret' : Option FieldType} {rm : Room} {Q' : Option Value → Heap → List Loc → Prop} {i W : Nat} {K : String} {a : Addr} {argsL : List Value} (w1 : (Cond.methodLink own i y).before a0 Z = true) (w2 : (Cond.declares y).before a0 Z = true) (w3 : (Cond.selects K y y).before a0 Z = true) (w4 : (Cond.instanceMethod y).before a0 Z = true) (wc : (Cond.code y bytes' maxL' ret').before a0 Z = true) (wz : (Cond.initialized y.cls).before a0 Z = true) (eT : T.heap = h) (EX : Exa Z h a K) (M : MetFree l y (head1 [Cond.code y bytes' maxL' ret'] rm) (fun a' U => a' = (.ref a :: argsL).toArray ∧ Z.Warmed39 U.vm ∧ U.heap = h) (fun _ _ _ _ _ => True) (fun _ U o U' => ∃ v L, o = .returned v ∧ Q' v U'.heap L ∧ FrameEnd U o U' L rm.cells rm.slots)) (hlen : ∀ sig, parseMethodDescriptor y.desc = some sig → argsL.length = sig.parameters.length) (hf : rm.frames + 1 ≤ R.frames) (hl : W + (maxL' + 11) + rm.locals ≤ R.locals) (hc : cells + rm.cells ≤ R.cells) (hsl : slots + rm.slots ≤ R.slots) (hsz : Ls.size = ml) (hW : (St.map fun v => v.category).sum ≤ W) (hy : y.cls ≠ "java/lang/invoke/MethodHandle" ∧ y.cls ≠ "java/lang/invoke/VarHandle") (hd : decode bytes pc = .ok (.invokevirtual i, 3)) {St0 : List Value} (hst : St0 = argsL.reverse ++ .ref a :: St)
    (k : ∀ v T' L, Stand p l e R s m args below meth c T' (locs ++ L) (cells + rm.cells) (slots + rm.slots) → Q' v T'.heap L → Goes p e below E T' m q Ls (v.toList ++ St)) : Goes p e below E T m pc Ls St0 := by
  subst hq hst
  obtain ⟨cB, kB, q1, q2, q3⟩ := isOf C.c_z eT EX
  obtain ⟨v, _, ⟨T', L', k', n'⟩, -, X', ⟨Lc, hQ', l', y', z'⟩, st⟩ := X.virtualBack C.c_x (y := y) (z := y) C.c_own (mvT C.c_z w1) (mvT C.c_z w2) (notFace_of_selects (args := #[]) (mvT C.c_z w3)) (mvT C.c_z w3) (mvT C.c_z w4) hy (backOf (W := W) M C.c_z wc wz hf hl) q1 q3 (g := mkF m pc Ls (argsL.reverse ++ .ref a :: St)) rfl (hsz.trans C.c_ml.symm) (Steps.refl _) (argsL := argsL) (rest := St) hlen rfl (by show 2 * 0 + _ ≤ _; omega) (hb C.c_by hd) (fun _ _ => ⟨rfl, eT, hc, hsl⟩)
  dsimp only [Pt.U, Pt.locs, Pt.cells, Pt.slots] at X' l' y' z' st hQ'
  subst l' y' z'
  exact (k v T' Lc X' hQ').back fun t kt => st.trans kt
theorem g_callQ (q : Nat) (hq : pc + 3 = q) (C : Ctx p s m meth c Z own nm bytes ml rt) (X : Stand p l e R s m args below meth c T locs cells slots) {y : MethodName} {bytes' : ByteArray} {maxL' : Nat} {ret' : Option FieldType} {rm : Room} {Q' : Option Value → Heap → List Loc → Prop} {i W : Nat} {a : Addr} {argsL : List Value} {K : String} (w1 : (Cond.methodLink own i y).before a0 Z = true) (w4 : (Cond.instanceMethod y).before a0 Z = true) (w5 : (Cond.privateMethod y).before a0 Z = true) {kk : Nat} (w6 : (Cond.instantiable y.cls kk).before a0 Z = true) (wc : (Cond.code y bytes' maxL' ret').before a0 Z = true) (wz : (Cond.initialized y.cls).before a0 Z = true) (eT : T.heap = h) (E' : Exa Z h a K) (M : MetFree l y (head1 [Cond.code y bytes' maxL' ret'] rm) (fun a' U => a' = (.ref a :: argsL).toArray ∧ Z.Warmed39 U.vm ∧ U.heap = h) (fun _ _ _ _ _ => True) (fun _ U o U' => ∃ v L, o = .returned v ∧ Q' v U'.heap L ∧ FrameEnd U o U' L rm.cells rm.slots)) (hlen : ∀ sig, parseMethodDescriptor y.desc = some sig → argsL.length = sig.parameters.length) (hf : rm.frames + 1 ≤ R.frames) (hl : W + (maxL' + 11) + rm.locals ≤ R.locals) (hc : cells + rm.cells ≤ R.cells) (hsl : slots + rm.slots ≤ R.slots) (hsz : Ls.size = ml) (hW : (St.map fun v => v.category).sum ≤ W) (hy : y.cls ≠ "java/lang/invoke/MethodHandle" ∧ y.cls ≠ "java/lang/invoke/VarHandle") (hd : decode bytes pc = .ok (.invokevirtual i, 3)) {St0 : List Value} (hst : St0 = argsL.reverse ++ .ref a :: St)
    (k : ∀ v T' L, Stand p l e R s m args below meth c T' (locs ++ L) (cells + rm.cells) (slots + rm.slots) → Q' v T'.heap L → Goes p e below E T' m q Ls (v.toList ++ St)) : Goes p e below E T m pc Ls St0 := by
  subst hq hst
  obtain ⟨cq, q1, q2⟩ := E'.cell
  have hcode : (Cond.code y bytes' maxL' ret').before args s = true := mvT C.c_z wc
  have hpriv := Cond.privateMethod_at (mvP C.c_z w5 (args := args))
  obtain ⟨mk, methM, hnamed, hmethM, hstM, habM⟩ := Cond.instanceMethod_spec (mvT C.c_z w4 : (Cond.instanceMethod y).before args s = true)
  obtain ⟨methM', cM, hmethM', -, -, -, -, -, -, hsigM⟩ := Cond.code_spec hnamed hcode
  cases hmethM.symm.trans hmethM'
  obtain ⟨kP, hkP, -⟩ := className_of_methodNamed hnamed
  have hkPi : kP.isInterface = false := by
    obtain ⟨c2, k2, i1, i2, -, i4, -⟩ := Cond.instantiable_spec (mvT C.c_z w6 : (Cond.instantiable y.cls kk).before args s = true)
    cases (findClass_of_methodNamed hnamed).symm.trans i1
    cases hkP.symm.trans i2
    exact (Bool.or_eq_false_iff.mp i4).1
  have hselP : selectMethod e.platform s.vm cq.cls mk = .method mk := selectMethod_private hmethM (hpriv mk methM hnamed hmethM)
  obtain ⟨vm₁, X₁, hstep₁⟩ := X.invokevirtual C.c_x C.c_own (mvT C.c_z w1) hnamed hmethM hstM hkP hkPi hy (a := a) (cell := cq) (by rw [eT]; exact q1) q2 hselP hmethM habM hkP hkPi (g := mkF m pc Ls (argsL.reverse ++ .ref a :: St)) rfl (argsL := argsL) (rest := St) (hlen _ hsigM) rfl (hb C.c_by hd)
  obtain ⟨v, ⟨T', L', k', n'⟩, X', ⟨Lc, hQ', l', y', z'⟩, hsteps⟩ := (backOf (W := W) (len := 3) (p := p) (e := e) (below := below) (args := args) M C.c_z wc wz hf hl) m meth c ⟨T.setVm vm₁, locs, cells, slots⟩ { mkF m pc Ls (argsL.reverse ++ .ref a :: St) with stack := St } (.invokevirtual i) mk (.ref a :: argsL).toArray X₁ rfl (hsz.trans C.c_ml.symm) (hb C.c_by hd) (by show 2 * 0 + (St.map fun v => v.category).sum ≤ W; omega) (X₁.named hnamed) ⟨rfl, eT, hc, hsl⟩
  dsimp only [Pt.U, Pt.locs, Pt.cells, Pt.slots] at X' l' y' z' hsteps hQ'
  subst l' y' z'
  exact (k v T' Lc X' hQ').back fun t kt => (hstep₁ _ fun acts => by rw [doInvoke_state]; exact Steps.refl _).trans (hsteps.trans kt)
end Own
section OwnArith
theorem own_mulc (x y : Int32) (k : Int) (hk : y.toInt = k) : ((x * y).toInt - x.toInt * k) % 4294967296 = 0 := hk ▸ c_imul x y
theorem own_mulc' (x y : Int32) (k : Int) (hk : x.toInt = k) : ((x * y).toInt - k * y.toInt) % 4294967296 = 0 := hk ▸ c_imul x y
theorem own_lmulc (x y : Int64) (k : Int) (hk : y.toInt = k) : ((x * y).toInt - x.toInt * k) % 18446744073709551616 = 0 := hk ▸ c_lmul x y
theorem own_lmulc' (x y : Int64) (k : Int) (hk : x.toInt = k) : ((x * y).toInt - k * y.toInt) % 18446744073709551616 = 0 := hk ▸ c_lmul x y
theorem own_bvor (x y : BitVec 32) : (x ||| y) + (x &&& y) = x + y := by
  have h1 : x = (x &&& y) + (x &&& ~~~y) := by
    rw [BitVec.add_eq_or_of_and_eq_zero]
    · ext i; simp; cases x[i] <;> cases y[i] <;> rfl
    · ext i; simp; cases x[i] <;> cases y[i] <;> simp
  have h2 : x ||| y = y + (x &&& ~~~y) := by
    rw [BitVec.add_eq_or_of_and_eq_zero]
    · ext i; simp; cases x[i] <;> cases y[i] <;> rfl
    · ext i; simp; cases x[i] <;> cases y[i] <;> simp
  rw [h2]
  conv => rhs; rw [h1]
  ac_rfl
theorem own_or0 (x y : Int32) : (x ||| y) + (x &&& y) = x + y := Int32.toBitVec_inj.mp (by simpa using own_bvor x.toBitVec y.toBitVec)
theorem own_or (x y : Int32) : ((x ||| y).toInt + (x &&& y).toInt - (x.toInt + y.toInt)) % 4294967296 = 0 := by
  have h1 := c_iadd (x ||| y) (x &&& y)
  have h2 := c_iadd x y
  rw [own_or0] at h1; omega
theorem own_bvblk (x m a b : BitVec 32) (h1 : m ||| a = b) (h2 : m &&& a = 0#32) : (x &&& m) + (x &&& a) = x &&& b := by
  rw [BitVec.add_eq_or_of_and_eq_zero, ← h1]
  · ext i; simp; cases x[i] <;> simp
  · have : (x &&& m) &&& (x &&& a) = x &&& (m &&& a) := by ext i; simp; cases x[i] <;> simp
    rw [this, h2]; simp
theorem own_blk (x m a b : Int32) (h1 : m ||| a = b) (h2 : m &&& a = 0) : ((x &&& m).toInt + (x &&& a).toInt - (x &&& b).toInt) % 4294967296 = 0 := by
  have e : (x &&& m) + (x &&& a) = x &&& b := Int32.toBitVec_inj.mp (by
    have q1 := congrArg Int32.toBitVec h1
    have q2 := congrArg Int32.toBitVec h2
    simpa using own_bvblk x.toBitVec m.toBitVec a.toBitVec b.toBitVec (by simpa using q1) (by simpa using q2))
  have := c_iadd (x &&& m) (x &&& a)
  rw [e] at this; omega
theorem own_andM1 (x : Int32) : x &&& (-1) = x := Int32.toBitVec_inj.mp (by ext i; simp)
theorem own_narZ {b : Int32} (hb : b.toInt = 0 ∨ b.toInt = 1) : nar .boolean b = b := by
  have : b = 0 ∨ b = 1 := by
    rcases hb with q | q
    · exact Or.inl (Int32.toInt_inj.mp q)
    · exact Or.inr (Int32.toInt_inj.mp q)
  rcases this with rfl | rfl <;> decide
theorem own_narC {b : Int32} (h0 : 0 ≤ b.toInt) (h1 : b.toInt < 65536) : nar .char b = b := by
  have := c_i2c b
  exact Int32.toInt_inj.mp (by show b.toUInt32.toUInt16.toUInt32.toInt32.toInt = _; omega)
theorem own_narB {b : Int32} (h0 : -128 ≤ b.toInt) (h1 : b.toInt < 128) : nar .byte b = b := by
  have := c_i2b b
  exact Int32.toInt_inj.mp (by show b.toInt8.toInt32.toInt = _; omega)
theorem own_eq {x y : Int32} (q : x.toInt = y.toInt) : x = y := Int32.toInt_inj.mp q
theorem own_eqL {x y : Int64} (q : x.toInt = y.toInt) : x = y := Int64.toInt_inj.mp q
end OwnArith


theorem d3_0 : decode jdk_65_method_103_code 0 = .ok (.iconst 0, 1) := by decide +kernel
theorem d3_1 : decode jdk_65_method_103_code 1 = .ok (.istore_n 2, 1) := by decide +kernel
theorem d3_2 : decode jdk_65_method_103_code 2 = .ok (.aload_n 0, 1) := by decide +kernel
theorem d3_3 : decode jdk_65_method_103_code 3 = .ok (.arraylength, 1) := by decide +kernel
theorem d3_4 : decode jdk_65_method_103_code 4 = .ok (.istore_n 3, 1) := by decide +kernel
theorem d3_5 : decode jdk_65_method_103_code 5 = .ok (.iload_n 2, 1) := by decide +kernel
theorem d3_6 : decode jdk_65_method_103_code 6 = .ok (.iload_n 3, 1) := by decide +kernel
theorem d3_7 : decode jdk_65_method_103_code 7 = .ok (.if_icmp .ge 13, 3) := by decide +kernel
theorem d3_10 : decode jdk_65_method_103_code 10 = .ok (.aload_n 0, 1) := by decide +kernel
theorem d3_11 : decode jdk_65_method_103_code 11 = .ok (.iload_n 2, 1) := by decide +kernel
theorem d3_12 : decode jdk_65_method_103_code 12 = .ok (.iload_n 1, 1) := by decide +kernel
theorem d3_13 : decode jdk_65_method_103_code 13 = .ok (.iastore, 1) := by decide +kernel
theorem d3_14 : decode jdk_65_method_103_code 14 = .ok (.iinc 2 1, 3) := by decide +kernel
theorem d3_17 : decode jdk_65_method_103_code 17 = .ok (.goto (-12), 3) := by decide +kernel
theorem d3_20 : decode jdk_65_method_103_code 20 = .ok (.return_, 1) := by decide +kernel
theorem pn_58157509 : plainName "java/util/Arrays" = true := by first | (simp [plainName, overriddenIn]; done) | decide +kernel
theorem ef_3_2 (m : MethodId) (b0 : Addr) (p1 : Int32) : entryFrame m #[(.ref b0), (.int p1)] 4 = mkF m 0 #[.val (.ref b0), .val (.int p1), .unset, .unset] [] := by first | (simp [entryFrame, mkF, argsToLocals, Value.category]; done) | rfl
def Q3_2 (Z : State) (b0 : Addr) (p1 : Int32) (f : Nat → Int32) (h0 : Heap) (n0 : Nat) (v : Option Value) (h : Heap) (L : List Loc) : Prop := v = none ∧ Fr n0 L ∧ Keep h0 h [b0] ∧ Ba Z h b0 .int 2 (fun _ => p1)
set_option maxRecDepth 65536 in
set_option maxHeartbeats 40000000 in
theorem rm3_2 (l : Launch) (Z : State) (a0 : Array Value) (hw : ∀ d ∈ tables_1, d.before a0 Z = true) (ws : List Jvm.Cond) (b0 : Addr) (p1 : Int32) (f : Nat → Int32) (h0 : Heap) (n0 : Nat) (Z0 : n0 ≤ h0.size) (B_b0 : Ba Z h0 b0 .int 2 f) (g_b0 : n0 ≤ b0) :
    MetFree l (⟨"java/util/Arrays", "fill", "([II)V"⟩ : MethodName) (head1 (Jvm.Cond.code (⟨"java/util/Arrays", "fill", "([II)V"⟩ : MethodName) jdk_65_method_103_code 4 none :: ws) ({ frames := 0, cells := 0, slots := 0, locals := 0 } : Room)) (fun a U => a = #[(.ref b0), (.int p1)] ∧ Z.Warmed39 U.vm ∧ U.heap = h0) (fun _ _ _ _ _ => True) (fun _ U o U' => ∃ v L, o = .returned v ∧ Q3_2 Z b0 p1 f h0 n0 v U'.heap L ∧ FrameEnd U o U' L ({ frames := 0, cells := 0, slots := 0, locals := 0 } : Room).cells ({ frames := 0, cells := 0, slots := 0, locals := 0 } : Room).slots) := by
  refine MetFree.of_bodySF (plainFor_of_name pn_58157509) hisR ?_
  intro p e s m args below meth c s₁ Bd hml0 hP hK
  obtain ⟨rfl, hZ, hh⟩ := hP
  have C : Ctx p s m meth c Z "java/util/Arrays" "fill" jdk_65_method_103_code 4 none := Ctx.of Bd hml0 hZ
  have X0 : Stand p l e ({ frames := 0, cells := 0, slots := 0, locals := 0 } : Room) s m #[(.ref b0), (.int p1)] below meth c s₁ [] 0 0 := Stand.of_body Bd
  have e0 : s₁.heap = h0 := by rw [← hh, Bd.state]; rfl
  have N0 := Fr.nil n0
  refine Goes.enter (ef_3_2 m b0 p1) ?_
  clear hK hml0 hh
  refine g_iconst 1 rfl C X0 (0 : Int32) d3_0 rfl ?_
  refine g_istoreN 2 rfl C X0 (0 : Int32) rfl #[.val (.ref b0), .val (.int p1), .val (.int (0 : Int32)), .unset] d3_1 rfl ?_
  refine g_aloadN 3 rfl C X0 d3_2 rfl rfl ?_
  refine g_len 4 rfl C X0 e0 B_b0 (2 : Int32) rfl d3_3 ?_
  refine g_istoreN 5 rfl C X0 (2 : Int32) rfl #[.val (.ref b0), .val (.int p1), .val (.int (0 : Int32)), .val (.int (2 : Int32))] d3_4 rfl ?_
  refine g_iloadN 6 rfl C X0 d3_5 rfl ?_
  refine g_iloadN 7 rfl C X0 d3_6 rfl ?_
  refine g_icmp_ge_f 10 rfl C X0 d3_7 (by decide) ?_
  refine g_aloadN 11 rfl C X0 d3_10 rfl rfl ?_
  refine g_iloadN 12 rfl C X0 d3_11 rfl ?_
  refine g_iloadN 13 rfl C X0 d3_12 rfl ?_
  refine g_iastore 14 rfl C X0 e0 B_b0 0 (by decide) (by decide) p1 rfl d3_13 N0 g_b0 fun T1 h2 ls3 X4 e5 W6 B7 N8 => ?_
  have Zs9 := Nat.le_trans Z0 (Nat.le_of_eq W6.size.symm)
  have Kp10 : Keep h0 h2 [b0] := (Keep.refl h0 [b0]).wr W6 (Or.inl (List.mem_of_getElem? (i := 0) rfl))
  refine g_iinc 17 rfl C X4 (1 : Int32) (1 : Int32) #[.val (.ref b0), .val (.int p1), .val (.int (1 : Int32)), .val (.int (2 : Int32))] d3_14 rfl rfl (by decide) rfl ?_
  refine g_goto 5 C X4 d3_17 (by decide) (by decide) ?_
  refine g_iloadN 6 rfl C X4 d3_5 rfl ?_
  refine g_iloadN 7 rfl C X4 d3_6 rfl ?_
  refine g_icmp_ge_f 10 rfl C X4 d3_7 (by decide) ?_
  refine g_aloadN 11 rfl C X4 d3_10 rfl rfl ?_
  refine g_iloadN 12 rfl C X4 d3_11 rfl ?_
  refine g_iloadN 13 rfl C X4 d3_12 rfl ?_
  refine g_iastore 14 rfl C X4 e5 B7 1 (by decide) (by decide) p1 rfl d3_13 N8 g_b0 fun T11 h12 ls13 X14 e15 W16 B17 N18 => ?_
  have Zs19 := Nat.le_trans Zs9 (Nat.le_of_eq W16.size.symm)
  have Kp20 : Keep h0 h12 [b0] := Kp10.wr W16 (Or.inl (List.mem_of_getElem? (i := 0) rfl))
  refine g_iinc 17 rfl C X14 (1 : Int32) (2 : Int32) #[.val (.ref b0), .val (.int p1), .val (.int (2 : Int32)), .val (.int (2 : Int32))] d3_14 rfl rfl (by decide) rfl ?_
  refine g_goto 5 C X14 d3_17 (by decide) (by decide) ?_
  refine g_iloadN 6 rfl C X14 d3_5 rfl ?_
  refine g_iloadN 7 rfl C X14 d3_6 rfl ?_
  refine g_icmp_ge_t 20 C X14 d3_7 (by decide) (by decide) (by decide) ?_
  exact g_retV C X14 rfl d3_20 e15 (by decide) (by decide) ⟨rfl, N18, Kp20, B17.cong (fun k hk => by
      simp only [upd_eq]; (repeat' split) <;> first | rfl | omega)⟩
theorem ef_3_4 (m : MethodId) (b0 : Addr) (p1 : Int32) : entryFrame m #[(.ref b0), (.int p1)] 4 = mkF m 0 #[.val (.ref b0), .val (.int p1), .unset, .unset] [] := by first | (simp [entryFrame, mkF, argsToLocals, Value.category]; done) | rfl
def Q3_4 (Z : State) (b0 : Addr) (p1 : Int32) (f : Nat → Int32) (h0 : Heap) (n0 : Nat) (v : Option Value) (h : Heap) (L : List Loc) : Prop := v = none ∧ Fr n0 L ∧ Keep h0 h [b0] ∧ Ba Z h b0 .int 4 (fun _ => p1)
set_option maxRecDepth 65536 in
set_option maxHeartbeats 40000000 in
theorem rm3_4 (l : Launch) (Z : State) (a0 : Array Value) (hw : ∀ d ∈ tables_1, d.before a0 Z = true) (ws : List Jvm.Cond) (b0 : Addr) (p1 : Int32) (f : Nat → Int32) (h0 : Heap) (n0 : Nat) (Z0 : n0 ≤ h0.size) (B_b0 : Ba Z h0 b0 .int 4 f) (g_b0 : n0 ≤ b0) :
    MetFree l (⟨"java/util/Arrays", "fill", "([II)V"⟩ : MethodName) (head1 (Jvm.Cond.code (⟨"java/util/Arrays", "fill", "([II)V"⟩ : MethodName) jdk_65_method_103_code 4 none :: ws) ({ frames := 0, cells := 0, slots := 0, locals := 0 } : Room)) (fun a U => a = #[(.ref b0), (.int p1)] ∧ Z.Warmed39 U.vm ∧ U.heap = h0) (fun _ _ _ _ _ => True) (fun _ U o U' => ∃ v L, o = .returned v ∧ Q3_4 Z b0 p1 f h0 n0 v U'.heap L ∧ FrameEnd U o U' L ({ frames := 0, cells := 0, slots := 0, locals := 0 } : Room).cells ({ frames := 0, cells := 0, slots := 0, locals := 0 } : Room).slots) := by
  refine MetFree.of_bodySF (plainFor_of_name pn_58157509) hisR ?_
  intro p e s m args below meth c s₁ Bd hml0 hP hK
  obtain ⟨rfl, hZ, hh⟩ := hP
  have C : Ctx p s m meth c Z "java/util/Arrays" "fill" jdk_65_method_103_code 4 none := Ctx.of Bd hml0 hZ
  have X0 : Stand p l e ({ frames := 0, cells := 0, slots := 0, locals := 0 } : Room) s m #[(.ref b0), (.int p1)] below meth c s₁ [] 0 0 := Stand.of_body Bd
  have e0 : s₁.heap = h0 := by rw [← hh, Bd.state]; rfl
  have N0 := Fr.nil n0
  refine Goes.enter (ef_3_4 m b0 p1) ?_
  clear hK hml0 hh
  refine g_iconst 1 rfl C X0 (0 : Int32) d3_0 rfl ?_
  refine g_istoreN 2 rfl C X0 (0 : Int32) rfl #[.val (.ref b0), .val (.int p1), .val (.int (0 : Int32)), .unset] d3_1 rfl ?_
  refine g_aloadN 3 rfl C X0 d3_2 rfl rfl ?_
  refine g_len 4 rfl C X0 e0 B_b0 (4 : Int32) rfl d3_3 ?_
  refine g_istoreN 5 rfl C X0 (4 : Int32) rfl #[.val (.ref b0), .val (.int p1), .val (.int (0 : Int32)), .val (.int (4 : Int32))] d3_4 rfl ?_
  refine g_iloadN 6 rfl C X0 d3_5 rfl ?_
  refine g_iloadN 7 rfl C X0 d3_6 rfl ?_
  refine g_icmp_ge_f 10 rfl C X0 d3_7 (by decide) ?_
  refine g_aloadN 11 rfl C X0 d3_10 rfl rfl ?_
  refine g_iloadN 12 rfl C X0 d3_11 rfl ?_
  refine g_iloadN 13 rfl C X0 d3_12 rfl ?_
  refine g_iastore 14 rfl C X0 e0 B_b0 0 (by decide) (by decide) p1 rfl d3_13 N0 g_b0 fun T1 h2 ls3 X4 e5 W6 B7 N8 => ?_
  have Zs9 := Nat.le_trans Z0 (Nat.le_of_eq W6.size.symm)
  have Kp10 : Keep h0 h2 [b0] := (Keep.refl h0 [b0]).wr W6 (Or.inl (List.mem_of_getElem? (i := 0) rfl))
  refine g_iinc 17 rfl C X4 (1 : Int32) (1 : Int32) #[.val (.ref b0), .val (.int p1), .val (.int (1 : Int32)), .val (.int (4 : Int32))] d3_14 rfl rfl (by decide) rfl ?_
  refine g_goto 5 C X4 d3_17 (by decide) (by decide) ?_
  refine g_iloadN 6 rfl C X4 d3_5 rfl ?_
  refine g_iloadN 7 rfl C X4 d3_6 rfl ?_
  refine g_icmp_ge_f 10 rfl C X4 d3_7 (by decide) ?_
  refine g_aloadN 11 rfl C X4 d3_10 rfl rfl ?_
  refine g_iloadN 12 rfl C X4 d3_11 rfl ?_
  refine g_iloadN 13 rfl C X4 d3_12 rfl ?_
  refine g_iastore 14 rfl C X4 e5 B7 1 (by decide) (by decide) p1 rfl d3_13 N8 g_b0 fun T11 h12 ls13 X14 e15 W16 B17 N18 => ?_
  have Zs19 := Nat.le_trans Zs9 (Nat.le_of_eq W16.size.symm)
  have Kp20 : Keep h0 h12 [b0] := Kp10.wr W16 (Or.inl (List.mem_of_getElem? (i := 0) rfl))
  refine g_iinc 17 rfl C X14 (1 : Int32) (2 : Int32) #[.val (.ref b0), .val (.int p1), .val (.int (2 : Int32)), .val (.int (4 : Int32))] d3_14 rfl rfl (by decide) rfl ?_
  refine g_goto 5 C X14 d3_17 (by decide) (by decide) ?_
  refine g_iloadN 6 rfl C X14 d3_5 rfl ?_
  refine g_iloadN 7 rfl C X14 d3_6 rfl ?_
  refine g_icmp_ge_f 10 rfl C X14 d3_7 (by decide) ?_
  refine g_aloadN 11 rfl C X14 d3_10 rfl rfl ?_
  refine g_iloadN 12 rfl C X14 d3_11 rfl ?_
  refine g_iloadN 13 rfl C X14 d3_12 rfl ?_
  refine g_iastore 14 rfl C X14 e15 B17 2 (by decide) (by decide) p1 rfl d3_13 N18 g_b0 fun T21 h22 ls23 X24 e25 W26 B27 N28 => ?_
  have Zs29 := Nat.le_trans Zs19 (Nat.le_of_eq W26.size.symm)
  have Kp30 : Keep h0 h22 [b0] := Kp20.wr W26 (Or.inl (List.mem_of_getElem? (i := 0) rfl))
  refine g_iinc 17 rfl C X24 (1 : Int32) (3 : Int32) #[.val (.ref b0), .val (.int p1), .val (.int (3 : Int32)), .val (.int (4 : Int32))] d3_14 rfl rfl (by decide) rfl ?_
  refine g_goto 5 C X24 d3_17 (by decide) (by decide) ?_
  refine g_iloadN 6 rfl C X24 d3_5 rfl ?_
  refine g_iloadN 7 rfl C X24 d3_6 rfl ?_
  refine g_icmp_ge_f 10 rfl C X24 d3_7 (by decide) ?_
  refine g_aloadN 11 rfl C X24 d3_10 rfl rfl ?_
  refine g_iloadN 12 rfl C X24 d3_11 rfl ?_
  refine g_iloadN 13 rfl C X24 d3_12 rfl ?_
  refine g_iastore 14 rfl C X24 e25 B27 3 (by decide) (by decide) p1 rfl d3_13 N28 g_b0 fun T31 h32 ls33 X34 e35 W36 B37 N38 => ?_
  have Zs39 := Nat.le_trans Zs29 (Nat.le_of_eq W36.size.symm)
  have Kp40 : Keep h0 h32 [b0] := Kp30.wr W36 (Or.inl (List.mem_of_getElem? (i := 0) rfl))
  refine g_iinc 17 rfl C X34 (1 : Int32) (4 : Int32) #[.val (.ref b0), .val (.int p1), .val (.int (4 : Int32)), .val (.int (4 : Int32))] d3_14 rfl rfl (by decide) rfl ?_
  refine g_goto 5 C X34 d3_17 (by decide) (by decide) ?_
  refine g_iloadN 6 rfl C X34 d3_5 rfl ?_
  refine g_iloadN 7 rfl C X34 d3_6 rfl ?_
  refine g_icmp_ge_t 20 C X34 d3_7 (by decide) (by decide) (by decide) ?_
  exact g_retV C X34 rfl d3_20 e35 (by decide) (by decide) ⟨rfl, N38, Kp40, B37.cong (fun k hk => by
      simp only [upd_eq]; (repeat' split) <;> first | rfl | omega)⟩
theorem d1_0 : decode prog_51_method_1_code 0 = .ok (.aload_n 0, 1) := by decide +kernel
theorem d1_1 : decode prog_51_method_1_code 1 = .ok (.invokespecial 1, 3) := by decide +kernel
theorem d1_4 : decode prog_51_method_1_code 4 = .ok (.aload_n 0, 1) := by decide +kernel
theorem d1_5 : decode prog_51_method_1_code 5 = .ok (.iload_n 2, 1) := by decide +kernel
theorem d1_6 : decode prog_51_method_1_code 6 = .ok (.newarray .int, 2) := by decide +kernel
theorem d1_8 : decode prog_51_method_1_code 8 = .ok (.putfield 7, 3) := by decide +kernel
theorem d1_11 : decode prog_51_method_1_code 11 = .ok (.aload_n 0, 1) := by decide +kernel
theorem d1_12 : decode prog_51_method_1_code 12 = .ok (.iload_n 2, 1) := by decide +kernel
theorem d1_13 : decode prog_51_method_1_code 13 = .ok (.newarray .int, 2) := by decide +kernel
theorem d1_15 : decode prog_51_method_1_code 15 = .ok (.putfield 13, 3) := by decide +kernel
theorem d1_18 : decode prog_51_method_1_code 18 = .ok (.aload_n 0, 1) := by decide +kernel
theorem d1_19 : decode prog_51_method_1_code 19 = .ok (.iload_n 2, 1) := by decide +kernel
theorem d1_20 : decode prog_51_method_1_code 20 = .ok (.newarray .int, 2) := by decide +kernel
theorem d1_22 : decode prog_51_method_1_code 22 = .ok (.putfield 16, 3) := by decide +kernel
theorem d1_25 : decode prog_51_method_1_code 25 = .ok (.aload_n 0, 1) := by decide +kernel
theorem d1_26 : decode prog_51_method_1_code 26 = .ok (.iload_n 2, 1) := by decide +kernel
theorem d1_27 : decode prog_51_method_1_code 27 = .ok (.newarray .int, 2) := by decide +kernel
theorem d1_29 : decode prog_51_method_1_code 29 = .ok (.putfield 19, 3) := by decide +kernel
theorem d1_32 : decode prog_51_method_1_code 32 = .ok (.aload_n 0, 1) := by decide +kernel
theorem d1_33 : decode prog_51_method_1_code 33 = .ok (.iload_n 2, 1) := by decide +kernel
theorem d1_34 : decode prog_51_method_1_code 34 = .ok (.newarray .int, 2) := by decide +kernel
theorem d1_36 : decode prog_51_method_1_code 36 = .ok (.putfield 22, 3) := by decide +kernel
theorem d1_39 : decode prog_51_method_1_code 39 = .ok (.aload_n 0, 1) := by decide +kernel
theorem d1_40 : decode prog_51_method_1_code 40 = .ok (.iload_n 2, 1) := by decide +kernel
theorem d1_41 : decode prog_51_method_1_code 41 = .ok (.newarray .int, 2) := by decide +kernel
theorem d1_43 : decode prog_51_method_1_code 43 = .ok (.putfield 25, 3) := by decide +kernel
theorem d1_46 : decode prog_51_method_1_code 46 = .ok (.aload_n 0, 1) := by decide +kernel
theorem d1_47 : decode prog_51_method_1_code 47 = .ok (.iload_n 2, 1) := by decide +kernel
theorem d1_48 : decode prog_51_method_1_code 48 = .ok (.newarray .int, 2) := by decide +kernel
theorem d1_50 : decode prog_51_method_1_code 50 = .ok (.putfield 28, 3) := by decide +kernel
theorem d1_53 : decode prog_51_method_1_code 53 = .ok (.aload_n 0, 1) := by decide +kernel
theorem d1_54 : decode prog_51_method_1_code 54 = .ok (.iload_n 1, 1) := by decide +kernel
theorem d1_55 : decode prog_51_method_1_code 55 = .ok (.newarray .int, 2) := by decide +kernel
theorem d1_57 : decode prog_51_method_1_code 57 = .ok (.putfield 31, 3) := by decide +kernel
theorem d1_60 : decode prog_51_method_1_code 60 = .ok (.aload_n 0, 1) := by decide +kernel
theorem d1_61 : decode prog_51_method_1_code 61 = .ok (.iload_n 1, 1) := by decide +kernel
theorem d1_62 : decode prog_51_method_1_code 62 = .ok (.newarray .int, 2) := by decide +kernel
theorem d1_64 : decode prog_51_method_1_code 64 = .ok (.putfield 34, 3) := by decide +kernel
theorem d1_67 : decode prog_51_method_1_code 67 = .ok (.aload_n 0, 1) := by decide +kernel
theorem d1_68 : decode prog_51_method_1_code 68 = .ok (.iload_n 1, 1) := by decide +kernel
theorem d1_69 : decode prog_51_method_1_code 69 = .ok (.newarray .int, 2) := by decide +kernel
theorem d1_71 : decode prog_51_method_1_code 71 = .ok (.putfield 37, 3) := by decide +kernel
theorem d1_74 : decode prog_51_method_1_code 74 = .ok (.aload_n 0, 1) := by decide +kernel
theorem d1_75 : decode prog_51_method_1_code 75 = .ok (.getfield 31, 3) := by decide +kernel
theorem d1_78 : decode prog_51_method_1_code 78 = .ok (.iconst (-1), 1) := by decide +kernel
theorem d1_79 : decode prog_51_method_1_code 79 = .ok (.invokestatic 40, 3) := by decide +kernel
theorem pd_36457671 : parseMethodDescriptor "([II)V" = some ⟨[(.array .int), .int], none⟩ := by decide +kernel
theorem d1_82 : decode prog_51_method_1_code 82 = .ok (.aload_n 0, 1) := by decide +kernel
theorem d1_83 : decode prog_51_method_1_code 83 = .ok (.getfield 34, 3) := by decide +kernel
theorem d1_86 : decode prog_51_method_1_code 86 = .ok (.iconst (-1), 1) := by decide +kernel
theorem d1_87 : decode prog_51_method_1_code 87 = .ok (.invokestatic 40, 3) := by decide +kernel
theorem d1_90 : decode prog_51_method_1_code 90 = .ok (.aload_n 0, 1) := by decide +kernel
theorem d1_91 : decode prog_51_method_1_code 91 = .ok (.iload_n 2, 1) := by decide +kernel
theorem d1_92 : decode prog_51_method_1_code 92 = .ok (.newarray .int, 2) := by decide +kernel
theorem d1_94 : decode prog_51_method_1_code 94 = .ok (.putfield 46, 3) := by decide +kernel
theorem d1_97 : decode prog_51_method_1_code 97 = .ok (.aload_n 0, 1) := by decide +kernel
theorem d1_98 : decode prog_51_method_1_code 98 = .ok (.iload_n 2, 1) := by decide +kernel
theorem d1_99 : decode prog_51_method_1_code 99 = .ok (.newarray .int, 2) := by decide +kernel
theorem d1_101 : decode prog_51_method_1_code 101 = .ok (.putfield 49, 3) := by decide +kernel
theorem d1_104 : decode prog_51_method_1_code 104 = .ok (.aload_n 0, 1) := by decide +kernel
theorem d1_105 : decode prog_51_method_1_code 105 = .ok (.iload_n 2, 1) := by decide +kernel
theorem d1_106 : decode prog_51_method_1_code 106 = .ok (.newarray .int, 2) := by decide +kernel
theorem d1_108 : decode prog_51_method_1_code 108 = .ok (.putfield 52, 3) := by decide +kernel
theorem d1_111 : decode prog_51_method_1_code 111 = .ok (.aload_n 0, 1) := by decide +kernel
theorem d1_112 : decode prog_51_method_1_code 112 = .ok (.getfield 46, 3) := by decide +kernel
theorem d1_115 : decode prog_51_method_1_code 115 = .ok (.iconst (-1), 1) := by decide +kernel
theorem d1_116 : decode prog_51_method_1_code 116 = .ok (.invokestatic 40, 3) := by decide +kernel
theorem d1_119 : decode prog_51_method_1_code 119 = .ok (.return_, 1) := by decide +kernel
theorem pn_90945715 : plainName "com/example/bisimulation/bisimulation/lts/Exits" = true := by first | (simp [plainName, overriddenIn]; done) | decide +kernel
theorem ef_1 (m : MethodId) (b0 : Addr) : entryFrame m #[(.ref b0), (.int (2 : Int32)), (.int (4 : Int32))] 3 = mkF m 0 #[.val (.ref b0), .val (.int (2 : Int32)), .val (.int (4 : Int32))] [] := by first | (simp [entryFrame, mkF, argsToLocals, Value.category]; done) | rfl
def Q1 (Z : State) (b0 : Addr) (h0 : Heap) (n0 : Nat) (v : Option Value) (h : Heap) (L : List Loc) : Prop := ∃ w0 w1 w2 w3 w4 w5 w6 w7 w8 w9 w10 w11 w12, v = none ∧ Fr n0 L ∧ Keep h0 h [b0] ∧ Exa Z h b0 "com/example/bisimulation/bisimulation/lts/Exits" ∧ Fld Z h b0 "com/example/bisimulation/bisimulation/lts/Exits" "blockOf" "[I" (.ref w0) ∧ Fld Z h b0 "com/example/bisimulation/bisimulation/lts/Exits" "labelOf" "[I" (.ref w1) ∧ Fld Z h b0 "com/example/bisimulation/bisimulation/lts/Exits" "coarseOf" "[I" (.ref w2) ∧ Fld Z h b0 "com/example/bisimulation/bisimulation/lts/Exits" "firstMember" "[I" (.ref w3) ∧ Fld Z h b0 "com/example/bisimulation/bisimulation/lts/Exits" "nextExit" "[I" (.ref w4) ∧ Fld Z h b0 "com/example/bisimulation/bisimulation/lts/Exits" "previousExit" "[I" (.ref w5) ∧ Fld Z h b0 "com/example/bisimulation/bisimulation/lts/Exits" "freeExits" "[I" (.ref w6) ∧ Fld Z h b0 "com/example/bisimulation/bisimulation/lts/Exits" "firstExit" "[I" (.ref w7) ∧ Fld Z h b0 "com/example/bisimulation/bisimulation/lts/Exits" "lastExit" "[I" (.ref w8) ∧ Fld Z h b0 "com/example/bisimulation/bisimulation/lts/Exits" "exitCount" "[I" (.ref w9) ∧ Fld Z h b0 "com/example/bisimulation/bisimulation/lts/Exits" "exitOfCounter" "[I" (.ref w10) ∧ Fld Z h b0 "com/example/bisimulation/bisimulation/lts/Exits" "nextMember" "[I" (.ref w11) ∧ Fld Z h b0 "com/example/bisimulation/bisimulation/lts/Exits" "previousMember" "[I" (.ref w12) ∧ Fld Z h b0 "com/example/bisimulation/bisimulation/lts/Exits" "freeCount" "I" (.int (0 : Int32)) ∧ Fld Z h b0 "com/example/bisimulation/bisimulation/lts/Exits" "limit" "I" (.int (0 : Int32)) ∧ Ba Z h w0 .int 4 (fun _ => 0) ∧ Ba Z h w1 .int 4 (fun _ => 0) ∧ Ba Z h w2 .int 4 (fun _ => 0) ∧ Ba Z h w3 .int 4 (fun _ => 0) ∧ Ba Z h w4 .int 4 (fun _ => 0) ∧ Ba Z h w5 .int 4 (fun _ => 0) ∧ Ba Z h w6 .int 4 (fun _ => 0) ∧ Ba Z h w7 .int 2 (fun _ => (-1 : Int32)) ∧ Ba Z h w8 .int 2 (fun _ => (-1 : Int32)) ∧ Ba Z h w9 .int 2 (fun _ => 0) ∧ Ba Z h w10 .int 4 (fun _ => (-1 : Int32)) ∧ Ba Z h w11 .int 4 (fun _ => 0) ∧ Ba Z h w12 .int 4 (fun _ => 0) ∧ h0.size ≤ w0 ∧ w0 < w1 ∧ w1 < w2 ∧ w2 < w3 ∧ w3 < w4 ∧ w4 < w5 ∧ w5 < w6 ∧ w6 < w7 ∧ w7 < w8 ∧ w8 < w9 ∧ w9 < w10 ∧ w10 < w11 ∧ w11 < w12
set_option maxRecDepth 65536 in
set_option maxHeartbeats 40000000 in
theorem rm1 (l : Launch) (Z : State) (a0 : Array Value) (hw : ∀ d ∈ tables_1, d.before a0 Z = true) (ws : List Jvm.Cond) (b0 : Addr) (h0 : Heap) (n0 : Nat) (Z0 : n0 ≤ h0.size) (E_b0 : Exa Z h0 b0 "com/example/bisimulation/bisimulation/lts/Exits") (F_b0_blockOf : Fld Z h0 b0 "com/example/bisimulation/bisimulation/lts/Exits" "blockOf" "[I" .null) (F_b0_labelOf : Fld Z h0 b0 "com/example/bisimulation/bisimulation/lts/Exits" "labelOf" "[I" .null) (F_b0_coarseOf : Fld Z h0 b0 "com/example/bisimulation/bisimulation/lts/Exits" "coarseOf" "[I" .null) (F_b0_firstMember : Fld Z h0 b0 "com/example/bisimulation/bisimulation/lts/Exits" "firstMember" "[I" .null) (F_b0_nextExit : Fld Z h0 b0 "com/example/bisimulation/bisimulation/lts/Exits" "nextExit" "[I" .null) (F_b0_previousExit : Fld Z h0 b0 "com/example/bisimulation/bisimulation/lts/Exits" "previousExit" "[I" .null) (F_b0_freeExits : Fld Z h0 b0 "com/example/bisimulation/bisimulation/lts/Exits" "freeExits" "[I" .null) (F_b0_firstExit : Fld Z h0 b0 "com/example/bisimulation/bisimulation/lts/Exits" "firstExit" "[I" .null) (F_b0_lastExit : Fld Z h0 b0 "com/example/bisimulation/bisimulation/lts/Exits" "lastExit" "[I" .null) (F_b0_exitCount : Fld Z h0 b0 "com/example/bisimulation/bisimulation/lts/Exits" "exitCount" "[I" .null) (F_b0_exitOfCounter : Fld Z h0 b0 "com/example/bisimulation/bisimulation/lts/Exits" "exitOfCounter" "[I" .null) (F_b0_nextMember : Fld Z h0 b0 "com/example/bisimulation/bisimulation/lts/Exits" "nextMember" "[I" .null) (F_b0_previousMember : Fld Z h0 b0 "com/example/bisimulation/bisimulation/lts/Exits" "previousMember" "[I" .null) (F_b0_freeCount : Fld Z h0 b0 "com/example/bisimulation/bisimulation/lts/Exits" "freeCount" "I" (.int (0 : Int32))) (F_b0_limit : Fld Z h0 b0 "com/example/bisimulation/bisimulation/lts/Exits" "limit" "I" (.int (0 : Int32))) (g_b0 : n0 ≤ b0) :
    MetFree l (⟨"com/example/bisimulation/bisimulation/lts/Exits", "<init>", "(II)V"⟩ : MethodName) (head1 (Jvm.Cond.code (⟨"com/example/bisimulation/bisimulation/lts/Exits", "<init>", "(II)V"⟩ : MethodName) prog_51_method_1_code 3 none :: ws) ({ frames := 1, cells := 13, slots := 46, locals := 15 } : Room)) (fun a U => a = #[(.ref b0), (.int (2 : Int32)), (.int (4 : Int32))] ∧ Z.Warmed39 U.vm ∧ U.heap = h0) (fun _ _ _ _ _ => True) (fun _ U o U' => ∃ v L, o = .returned v ∧ Q1 Z b0 h0 n0 v U'.heap L ∧ FrameEnd U o U' L ({ frames := 1, cells := 13, slots := 46, locals := 15 } : Room).cells ({ frames := 1, cells := 13, slots := 46, locals := 15 } : Room).slots) := by
  refine MetFree.of_bodySF (plainFor_of_name pn_90945715) hisR ?_
  intro p e s m args below meth c s₁ Bd hml0 hP hK
  obtain ⟨rfl, hZ, hh⟩ := hP
  have C : Ctx p s m meth c Z "com/example/bisimulation/bisimulation/lts/Exits" "<init>" prog_51_method_1_code 3 none := Ctx.of Bd hml0 hZ
  have X0 : Stand p l e ({ frames := 1, cells := 13, slots := 46, locals := 15 } : Room) s m #[(.ref b0), (.int (2 : Int32)), (.int (4 : Int32))] below meth c s₁ [] 0 0 := Stand.of_body Bd
  have e0 : s₁.heap = h0 := by rw [← hh, Bd.state]; rfl
  have N0 := Fr.nil n0
  refine Goes.enter (ef_1 m b0) ?_
  clear hK hml0 hh
  refine g_aloadN 1 rfl C X0 d1_0 rfl rfl ?_
  refine g_initO 4 rfl C X0 (hw _ (List.mem_of_getElem? (i := 6) rfl)) (hw _ (List.mem_of_getElem? (i := 7) rfl)) (hw _ (List.mem_of_getElem? (i := 8) rfl)) e0 d1_1 rfl (by decide) (W := 0) (Nat.le_of_eq rfl) (by decide) fun T1 X2 e3 => ?_
  refine g_aloadN 5 rfl C X2 d1_4 rfl rfl ?_
  refine g_iloadN 6 rfl C X2 d1_5 rfl ?_
  refine g_newP 8 rfl C X2 4 (by decide) 4 (by decide) (by decide) rfl (hw _ (List.mem_of_getElem? (i := 9) rfl)) e3 d1_6 (by decide) (by decide) fun T4 h5 o6 g7 X8 e9 E10 B11 => ?_
  have ne12 : b0 ≠ o6 := by rw [g7]; exact Nat.ne_of_lt E_b0.lt
  have gn13 : n0 ≤ o6 := by rw [g7]; exact Z0
  have sz14 : h0.size ≤ o6 := by rw [g7]; exact (Keep.refl h0 [b0]).1
  have F15 := E_b0.ext E10
  have F16 := F_b0_blockOf.ext E10
  have F17 := F_b0_labelOf.ext E10
  have F18 := F_b0_coarseOf.ext E10
  have F19 := F_b0_firstMember.ext E10
  have F20 := F_b0_nextExit.ext E10
  have F21 := F_b0_previousExit.ext E10
  have F22 := F_b0_freeExits.ext E10
  have F23 := F_b0_firstExit.ext E10
  have F24 := F_b0_lastExit.ext E10
  have F25 := F_b0_exitCount.ext E10
  have F26 := F_b0_exitOfCounter.ext E10
  have F27 := F_b0_nextMember.ext E10
  have F28 := F_b0_previousMember.ext E10
  have F29 := F_b0_freeCount.ext E10
  have F30 := F_b0_limit.ext E10
  have Zs31 := Nat.le_trans Z0 E10.1
  have Kp32 : Keep h0 h5 [b0] := (Keep.refl h0 [b0]).ext E10
  refine g_putF 11 rfl C X8 (host := "") (Or.inl (hw _ (List.mem_of_getElem? (i := 10) rfl))) Via.refl e9 F16 F15 (Or.inr ⟨(hw _ (List.mem_of_getElem? (i := 11) rfl)), rfl, rfl⟩) (hw _ (List.mem_of_getElem? (i := 1) rfl)) (ty := (.array .int)) (by decide) rfl rfl d1_8 N0 g_b0 fun T33 h34 ls35 X36 e37 W38 N39 => ?_
  have F40 : Fld Z h34 b0 "com/example/bisimulation/bisimulation/lts/Exits" "blockOf" "[I" (.ref o6) := F16.same W38
  have F41 := F15.wr W38
  have F42 := F17.other W38 (Or.inr (slot_ne (Or.inr (hw _ (List.mem_of_getElem? (i := 13) rfl))) (Or.inr (hw _ (List.mem_of_getElem? (i := 11) rfl))) (by decide) (t := (.array .int)) (t' := (.array .int)) (by decide) (by decide)))
  have F43 := F18.other W38 (Or.inr (slot_ne (Or.inr (hw _ (List.mem_of_getElem? (i := 15) rfl))) (Or.inr (hw _ (List.mem_of_getElem? (i := 11) rfl))) (by decide) (t := (.array .int)) (t' := (.array .int)) (by decide) (by decide)))
  have F44 := F19.other W38 (Or.inr (slot_ne (Or.inr (hw _ (List.mem_of_getElem? (i := 17) rfl))) (Or.inr (hw _ (List.mem_of_getElem? (i := 11) rfl))) (by decide) (t := (.array .int)) (t' := (.array .int)) (by decide) (by decide)))
  have F45 := F20.other W38 (Or.inr (slot_ne (Or.inr (hw _ (List.mem_of_getElem? (i := 19) rfl))) (Or.inr (hw _ (List.mem_of_getElem? (i := 11) rfl))) (by decide) (t := (.array .int)) (t' := (.array .int)) (by decide) (by decide)))
  have F46 := F21.other W38 (Or.inr (slot_ne (Or.inr (hw _ (List.mem_of_getElem? (i := 21) rfl))) (Or.inr (hw _ (List.mem_of_getElem? (i := 11) rfl))) (by decide) (t := (.array .int)) (t' := (.array .int)) (by decide) (by decide)))
  have F47 := F22.other W38 (Or.inr (slot_ne (Or.inr (hw _ (List.mem_of_getElem? (i := 23) rfl))) (Or.inr (hw _ (List.mem_of_getElem? (i := 11) rfl))) (by decide) (t := (.array .int)) (t' := (.array .int)) (by decide) (by decide)))
  have F48 := F23.other W38 (Or.inr (slot_ne (Or.inr (hw _ (List.mem_of_getElem? (i := 25) rfl))) (Or.inr (hw _ (List.mem_of_getElem? (i := 11) rfl))) (by decide) (t := (.array .int)) (t' := (.array .int)) (by decide) (by decide)))
  have F49 := F24.other W38 (Or.inr (slot_ne (Or.inr (hw _ (List.mem_of_getElem? (i := 27) rfl))) (Or.inr (hw _ (List.mem_of_getElem? (i := 11) rfl))) (by decide) (t := (.array .int)) (t' := (.array .int)) (by decide) (by decide)))
  have F50 := F25.other W38 (Or.inr (slot_ne (Or.inr (hw _ (List.mem_of_getElem? (i := 29) rfl))) (Or.inr (hw _ (List.mem_of_getElem? (i := 11) rfl))) (by decide) (t := (.array .int)) (t' := (.array .int)) (by decide) (by decide)))
  have F51 := F26.other W38 (Or.inr (slot_ne (Or.inr (hw _ (List.mem_of_getElem? (i := 35) rfl))) (Or.inr (hw _ (List.mem_of_getElem? (i := 11) rfl))) (by decide) (t := (.array .int)) (t' := (.array .int)) (by decide) (by decide)))
  have F52 := F27.other W38 (Or.inr (slot_ne (Or.inr (hw _ (List.mem_of_getElem? (i := 37) rfl))) (Or.inr (hw _ (List.mem_of_getElem? (i := 11) rfl))) (by decide) (t := (.array .int)) (t' := (.array .int)) (by decide) (by decide)))
  have F53 := F28.other W38 (Or.inr (slot_ne (Or.inr (hw _ (List.mem_of_getElem? (i := 39) rfl))) (Or.inr (hw _ (List.mem_of_getElem? (i := 11) rfl))) (by decide) (t := (.array .int)) (t' := (.array .int)) (by decide) (by decide)))
  have F54 := F29.other W38 (Or.inr (slot_ne (Or.inl (hw _ (List.mem_of_getElem? (i := 46) rfl))) (Or.inr (hw _ (List.mem_of_getElem? (i := 11) rfl))) (by decide) (t := .int) (t' := (.array .int)) (by decide) (by decide)))
  have F55 := F30.other W38 (Or.inr (slot_ne (Or.inl (hw _ (List.mem_of_getElem? (i := 48) rfl))) (Or.inr (hw _ (List.mem_of_getElem? (i := 11) rfl))) (by decide) (t := .int) (t' := (.array .int)) (by decide) (by decide)))
  have F56 := B11.other W38 (Ne.symm ne12)
  have Zs57 := Nat.le_trans Zs31 (Nat.le_of_eq W38.size.symm)
  have Kp58 : Keep h0 h34 [b0] := Kp32.wr W38 (Or.inl (List.mem_of_getElem? (i := 0) rfl))
  refine g_aloadN 12 rfl C X36 d1_11 rfl rfl ?_
  refine g_iloadN 13 rfl C X36 d1_12 rfl ?_
  refine g_newP 15 rfl C X36 4 (by decide) 4 (by decide) (by decide) rfl (hw _ (List.mem_of_getElem? (i := 9) rfl)) e37 d1_13 (by decide) (by decide) fun T59 h60 o61 g62 X63 e64 E65 B66 => ?_
  have lf67 := F56.lt
  have ne68 : b0 ≠ o61 := by rw [g62]; exact Nat.ne_of_lt F41.lt
  have ne69 : o6 ≠ o61 := by rw [g62]; exact Nat.ne_of_lt F56.lt
  have gn70 : n0 ≤ o61 := by rw [g62]; exact Zs57
  have sz71 : h0.size ≤ o61 := by rw [g62]; exact Kp58.1
  have F72 := F41.ext E65
  have F73 := F40.ext E65
  have F74 := F42.ext E65
  have F75 := F43.ext E65
  have F76 := F44.ext E65
  have F77 := F45.ext E65
  have F78 := F46.ext E65
  have F79 := F47.ext E65
  have F80 := F48.ext E65
  have F81 := F49.ext E65
  have F82 := F50.ext E65
  have F83 := F51.ext E65
  have F84 := F52.ext E65
  have F85 := F53.ext E65
  have F86 := F54.ext E65
  have F87 := F55.ext E65
  have F88 := F56.ext E65
  have Zs89 := Nat.le_trans Zs57 E65.1
  have Kp90 : Keep h0 h60 [b0] := Kp58.ext E65
  refine g_putF 18 rfl C X63 (host := "") (Or.inl (hw _ (List.mem_of_getElem? (i := 12) rfl))) Via.refl e64 F74 F72 (Or.inr ⟨(hw _ (List.mem_of_getElem? (i := 13) rfl)), rfl, rfl⟩) (hw _ (List.mem_of_getElem? (i := 1) rfl)) (ty := (.array .int)) (by decide) rfl rfl d1_15 N39 g_b0 fun T91 h92 ls93 X94 e95 W96 N97 => ?_
  have F98 : Fld Z h92 b0 "com/example/bisimulation/bisimulation/lts/Exits" "labelOf" "[I" (.ref o61) := F74.same W96
  have F99 := F72.wr W96
  have F100 := F73.other W96 (Or.inr (slot_ne (Or.inr (hw _ (List.mem_of_getElem? (i := 11) rfl))) (Or.inr (hw _ (List.mem_of_getElem? (i := 13) rfl))) (by decide) (t := (.array .int)) (t' := (.array .int)) (by decide) (by decide)))
  have F101 := F75.other W96 (Or.inr (slot_ne (Or.inr (hw _ (List.mem_of_getElem? (i := 15) rfl))) (Or.inr (hw _ (List.mem_of_getElem? (i := 13) rfl))) (by decide) (t := (.array .int)) (t' := (.array .int)) (by decide) (by decide)))
  have F102 := F76.other W96 (Or.inr (slot_ne (Or.inr (hw _ (List.mem_of_getElem? (i := 17) rfl))) (Or.inr (hw _ (List.mem_of_getElem? (i := 13) rfl))) (by decide) (t := (.array .int)) (t' := (.array .int)) (by decide) (by decide)))
  have F103 := F77.other W96 (Or.inr (slot_ne (Or.inr (hw _ (List.mem_of_getElem? (i := 19) rfl))) (Or.inr (hw _ (List.mem_of_getElem? (i := 13) rfl))) (by decide) (t := (.array .int)) (t' := (.array .int)) (by decide) (by decide)))
  have F104 := F78.other W96 (Or.inr (slot_ne (Or.inr (hw _ (List.mem_of_getElem? (i := 21) rfl))) (Or.inr (hw _ (List.mem_of_getElem? (i := 13) rfl))) (by decide) (t := (.array .int)) (t' := (.array .int)) (by decide) (by decide)))
  have F105 := F79.other W96 (Or.inr (slot_ne (Or.inr (hw _ (List.mem_of_getElem? (i := 23) rfl))) (Or.inr (hw _ (List.mem_of_getElem? (i := 13) rfl))) (by decide) (t := (.array .int)) (t' := (.array .int)) (by decide) (by decide)))
  have F106 := F80.other W96 (Or.inr (slot_ne (Or.inr (hw _ (List.mem_of_getElem? (i := 25) rfl))) (Or.inr (hw _ (List.mem_of_getElem? (i := 13) rfl))) (by decide) (t := (.array .int)) (t' := (.array .int)) (by decide) (by decide)))
  have F107 := F81.other W96 (Or.inr (slot_ne (Or.inr (hw _ (List.mem_of_getElem? (i := 27) rfl))) (Or.inr (hw _ (List.mem_of_getElem? (i := 13) rfl))) (by decide) (t := (.array .int)) (t' := (.array .int)) (by decide) (by decide)))
  have F108 := F82.other W96 (Or.inr (slot_ne (Or.inr (hw _ (List.mem_of_getElem? (i := 29) rfl))) (Or.inr (hw _ (List.mem_of_getElem? (i := 13) rfl))) (by decide) (t := (.array .int)) (t' := (.array .int)) (by decide) (by decide)))
  have F109 := F83.other W96 (Or.inr (slot_ne (Or.inr (hw _ (List.mem_of_getElem? (i := 35) rfl))) (Or.inr (hw _ (List.mem_of_getElem? (i := 13) rfl))) (by decide) (t := (.array .int)) (t' := (.array .int)) (by decide) (by decide)))
  have F110 := F84.other W96 (Or.inr (slot_ne (Or.inr (hw _ (List.mem_of_getElem? (i := 37) rfl))) (Or.inr (hw _ (List.mem_of_getElem? (i := 13) rfl))) (by decide) (t := (.array .int)) (t' := (.array .int)) (by decide) (by decide)))
  have F111 := F85.other W96 (Or.inr (slot_ne (Or.inr (hw _ (List.mem_of_getElem? (i := 39) rfl))) (Or.inr (hw _ (List.mem_of_getElem? (i := 13) rfl))) (by decide) (t := (.array .int)) (t' := (.array .int)) (by decide) (by decide)))
  have F112 := F86.other W96 (Or.inr (slot_ne (Or.inl (hw _ (List.mem_of_getElem? (i := 46) rfl))) (Or.inr (hw _ (List.mem_of_getElem? (i := 13) rfl))) (by decide) (t := .int) (t' := (.array .int)) (by decide) (by decide)))
  have F113 := F87.other W96 (Or.inr (slot_ne (Or.inl (hw _ (List.mem_of_getElem? (i := 48) rfl))) (Or.inr (hw _ (List.mem_of_getElem? (i := 13) rfl))) (by decide) (t := .int) (t' := (.array .int)) (by decide) (by decide)))
  have F114 := F88.other W96 (Ne.symm ne12)
  have F115 := B66.other W96 (Ne.symm ne68)
  have Zs116 := Nat.le_trans Zs89 (Nat.le_of_eq W96.size.symm)
  have Kp117 : Keep h0 h92 [b0] := Kp90.wr W96 (Or.inl (List.mem_of_getElem? (i := 0) rfl))
  refine g_aloadN 19 rfl C X94 d1_18 rfl rfl ?_
  refine g_iloadN 20 rfl C X94 d1_19 rfl ?_
  refine g_newP 22 rfl C X94 4 (by decide) 4 (by decide) (by decide) rfl (hw _ (List.mem_of_getElem? (i := 9) rfl)) e95 d1_20 (by decide) (by decide) fun T118 h119 o120 g121 X122 e123 E124 B125 => ?_
  have lf126 := F115.lt
  have ne127 : b0 ≠ o120 := by rw [g121]; exact Nat.ne_of_lt F99.lt
  have ne128 : o6 ≠ o120 := by rw [g121]; exact Nat.ne_of_lt F114.lt
  have ne129 : o61 ≠ o120 := by rw [g121]; exact Nat.ne_of_lt F115.lt
  have gn130 : n0 ≤ o120 := by rw [g121]; exact Zs116
  have sz131 : h0.size ≤ o120 := by rw [g121]; exact Kp117.1
  have F132 := F99.ext E124
  have F133 := F100.ext E124
  have F134 := F98.ext E124
  have F135 := F101.ext E124
  have F136 := F102.ext E124
  have F137 := F103.ext E124
  have F138 := F104.ext E124
  have F139 := F105.ext E124
  have F140 := F106.ext E124
  have F141 := F107.ext E124
  have F142 := F108.ext E124
  have F143 := F109.ext E124
  have F144 := F110.ext E124
  have F145 := F111.ext E124
  have F146 := F112.ext E124
  have F147 := F113.ext E124
  have F148 := F114.ext E124
  have F149 := F115.ext E124
  have Zs150 := Nat.le_trans Zs116 E124.1
  have Kp151 : Keep h0 h119 [b0] := Kp117.ext E124
  refine g_putF 25 rfl C X122 (host := "") (Or.inl (hw _ (List.mem_of_getElem? (i := 14) rfl))) Via.refl e123 F135 F132 (Or.inr ⟨(hw _ (List.mem_of_getElem? (i := 15) rfl)), rfl, rfl⟩) (hw _ (List.mem_of_getElem? (i := 1) rfl)) (ty := (.array .int)) (by decide) rfl rfl d1_22 N97 g_b0 fun T152 h153 ls154 X155 e156 W157 N158 => ?_
  have F159 : Fld Z h153 b0 "com/example/bisimulation/bisimulation/lts/Exits" "coarseOf" "[I" (.ref o120) := F135.same W157
  have F160 := F132.wr W157
  have F161 := F133.other W157 (Or.inr (slot_ne (Or.inr (hw _ (List.mem_of_getElem? (i := 11) rfl))) (Or.inr (hw _ (List.mem_of_getElem? (i := 15) rfl))) (by decide) (t := (.array .int)) (t' := (.array .int)) (by decide) (by decide)))
  have F162 := F134.other W157 (Or.inr (slot_ne (Or.inr (hw _ (List.mem_of_getElem? (i := 13) rfl))) (Or.inr (hw _ (List.mem_of_getElem? (i := 15) rfl))) (by decide) (t := (.array .int)) (t' := (.array .int)) (by decide) (by decide)))
  have F163 := F136.other W157 (Or.inr (slot_ne (Or.inr (hw _ (List.mem_of_getElem? (i := 17) rfl))) (Or.inr (hw _ (List.mem_of_getElem? (i := 15) rfl))) (by decide) (t := (.array .int)) (t' := (.array .int)) (by decide) (by decide)))
  have F164 := F137.other W157 (Or.inr (slot_ne (Or.inr (hw _ (List.mem_of_getElem? (i := 19) rfl))) (Or.inr (hw _ (List.mem_of_getElem? (i := 15) rfl))) (by decide) (t := (.array .int)) (t' := (.array .int)) (by decide) (by decide)))
  have F165 := F138.other W157 (Or.inr (slot_ne (Or.inr (hw _ (List.mem_of_getElem? (i := 21) rfl))) (Or.inr (hw _ (List.mem_of_getElem? (i := 15) rfl))) (by decide) (t := (.array .int)) (t' := (.array .int)) (by decide) (by decide)))
  have F166 := F139.other W157 (Or.inr (slot_ne (Or.inr (hw _ (List.mem_of_getElem? (i := 23) rfl))) (Or.inr (hw _ (List.mem_of_getElem? (i := 15) rfl))) (by decide) (t := (.array .int)) (t' := (.array .int)) (by decide) (by decide)))
  have F167 := F140.other W157 (Or.inr (slot_ne (Or.inr (hw _ (List.mem_of_getElem? (i := 25) rfl))) (Or.inr (hw _ (List.mem_of_getElem? (i := 15) rfl))) (by decide) (t := (.array .int)) (t' := (.array .int)) (by decide) (by decide)))
  have F168 := F141.other W157 (Or.inr (slot_ne (Or.inr (hw _ (List.mem_of_getElem? (i := 27) rfl))) (Or.inr (hw _ (List.mem_of_getElem? (i := 15) rfl))) (by decide) (t := (.array .int)) (t' := (.array .int)) (by decide) (by decide)))
  have F169 := F142.other W157 (Or.inr (slot_ne (Or.inr (hw _ (List.mem_of_getElem? (i := 29) rfl))) (Or.inr (hw _ (List.mem_of_getElem? (i := 15) rfl))) (by decide) (t := (.array .int)) (t' := (.array .int)) (by decide) (by decide)))
  have F170 := F143.other W157 (Or.inr (slot_ne (Or.inr (hw _ (List.mem_of_getElem? (i := 35) rfl))) (Or.inr (hw _ (List.mem_of_getElem? (i := 15) rfl))) (by decide) (t := (.array .int)) (t' := (.array .int)) (by decide) (by decide)))
  have F171 := F144.other W157 (Or.inr (slot_ne (Or.inr (hw _ (List.mem_of_getElem? (i := 37) rfl))) (Or.inr (hw _ (List.mem_of_getElem? (i := 15) rfl))) (by decide) (t := (.array .int)) (t' := (.array .int)) (by decide) (by decide)))
  have F172 := F145.other W157 (Or.inr (slot_ne (Or.inr (hw _ (List.mem_of_getElem? (i := 39) rfl))) (Or.inr (hw _ (List.mem_of_getElem? (i := 15) rfl))) (by decide) (t := (.array .int)) (t' := (.array .int)) (by decide) (by decide)))
  have F173 := F146.other W157 (Or.inr (slot_ne (Or.inl (hw _ (List.mem_of_getElem? (i := 46) rfl))) (Or.inr (hw _ (List.mem_of_getElem? (i := 15) rfl))) (by decide) (t := .int) (t' := (.array .int)) (by decide) (by decide)))
  have F174 := F147.other W157 (Or.inr (slot_ne (Or.inl (hw _ (List.mem_of_getElem? (i := 48) rfl))) (Or.inr (hw _ (List.mem_of_getElem? (i := 15) rfl))) (by decide) (t := .int) (t' := (.array .int)) (by decide) (by decide)))
  have F175 := F148.other W157 (Ne.symm ne12)
  have F176 := F149.other W157 (Ne.symm ne68)
  have F177 := B125.other W157 (Ne.symm ne127)
  have Zs178 := Nat.le_trans Zs150 (Nat.le_of_eq W157.size.symm)
  have Kp179 : Keep h0 h153 [b0] := Kp151.wr W157 (Or.inl (List.mem_of_getElem? (i := 0) rfl))
  refine g_aloadN 26 rfl C X155 d1_25 rfl rfl ?_
  refine g_iloadN 27 rfl C X155 d1_26 rfl ?_
  refine g_newP 29 rfl C X155 4 (by decide) 4 (by decide) (by decide) rfl (hw _ (List.mem_of_getElem? (i := 9) rfl)) e156 d1_27 (by decide) (by decide) fun T180 h181 o182 g183 X184 e185 E186 B187 => ?_
  have lf188 := F177.lt
  have ne189 : b0 ≠ o182 := by rw [g183]; exact Nat.ne_of_lt F160.lt
  have ne190 : o120 ≠ o182 := by rw [g183]; exact Nat.ne_of_lt F177.lt
  have ne191 : o6 ≠ o182 := by rw [g183]; exact Nat.ne_of_lt F175.lt
  have ne192 : o61 ≠ o182 := by rw [g183]; exact Nat.ne_of_lt F176.lt
  have gn193 : n0 ≤ o182 := by rw [g183]; exact Zs178
  have sz194 : h0.size ≤ o182 := by rw [g183]; exact Kp179.1
  have F195 := F160.ext E186
  have F196 := F161.ext E186
  have F197 := F162.ext E186
  have F198 := F159.ext E186
  have F199 := F163.ext E186
  have F200 := F164.ext E186
  have F201 := F165.ext E186
  have F202 := F166.ext E186
  have F203 := F167.ext E186
  have F204 := F168.ext E186
  have F205 := F169.ext E186
  have F206 := F170.ext E186
  have F207 := F171.ext E186
  have F208 := F172.ext E186
  have F209 := F173.ext E186
  have F210 := F174.ext E186
  have F211 := F175.ext E186
  have F212 := F176.ext E186
  have F213 := F177.ext E186
  have Zs214 := Nat.le_trans Zs178 E186.1
  have Kp215 : Keep h0 h181 [b0] := Kp179.ext E186
  refine g_putF 32 rfl C X184 (host := "") (Or.inl (hw _ (List.mem_of_getElem? (i := 16) rfl))) Via.refl e185 F199 F195 (Or.inr ⟨(hw _ (List.mem_of_getElem? (i := 17) rfl)), rfl, rfl⟩) (hw _ (List.mem_of_getElem? (i := 1) rfl)) (ty := (.array .int)) (by decide) rfl rfl d1_29 N158 g_b0 fun T216 h217 ls218 X219 e220 W221 N222 => ?_
  have F223 : Fld Z h217 b0 "com/example/bisimulation/bisimulation/lts/Exits" "firstMember" "[I" (.ref o182) := F199.same W221
  have F224 := F195.wr W221
  have F225 := F196.other W221 (Or.inr (slot_ne (Or.inr (hw _ (List.mem_of_getElem? (i := 11) rfl))) (Or.inr (hw _ (List.mem_of_getElem? (i := 17) rfl))) (by decide) (t := (.array .int)) (t' := (.array .int)) (by decide) (by decide)))
  have F226 := F197.other W221 (Or.inr (slot_ne (Or.inr (hw _ (List.mem_of_getElem? (i := 13) rfl))) (Or.inr (hw _ (List.mem_of_getElem? (i := 17) rfl))) (by decide) (t := (.array .int)) (t' := (.array .int)) (by decide) (by decide)))
  have F227 := F198.other W221 (Or.inr (slot_ne (Or.inr (hw _ (List.mem_of_getElem? (i := 15) rfl))) (Or.inr (hw _ (List.mem_of_getElem? (i := 17) rfl))) (by decide) (t := (.array .int)) (t' := (.array .int)) (by decide) (by decide)))
  have F228 := F200.other W221 (Or.inr (slot_ne (Or.inr (hw _ (List.mem_of_getElem? (i := 19) rfl))) (Or.inr (hw _ (List.mem_of_getElem? (i := 17) rfl))) (by decide) (t := (.array .int)) (t' := (.array .int)) (by decide) (by decide)))
  have F229 := F201.other W221 (Or.inr (slot_ne (Or.inr (hw _ (List.mem_of_getElem? (i := 21) rfl))) (Or.inr (hw _ (List.mem_of_getElem? (i := 17) rfl))) (by decide) (t := (.array .int)) (t' := (.array .int)) (by decide) (by decide)))
  have F230 := F202.other W221 (Or.inr (slot_ne (Or.inr (hw _ (List.mem_of_getElem? (i := 23) rfl))) (Or.inr (hw _ (List.mem_of_getElem? (i := 17) rfl))) (by decide) (t := (.array .int)) (t' := (.array .int)) (by decide) (by decide)))
  have F231 := F203.other W221 (Or.inr (slot_ne (Or.inr (hw _ (List.mem_of_getElem? (i := 25) rfl))) (Or.inr (hw _ (List.mem_of_getElem? (i := 17) rfl))) (by decide) (t := (.array .int)) (t' := (.array .int)) (by decide) (by decide)))
  have F232 := F204.other W221 (Or.inr (slot_ne (Or.inr (hw _ (List.mem_of_getElem? (i := 27) rfl))) (Or.inr (hw _ (List.mem_of_getElem? (i := 17) rfl))) (by decide) (t := (.array .int)) (t' := (.array .int)) (by decide) (by decide)))
  have F233 := F205.other W221 (Or.inr (slot_ne (Or.inr (hw _ (List.mem_of_getElem? (i := 29) rfl))) (Or.inr (hw _ (List.mem_of_getElem? (i := 17) rfl))) (by decide) (t := (.array .int)) (t' := (.array .int)) (by decide) (by decide)))
  have F234 := F206.other W221 (Or.inr (slot_ne (Or.inr (hw _ (List.mem_of_getElem? (i := 35) rfl))) (Or.inr (hw _ (List.mem_of_getElem? (i := 17) rfl))) (by decide) (t := (.array .int)) (t' := (.array .int)) (by decide) (by decide)))
  have F235 := F207.other W221 (Or.inr (slot_ne (Or.inr (hw _ (List.mem_of_getElem? (i := 37) rfl))) (Or.inr (hw _ (List.mem_of_getElem? (i := 17) rfl))) (by decide) (t := (.array .int)) (t' := (.array .int)) (by decide) (by decide)))
  have F236 := F208.other W221 (Or.inr (slot_ne (Or.inr (hw _ (List.mem_of_getElem? (i := 39) rfl))) (Or.inr (hw _ (List.mem_of_getElem? (i := 17) rfl))) (by decide) (t := (.array .int)) (t' := (.array .int)) (by decide) (by decide)))
  have F237 := F209.other W221 (Or.inr (slot_ne (Or.inl (hw _ (List.mem_of_getElem? (i := 46) rfl))) (Or.inr (hw _ (List.mem_of_getElem? (i := 17) rfl))) (by decide) (t := .int) (t' := (.array .int)) (by decide) (by decide)))
  have F238 := F210.other W221 (Or.inr (slot_ne (Or.inl (hw _ (List.mem_of_getElem? (i := 48) rfl))) (Or.inr (hw _ (List.mem_of_getElem? (i := 17) rfl))) (by decide) (t := .int) (t' := (.array .int)) (by decide) (by decide)))
  have F239 := F211.other W221 (Ne.symm ne12)
  have F240 := F212.other W221 (Ne.symm ne68)
  have F241 := F213.other W221 (Ne.symm ne127)
  have F242 := B187.other W221 (Ne.symm ne189)
  have Zs243 := Nat.le_trans Zs214 (Nat.le_of_eq W221.size.symm)
  have Kp244 : Keep h0 h217 [b0] := Kp215.wr W221 (Or.inl (List.mem_of_getElem? (i := 0) rfl))
  refine g_aloadN 33 rfl C X219 d1_32 rfl rfl ?_
  refine g_iloadN 34 rfl C X219 d1_33 rfl ?_
  refine g_newP 36 rfl C X219 4 (by decide) 4 (by decide) (by decide) rfl (hw _ (List.mem_of_getElem? (i := 9) rfl)) e220 d1_34 (by decide) (by decide) fun T245 h246 o247 g248 X249 e250 E251 B252 => ?_
  have lf253 := F242.lt
  have ne254 : b0 ≠ o247 := by rw [g248]; exact Nat.ne_of_lt F224.lt
  have ne255 : o120 ≠ o247 := by rw [g248]; exact Nat.ne_of_lt F241.lt
  have ne256 : o182 ≠ o247 := by rw [g248]; exact Nat.ne_of_lt F242.lt
  have ne257 : o6 ≠ o247 := by rw [g248]; exact Nat.ne_of_lt F239.lt
  have ne258 : o61 ≠ o247 := by rw [g248]; exact Nat.ne_of_lt F240.lt
  have gn259 : n0 ≤ o247 := by rw [g248]; exact Zs243
  have sz260 : h0.size ≤ o247 := by rw [g248]; exact Kp244.1
  have F261 := F224.ext E251
  have F262 := F225.ext E251
  have F263 := F226.ext E251
  have F264 := F227.ext E251
  have F265 := F223.ext E251
  have F266 := F228.ext E251
  have F267 := F229.ext E251
  have F268 := F230.ext E251
  have F269 := F231.ext E251
  have F270 := F232.ext E251
  have F271 := F233.ext E251
  have F272 := F234.ext E251
  have F273 := F235.ext E251
  have F274 := F236.ext E251
  have F275 := F237.ext E251
  have F276 := F238.ext E251
  have F277 := F239.ext E251
  have F278 := F240.ext E251
  have F279 := F241.ext E251
  have F280 := F242.ext E251
  have Zs281 := Nat.le_trans Zs243 E251.1
  have Kp282 : Keep h0 h246 [b0] := Kp244.ext E251
  refine g_putF 39 rfl C X249 (host := "") (Or.inl (hw _ (List.mem_of_getElem? (i := 18) rfl))) Via.refl e250 F266 F261 (Or.inr ⟨(hw _ (List.mem_of_getElem? (i := 19) rfl)), rfl, rfl⟩) (hw _ (List.mem_of_getElem? (i := 1) rfl)) (ty := (.array .int)) (by decide) rfl rfl d1_36 N222 g_b0 fun T283 h284 ls285 X286 e287 W288 N289 => ?_
  have F290 : Fld Z h284 b0 "com/example/bisimulation/bisimulation/lts/Exits" "nextExit" "[I" (.ref o247) := F266.same W288
  have F291 := F261.wr W288
  have F292 := F262.other W288 (Or.inr (slot_ne (Or.inr (hw _ (List.mem_of_getElem? (i := 11) rfl))) (Or.inr (hw _ (List.mem_of_getElem? (i := 19) rfl))) (by decide) (t := (.array .int)) (t' := (.array .int)) (by decide) (by decide)))
  have F293 := F263.other W288 (Or.inr (slot_ne (Or.inr (hw _ (List.mem_of_getElem? (i := 13) rfl))) (Or.inr (hw _ (List.mem_of_getElem? (i := 19) rfl))) (by decide) (t := (.array .int)) (t' := (.array .int)) (by decide) (by decide)))
  have F294 := F264.other W288 (Or.inr (slot_ne (Or.inr (hw _ (List.mem_of_getElem? (i := 15) rfl))) (Or.inr (hw _ (List.mem_of_getElem? (i := 19) rfl))) (by decide) (t := (.array .int)) (t' := (.array .int)) (by decide) (by decide)))
  have F295 := F265.other W288 (Or.inr (slot_ne (Or.inr (hw _ (List.mem_of_getElem? (i := 17) rfl))) (Or.inr (hw _ (List.mem_of_getElem? (i := 19) rfl))) (by decide) (t := (.array .int)) (t' := (.array .int)) (by decide) (by decide)))
  have F296 := F267.other W288 (Or.inr (slot_ne (Or.inr (hw _ (List.mem_of_getElem? (i := 21) rfl))) (Or.inr (hw _ (List.mem_of_getElem? (i := 19) rfl))) (by decide) (t := (.array .int)) (t' := (.array .int)) (by decide) (by decide)))
  have F297 := F268.other W288 (Or.inr (slot_ne (Or.inr (hw _ (List.mem_of_getElem? (i := 23) rfl))) (Or.inr (hw _ (List.mem_of_getElem? (i := 19) rfl))) (by decide) (t := (.array .int)) (t' := (.array .int)) (by decide) (by decide)))
  have F298 := F269.other W288 (Or.inr (slot_ne (Or.inr (hw _ (List.mem_of_getElem? (i := 25) rfl))) (Or.inr (hw _ (List.mem_of_getElem? (i := 19) rfl))) (by decide) (t := (.array .int)) (t' := (.array .int)) (by decide) (by decide)))
  have F299 := F270.other W288 (Or.inr (slot_ne (Or.inr (hw _ (List.mem_of_getElem? (i := 27) rfl))) (Or.inr (hw _ (List.mem_of_getElem? (i := 19) rfl))) (by decide) (t := (.array .int)) (t' := (.array .int)) (by decide) (by decide)))
  have F300 := F271.other W288 (Or.inr (slot_ne (Or.inr (hw _ (List.mem_of_getElem? (i := 29) rfl))) (Or.inr (hw _ (List.mem_of_getElem? (i := 19) rfl))) (by decide) (t := (.array .int)) (t' := (.array .int)) (by decide) (by decide)))
  have F301 := F272.other W288 (Or.inr (slot_ne (Or.inr (hw _ (List.mem_of_getElem? (i := 35) rfl))) (Or.inr (hw _ (List.mem_of_getElem? (i := 19) rfl))) (by decide) (t := (.array .int)) (t' := (.array .int)) (by decide) (by decide)))
  have F302 := F273.other W288 (Or.inr (slot_ne (Or.inr (hw _ (List.mem_of_getElem? (i := 37) rfl))) (Or.inr (hw _ (List.mem_of_getElem? (i := 19) rfl))) (by decide) (t := (.array .int)) (t' := (.array .int)) (by decide) (by decide)))
  have F303 := F274.other W288 (Or.inr (slot_ne (Or.inr (hw _ (List.mem_of_getElem? (i := 39) rfl))) (Or.inr (hw _ (List.mem_of_getElem? (i := 19) rfl))) (by decide) (t := (.array .int)) (t' := (.array .int)) (by decide) (by decide)))
  have F304 := F275.other W288 (Or.inr (slot_ne (Or.inl (hw _ (List.mem_of_getElem? (i := 46) rfl))) (Or.inr (hw _ (List.mem_of_getElem? (i := 19) rfl))) (by decide) (t := .int) (t' := (.array .int)) (by decide) (by decide)))
  have F305 := F276.other W288 (Or.inr (slot_ne (Or.inl (hw _ (List.mem_of_getElem? (i := 48) rfl))) (Or.inr (hw _ (List.mem_of_getElem? (i := 19) rfl))) (by decide) (t := .int) (t' := (.array .int)) (by decide) (by decide)))
  have F306 := F277.other W288 (Ne.symm ne12)
  have F307 := F278.other W288 (Ne.symm ne68)
  have F308 := F279.other W288 (Ne.symm ne127)
  have F309 := F280.other W288 (Ne.symm ne189)
  have F310 := B252.other W288 (Ne.symm ne254)
  have Zs311 := Nat.le_trans Zs281 (Nat.le_of_eq W288.size.symm)
  have Kp312 : Keep h0 h284 [b0] := Kp282.wr W288 (Or.inl (List.mem_of_getElem? (i := 0) rfl))
  refine g_aloadN 40 rfl C X286 d1_39 rfl rfl ?_
  refine g_iloadN 41 rfl C X286 d1_40 rfl ?_
  refine g_newP 43 rfl C X286 4 (by decide) 4 (by decide) (by decide) rfl (hw _ (List.mem_of_getElem? (i := 9) rfl)) e287 d1_41 (by decide) (by decide) fun T313 h314 o315 g316 X317 e318 E319 B320 => ?_
  have lf321 := F310.lt
  have ne322 : b0 ≠ o315 := by rw [g316]; exact Nat.ne_of_lt F291.lt
  have ne323 : o120 ≠ o315 := by rw [g316]; exact Nat.ne_of_lt F308.lt
  have ne324 : o182 ≠ o315 := by rw [g316]; exact Nat.ne_of_lt F309.lt
  have ne325 : o247 ≠ o315 := by rw [g316]; exact Nat.ne_of_lt F310.lt
  have ne326 : o6 ≠ o315 := by rw [g316]; exact Nat.ne_of_lt F306.lt
  have ne327 : o61 ≠ o315 := by rw [g316]; exact Nat.ne_of_lt F307.lt
  have gn328 : n0 ≤ o315 := by rw [g316]; exact Zs311
  have sz329 : h0.size ≤ o315 := by rw [g316]; exact Kp312.1
  have F330 := F291.ext E319
  have F331 := F292.ext E319
  have F332 := F293.ext E319
  have F333 := F294.ext E319
  have F334 := F295.ext E319
  have F335 := F290.ext E319
  have F336 := F296.ext E319
  have F337 := F297.ext E319
  have F338 := F298.ext E319
  have F339 := F299.ext E319
  have F340 := F300.ext E319
  have F341 := F301.ext E319
  have F342 := F302.ext E319
  have F343 := F303.ext E319
  have F344 := F304.ext E319
  have F345 := F305.ext E319
  have F346 := F306.ext E319
  have F347 := F307.ext E319
  have F348 := F308.ext E319
  have F349 := F309.ext E319
  have F350 := F310.ext E319
  have Zs351 := Nat.le_trans Zs311 E319.1
  have Kp352 : Keep h0 h314 [b0] := Kp312.ext E319
  refine g_putF 46 rfl C X317 (host := "") (Or.inl (hw _ (List.mem_of_getElem? (i := 20) rfl))) Via.refl e318 F336 F330 (Or.inr ⟨(hw _ (List.mem_of_getElem? (i := 21) rfl)), rfl, rfl⟩) (hw _ (List.mem_of_getElem? (i := 1) rfl)) (ty := (.array .int)) (by decide) rfl rfl d1_43 N289 g_b0 fun T353 h354 ls355 X356 e357 W358 N359 => ?_
  have F360 : Fld Z h354 b0 "com/example/bisimulation/bisimulation/lts/Exits" "previousExit" "[I" (.ref o315) := F336.same W358
  have F361 := F330.wr W358
  have F362 := F331.other W358 (Or.inr (slot_ne (Or.inr (hw _ (List.mem_of_getElem? (i := 11) rfl))) (Or.inr (hw _ (List.mem_of_getElem? (i := 21) rfl))) (by decide) (t := (.array .int)) (t' := (.array .int)) (by decide) (by decide)))
  have F363 := F332.other W358 (Or.inr (slot_ne (Or.inr (hw _ (List.mem_of_getElem? (i := 13) rfl))) (Or.inr (hw _ (List.mem_of_getElem? (i := 21) rfl))) (by decide) (t := (.array .int)) (t' := (.array .int)) (by decide) (by decide)))
  have F364 := F333.other W358 (Or.inr (slot_ne (Or.inr (hw _ (List.mem_of_getElem? (i := 15) rfl))) (Or.inr (hw _ (List.mem_of_getElem? (i := 21) rfl))) (by decide) (t := (.array .int)) (t' := (.array .int)) (by decide) (by decide)))
  have F365 := F334.other W358 (Or.inr (slot_ne (Or.inr (hw _ (List.mem_of_getElem? (i := 17) rfl))) (Or.inr (hw _ (List.mem_of_getElem? (i := 21) rfl))) (by decide) (t := (.array .int)) (t' := (.array .int)) (by decide) (by decide)))
  have F366 := F335.other W358 (Or.inr (slot_ne (Or.inr (hw _ (List.mem_of_getElem? (i := 19) rfl))) (Or.inr (hw _ (List.mem_of_getElem? (i := 21) rfl))) (by decide) (t := (.array .int)) (t' := (.array .int)) (by decide) (by decide)))
  have F367 := F337.other W358 (Or.inr (slot_ne (Or.inr (hw _ (List.mem_of_getElem? (i := 23) rfl))) (Or.inr (hw _ (List.mem_of_getElem? (i := 21) rfl))) (by decide) (t := (.array .int)) (t' := (.array .int)) (by decide) (by decide)))
  have F368 := F338.other W358 (Or.inr (slot_ne (Or.inr (hw _ (List.mem_of_getElem? (i := 25) rfl))) (Or.inr (hw _ (List.mem_of_getElem? (i := 21) rfl))) (by decide) (t := (.array .int)) (t' := (.array .int)) (by decide) (by decide)))
  have F369 := F339.other W358 (Or.inr (slot_ne (Or.inr (hw _ (List.mem_of_getElem? (i := 27) rfl))) (Or.inr (hw _ (List.mem_of_getElem? (i := 21) rfl))) (by decide) (t := (.array .int)) (t' := (.array .int)) (by decide) (by decide)))
  have F370 := F340.other W358 (Or.inr (slot_ne (Or.inr (hw _ (List.mem_of_getElem? (i := 29) rfl))) (Or.inr (hw _ (List.mem_of_getElem? (i := 21) rfl))) (by decide) (t := (.array .int)) (t' := (.array .int)) (by decide) (by decide)))
  have F371 := F341.other W358 (Or.inr (slot_ne (Or.inr (hw _ (List.mem_of_getElem? (i := 35) rfl))) (Or.inr (hw _ (List.mem_of_getElem? (i := 21) rfl))) (by decide) (t := (.array .int)) (t' := (.array .int)) (by decide) (by decide)))
  have F372 := F342.other W358 (Or.inr (slot_ne (Or.inr (hw _ (List.mem_of_getElem? (i := 37) rfl))) (Or.inr (hw _ (List.mem_of_getElem? (i := 21) rfl))) (by decide) (t := (.array .int)) (t' := (.array .int)) (by decide) (by decide)))
  have F373 := F343.other W358 (Or.inr (slot_ne (Or.inr (hw _ (List.mem_of_getElem? (i := 39) rfl))) (Or.inr (hw _ (List.mem_of_getElem? (i := 21) rfl))) (by decide) (t := (.array .int)) (t' := (.array .int)) (by decide) (by decide)))
  have F374 := F344.other W358 (Or.inr (slot_ne (Or.inl (hw _ (List.mem_of_getElem? (i := 46) rfl))) (Or.inr (hw _ (List.mem_of_getElem? (i := 21) rfl))) (by decide) (t := .int) (t' := (.array .int)) (by decide) (by decide)))
  have F375 := F345.other W358 (Or.inr (slot_ne (Or.inl (hw _ (List.mem_of_getElem? (i := 48) rfl))) (Or.inr (hw _ (List.mem_of_getElem? (i := 21) rfl))) (by decide) (t := .int) (t' := (.array .int)) (by decide) (by decide)))
  have F376 := F346.other W358 (Ne.symm ne12)
  have F377 := F347.other W358 (Ne.symm ne68)
  have F378 := F348.other W358 (Ne.symm ne127)
  have F379 := F349.other W358 (Ne.symm ne189)
  have F380 := F350.other W358 (Ne.symm ne254)
  have F381 := B320.other W358 (Ne.symm ne322)
  have Zs382 := Nat.le_trans Zs351 (Nat.le_of_eq W358.size.symm)
  have Kp383 : Keep h0 h354 [b0] := Kp352.wr W358 (Or.inl (List.mem_of_getElem? (i := 0) rfl))
  refine g_aloadN 47 rfl C X356 d1_46 rfl rfl ?_
  refine g_iloadN 48 rfl C X356 d1_47 rfl ?_
  refine g_newP 50 rfl C X356 4 (by decide) 4 (by decide) (by decide) rfl (hw _ (List.mem_of_getElem? (i := 9) rfl)) e357 d1_48 (by decide) (by decide) fun T384 h385 o386 g387 X388 e389 E390 B391 => ?_
  have lf392 := F381.lt
  have ne393 : b0 ≠ o386 := by rw [g387]; exact Nat.ne_of_lt F361.lt
  have ne394 : o120 ≠ o386 := by rw [g387]; exact Nat.ne_of_lt F378.lt
  have ne395 : o182 ≠ o386 := by rw [g387]; exact Nat.ne_of_lt F379.lt
  have ne396 : o247 ≠ o386 := by rw [g387]; exact Nat.ne_of_lt F380.lt
  have ne397 : o315 ≠ o386 := by rw [g387]; exact Nat.ne_of_lt F381.lt
  have ne398 : o6 ≠ o386 := by rw [g387]; exact Nat.ne_of_lt F376.lt
  have ne399 : o61 ≠ o386 := by rw [g387]; exact Nat.ne_of_lt F377.lt
  have gn400 : n0 ≤ o386 := by rw [g387]; exact Zs382
  have sz401 : h0.size ≤ o386 := by rw [g387]; exact Kp383.1
  have F402 := F361.ext E390
  have F403 := F362.ext E390
  have F404 := F363.ext E390
  have F405 := F364.ext E390
  have F406 := F365.ext E390
  have F407 := F366.ext E390
  have F408 := F360.ext E390
  have F409 := F367.ext E390
  have F410 := F368.ext E390
  have F411 := F369.ext E390
  have F412 := F370.ext E390
  have F413 := F371.ext E390
  have F414 := F372.ext E390
  have F415 := F373.ext E390
  have F416 := F374.ext E390
  have F417 := F375.ext E390
  have F418 := F376.ext E390
  have F419 := F377.ext E390
  have F420 := F378.ext E390
  have F421 := F379.ext E390
  have F422 := F380.ext E390
  have F423 := F381.ext E390
  have Zs424 := Nat.le_trans Zs382 E390.1
  have Kp425 : Keep h0 h385 [b0] := Kp383.ext E390
  refine g_putF 53 rfl C X388 (host := "") (Or.inl (hw _ (List.mem_of_getElem? (i := 22) rfl))) Via.refl e389 F409 F402 (Or.inr ⟨(hw _ (List.mem_of_getElem? (i := 23) rfl)), rfl, rfl⟩) (hw _ (List.mem_of_getElem? (i := 1) rfl)) (ty := (.array .int)) (by decide) rfl rfl d1_50 N359 g_b0 fun T426 h427 ls428 X429 e430 W431 N432 => ?_
  have F433 : Fld Z h427 b0 "com/example/bisimulation/bisimulation/lts/Exits" "freeExits" "[I" (.ref o386) := F409.same W431
  have F434 := F402.wr W431
  have F435 := F403.other W431 (Or.inr (slot_ne (Or.inr (hw _ (List.mem_of_getElem? (i := 11) rfl))) (Or.inr (hw _ (List.mem_of_getElem? (i := 23) rfl))) (by decide) (t := (.array .int)) (t' := (.array .int)) (by decide) (by decide)))
  have F436 := F404.other W431 (Or.inr (slot_ne (Or.inr (hw _ (List.mem_of_getElem? (i := 13) rfl))) (Or.inr (hw _ (List.mem_of_getElem? (i := 23) rfl))) (by decide) (t := (.array .int)) (t' := (.array .int)) (by decide) (by decide)))
  have F437 := F405.other W431 (Or.inr (slot_ne (Or.inr (hw _ (List.mem_of_getElem? (i := 15) rfl))) (Or.inr (hw _ (List.mem_of_getElem? (i := 23) rfl))) (by decide) (t := (.array .int)) (t' := (.array .int)) (by decide) (by decide)))
  have F438 := F406.other W431 (Or.inr (slot_ne (Or.inr (hw _ (List.mem_of_getElem? (i := 17) rfl))) (Or.inr (hw _ (List.mem_of_getElem? (i := 23) rfl))) (by decide) (t := (.array .int)) (t' := (.array .int)) (by decide) (by decide)))
  have F439 := F407.other W431 (Or.inr (slot_ne (Or.inr (hw _ (List.mem_of_getElem? (i := 19) rfl))) (Or.inr (hw _ (List.mem_of_getElem? (i := 23) rfl))) (by decide) (t := (.array .int)) (t' := (.array .int)) (by decide) (by decide)))
  have F440 := F408.other W431 (Or.inr (slot_ne (Or.inr (hw _ (List.mem_of_getElem? (i := 21) rfl))) (Or.inr (hw _ (List.mem_of_getElem? (i := 23) rfl))) (by decide) (t := (.array .int)) (t' := (.array .int)) (by decide) (by decide)))
  have F441 := F410.other W431 (Or.inr (slot_ne (Or.inr (hw _ (List.mem_of_getElem? (i := 25) rfl))) (Or.inr (hw _ (List.mem_of_getElem? (i := 23) rfl))) (by decide) (t := (.array .int)) (t' := (.array .int)) (by decide) (by decide)))
  have F442 := F411.other W431 (Or.inr (slot_ne (Or.inr (hw _ (List.mem_of_getElem? (i := 27) rfl))) (Or.inr (hw _ (List.mem_of_getElem? (i := 23) rfl))) (by decide) (t := (.array .int)) (t' := (.array .int)) (by decide) (by decide)))
  have F443 := F412.other W431 (Or.inr (slot_ne (Or.inr (hw _ (List.mem_of_getElem? (i := 29) rfl))) (Or.inr (hw _ (List.mem_of_getElem? (i := 23) rfl))) (by decide) (t := (.array .int)) (t' := (.array .int)) (by decide) (by decide)))
  have F444 := F413.other W431 (Or.inr (slot_ne (Or.inr (hw _ (List.mem_of_getElem? (i := 35) rfl))) (Or.inr (hw _ (List.mem_of_getElem? (i := 23) rfl))) (by decide) (t := (.array .int)) (t' := (.array .int)) (by decide) (by decide)))
  have F445 := F414.other W431 (Or.inr (slot_ne (Or.inr (hw _ (List.mem_of_getElem? (i := 37) rfl))) (Or.inr (hw _ (List.mem_of_getElem? (i := 23) rfl))) (by decide) (t := (.array .int)) (t' := (.array .int)) (by decide) (by decide)))
  have F446 := F415.other W431 (Or.inr (slot_ne (Or.inr (hw _ (List.mem_of_getElem? (i := 39) rfl))) (Or.inr (hw _ (List.mem_of_getElem? (i := 23) rfl))) (by decide) (t := (.array .int)) (t' := (.array .int)) (by decide) (by decide)))
  have F447 := F416.other W431 (Or.inr (slot_ne (Or.inl (hw _ (List.mem_of_getElem? (i := 46) rfl))) (Or.inr (hw _ (List.mem_of_getElem? (i := 23) rfl))) (by decide) (t := .int) (t' := (.array .int)) (by decide) (by decide)))
  have F448 := F417.other W431 (Or.inr (slot_ne (Or.inl (hw _ (List.mem_of_getElem? (i := 48) rfl))) (Or.inr (hw _ (List.mem_of_getElem? (i := 23) rfl))) (by decide) (t := .int) (t' := (.array .int)) (by decide) (by decide)))
  have F449 := F418.other W431 (Ne.symm ne12)
  have F450 := F419.other W431 (Ne.symm ne68)
  have F451 := F420.other W431 (Ne.symm ne127)
  have F452 := F421.other W431 (Ne.symm ne189)
  have F453 := F422.other W431 (Ne.symm ne254)
  have F454 := F423.other W431 (Ne.symm ne322)
  have F455 := B391.other W431 (Ne.symm ne393)
  have Zs456 := Nat.le_trans Zs424 (Nat.le_of_eq W431.size.symm)
  have Kp457 : Keep h0 h427 [b0] := Kp425.wr W431 (Or.inl (List.mem_of_getElem? (i := 0) rfl))
  refine g_aloadN 54 rfl C X429 d1_53 rfl rfl ?_
  refine g_iloadN 55 rfl C X429 d1_54 rfl ?_
  refine g_newP 57 rfl C X429 2 (by decide) 2 (by decide) (by decide) rfl (hw _ (List.mem_of_getElem? (i := 9) rfl)) e430 d1_55 (by decide) (by decide) fun T458 h459 o460 g461 X462 e463 E464 B465 => ?_
  have lf466 := F455.lt
  have ne467 : b0 ≠ o460 := by rw [g461]; exact Nat.ne_of_lt F434.lt
  have ne468 : o120 ≠ o460 := by rw [g461]; exact Nat.ne_of_lt F451.lt
  have ne469 : o182 ≠ o460 := by rw [g461]; exact Nat.ne_of_lt F452.lt
  have ne470 : o247 ≠ o460 := by rw [g461]; exact Nat.ne_of_lt F453.lt
  have ne471 : o315 ≠ o460 := by rw [g461]; exact Nat.ne_of_lt F454.lt
  have ne472 : o386 ≠ o460 := by rw [g461]; exact Nat.ne_of_lt F455.lt
  have ne473 : o6 ≠ o460 := by rw [g461]; exact Nat.ne_of_lt F449.lt
  have ne474 : o61 ≠ o460 := by rw [g461]; exact Nat.ne_of_lt F450.lt
  have gn475 : n0 ≤ o460 := by rw [g461]; exact Zs456
  have sz476 : h0.size ≤ o460 := by rw [g461]; exact Kp457.1
  have F477 := F434.ext E464
  have F478 := F435.ext E464
  have F479 := F436.ext E464
  have F480 := F437.ext E464
  have F481 := F438.ext E464
  have F482 := F439.ext E464
  have F483 := F440.ext E464
  have F484 := F433.ext E464
  have F485 := F441.ext E464
  have F486 := F442.ext E464
  have F487 := F443.ext E464
  have F488 := F444.ext E464
  have F489 := F445.ext E464
  have F490 := F446.ext E464
  have F491 := F447.ext E464
  have F492 := F448.ext E464
  have F493 := F449.ext E464
  have F494 := F450.ext E464
  have F495 := F451.ext E464
  have F496 := F452.ext E464
  have F497 := F453.ext E464
  have F498 := F454.ext E464
  have F499 := F455.ext E464
  have Zs500 := Nat.le_trans Zs456 E464.1
  have Kp501 : Keep h0 h459 [b0] := Kp457.ext E464
  refine g_putF 60 rfl C X462 (host := "") (Or.inl (hw _ (List.mem_of_getElem? (i := 24) rfl))) Via.refl e463 F485 F477 (Or.inr ⟨(hw _ (List.mem_of_getElem? (i := 25) rfl)), rfl, rfl⟩) (hw _ (List.mem_of_getElem? (i := 1) rfl)) (ty := (.array .int)) (by decide) rfl rfl d1_57 N432 g_b0 fun T502 h503 ls504 X505 e506 W507 N508 => ?_
  have F509 : Fld Z h503 b0 "com/example/bisimulation/bisimulation/lts/Exits" "firstExit" "[I" (.ref o460) := F485.same W507
  have F510 := F477.wr W507
  have F511 := F478.other W507 (Or.inr (slot_ne (Or.inr (hw _ (List.mem_of_getElem? (i := 11) rfl))) (Or.inr (hw _ (List.mem_of_getElem? (i := 25) rfl))) (by decide) (t := (.array .int)) (t' := (.array .int)) (by decide) (by decide)))
  have F512 := F479.other W507 (Or.inr (slot_ne (Or.inr (hw _ (List.mem_of_getElem? (i := 13) rfl))) (Or.inr (hw _ (List.mem_of_getElem? (i := 25) rfl))) (by decide) (t := (.array .int)) (t' := (.array .int)) (by decide) (by decide)))
  have F513 := F480.other W507 (Or.inr (slot_ne (Or.inr (hw _ (List.mem_of_getElem? (i := 15) rfl))) (Or.inr (hw _ (List.mem_of_getElem? (i := 25) rfl))) (by decide) (t := (.array .int)) (t' := (.array .int)) (by decide) (by decide)))
  have F514 := F481.other W507 (Or.inr (slot_ne (Or.inr (hw _ (List.mem_of_getElem? (i := 17) rfl))) (Or.inr (hw _ (List.mem_of_getElem? (i := 25) rfl))) (by decide) (t := (.array .int)) (t' := (.array .int)) (by decide) (by decide)))
  have F515 := F482.other W507 (Or.inr (slot_ne (Or.inr (hw _ (List.mem_of_getElem? (i := 19) rfl))) (Or.inr (hw _ (List.mem_of_getElem? (i := 25) rfl))) (by decide) (t := (.array .int)) (t' := (.array .int)) (by decide) (by decide)))
  have F516 := F483.other W507 (Or.inr (slot_ne (Or.inr (hw _ (List.mem_of_getElem? (i := 21) rfl))) (Or.inr (hw _ (List.mem_of_getElem? (i := 25) rfl))) (by decide) (t := (.array .int)) (t' := (.array .int)) (by decide) (by decide)))
  have F517 := F484.other W507 (Or.inr (slot_ne (Or.inr (hw _ (List.mem_of_getElem? (i := 23) rfl))) (Or.inr (hw _ (List.mem_of_getElem? (i := 25) rfl))) (by decide) (t := (.array .int)) (t' := (.array .int)) (by decide) (by decide)))
  have F518 := F486.other W507 (Or.inr (slot_ne (Or.inr (hw _ (List.mem_of_getElem? (i := 27) rfl))) (Or.inr (hw _ (List.mem_of_getElem? (i := 25) rfl))) (by decide) (t := (.array .int)) (t' := (.array .int)) (by decide) (by decide)))
  have F519 := F487.other W507 (Or.inr (slot_ne (Or.inr (hw _ (List.mem_of_getElem? (i := 29) rfl))) (Or.inr (hw _ (List.mem_of_getElem? (i := 25) rfl))) (by decide) (t := (.array .int)) (t' := (.array .int)) (by decide) (by decide)))
  have F520 := F488.other W507 (Or.inr (slot_ne (Or.inr (hw _ (List.mem_of_getElem? (i := 35) rfl))) (Or.inr (hw _ (List.mem_of_getElem? (i := 25) rfl))) (by decide) (t := (.array .int)) (t' := (.array .int)) (by decide) (by decide)))
  have F521 := F489.other W507 (Or.inr (slot_ne (Or.inr (hw _ (List.mem_of_getElem? (i := 37) rfl))) (Or.inr (hw _ (List.mem_of_getElem? (i := 25) rfl))) (by decide) (t := (.array .int)) (t' := (.array .int)) (by decide) (by decide)))
  have F522 := F490.other W507 (Or.inr (slot_ne (Or.inr (hw _ (List.mem_of_getElem? (i := 39) rfl))) (Or.inr (hw _ (List.mem_of_getElem? (i := 25) rfl))) (by decide) (t := (.array .int)) (t' := (.array .int)) (by decide) (by decide)))
  have F523 := F491.other W507 (Or.inr (slot_ne (Or.inl (hw _ (List.mem_of_getElem? (i := 46) rfl))) (Or.inr (hw _ (List.mem_of_getElem? (i := 25) rfl))) (by decide) (t := .int) (t' := (.array .int)) (by decide) (by decide)))
  have F524 := F492.other W507 (Or.inr (slot_ne (Or.inl (hw _ (List.mem_of_getElem? (i := 48) rfl))) (Or.inr (hw _ (List.mem_of_getElem? (i := 25) rfl))) (by decide) (t := .int) (t' := (.array .int)) (by decide) (by decide)))
  have F525 := F493.other W507 (Ne.symm ne12)
  have F526 := F494.other W507 (Ne.symm ne68)
  have F527 := F495.other W507 (Ne.symm ne127)
  have F528 := F496.other W507 (Ne.symm ne189)
  have F529 := F497.other W507 (Ne.symm ne254)
  have F530 := F498.other W507 (Ne.symm ne322)
  have F531 := F499.other W507 (Ne.symm ne393)
  have F532 := B465.other W507 (Ne.symm ne467)
  have Zs533 := Nat.le_trans Zs500 (Nat.le_of_eq W507.size.symm)
  have Kp534 : Keep h0 h503 [b0] := Kp501.wr W507 (Or.inl (List.mem_of_getElem? (i := 0) rfl))
  refine g_aloadN 61 rfl C X505 d1_60 rfl rfl ?_
  refine g_iloadN 62 rfl C X505 d1_61 rfl ?_
  refine g_newP 64 rfl C X505 2 (by decide) 2 (by decide) (by decide) rfl (hw _ (List.mem_of_getElem? (i := 9) rfl)) e506 d1_62 (by decide) (by decide) fun T535 h536 o537 g538 X539 e540 E541 B542 => ?_
  have lf543 := F532.lt
  have ne544 : b0 ≠ o537 := by rw [g538]; exact Nat.ne_of_lt F510.lt
  have ne545 : o120 ≠ o537 := by rw [g538]; exact Nat.ne_of_lt F527.lt
  have ne546 : o182 ≠ o537 := by rw [g538]; exact Nat.ne_of_lt F528.lt
  have ne547 : o247 ≠ o537 := by rw [g538]; exact Nat.ne_of_lt F529.lt
  have ne548 : o315 ≠ o537 := by rw [g538]; exact Nat.ne_of_lt F530.lt
  have ne549 : o386 ≠ o537 := by rw [g538]; exact Nat.ne_of_lt F531.lt
  have ne550 : o460 ≠ o537 := by rw [g538]; exact Nat.ne_of_lt F532.lt
  have ne551 : o6 ≠ o537 := by rw [g538]; exact Nat.ne_of_lt F525.lt
  have ne552 : o61 ≠ o537 := by rw [g538]; exact Nat.ne_of_lt F526.lt
  have gn553 : n0 ≤ o537 := by rw [g538]; exact Zs533
  have sz554 : h0.size ≤ o537 := by rw [g538]; exact Kp534.1
  have F555 := F510.ext E541
  have F556 := F511.ext E541
  have F557 := F512.ext E541
  have F558 := F513.ext E541
  have F559 := F514.ext E541
  have F560 := F515.ext E541
  have F561 := F516.ext E541
  have F562 := F517.ext E541
  have F563 := F509.ext E541
  have F564 := F518.ext E541
  have F565 := F519.ext E541
  have F566 := F520.ext E541
  have F567 := F521.ext E541
  have F568 := F522.ext E541
  have F569 := F523.ext E541
  have F570 := F524.ext E541
  have F571 := F525.ext E541
  have F572 := F526.ext E541
  have F573 := F527.ext E541
  have F574 := F528.ext E541
  have F575 := F529.ext E541
  have F576 := F530.ext E541
  have F577 := F531.ext E541
  have F578 := F532.ext E541
  have Zs579 := Nat.le_trans Zs533 E541.1
  have Kp580 : Keep h0 h536 [b0] := Kp534.ext E541
  refine g_putF 67 rfl C X539 (host := "") (Or.inl (hw _ (List.mem_of_getElem? (i := 26) rfl))) Via.refl e540 F564 F555 (Or.inr ⟨(hw _ (List.mem_of_getElem? (i := 27) rfl)), rfl, rfl⟩) (hw _ (List.mem_of_getElem? (i := 1) rfl)) (ty := (.array .int)) (by decide) rfl rfl d1_64 N508 g_b0 fun T581 h582 ls583 X584 e585 W586 N587 => ?_
  have F588 : Fld Z h582 b0 "com/example/bisimulation/bisimulation/lts/Exits" "lastExit" "[I" (.ref o537) := F564.same W586
  have F589 := F555.wr W586
  have F590 := F556.other W586 (Or.inr (slot_ne (Or.inr (hw _ (List.mem_of_getElem? (i := 11) rfl))) (Or.inr (hw _ (List.mem_of_getElem? (i := 27) rfl))) (by decide) (t := (.array .int)) (t' := (.array .int)) (by decide) (by decide)))
  have F591 := F557.other W586 (Or.inr (slot_ne (Or.inr (hw _ (List.mem_of_getElem? (i := 13) rfl))) (Or.inr (hw _ (List.mem_of_getElem? (i := 27) rfl))) (by decide) (t := (.array .int)) (t' := (.array .int)) (by decide) (by decide)))
  have F592 := F558.other W586 (Or.inr (slot_ne (Or.inr (hw _ (List.mem_of_getElem? (i := 15) rfl))) (Or.inr (hw _ (List.mem_of_getElem? (i := 27) rfl))) (by decide) (t := (.array .int)) (t' := (.array .int)) (by decide) (by decide)))
  have F593 := F559.other W586 (Or.inr (slot_ne (Or.inr (hw _ (List.mem_of_getElem? (i := 17) rfl))) (Or.inr (hw _ (List.mem_of_getElem? (i := 27) rfl))) (by decide) (t := (.array .int)) (t' := (.array .int)) (by decide) (by decide)))
  have F594 := F560.other W586 (Or.inr (slot_ne (Or.inr (hw _ (List.mem_of_getElem? (i := 19) rfl))) (Or.inr (hw _ (List.mem_of_getElem? (i := 27) rfl))) (by decide) (t := (.array .int)) (t' := (.array .int)) (by decide) (by decide)))
  have F595 := F561.other W586 (Or.inr (slot_ne (Or.inr (hw _ (List.mem_of_getElem? (i := 21) rfl))) (Or.inr (hw _ (List.mem_of_getElem? (i := 27) rfl))) (by decide) (t := (.array .int)) (t' := (.array .int)) (by decide) (by decide)))
  have F596 := F562.other W586 (Or.inr (slot_ne (Or.inr (hw _ (List.mem_of_getElem? (i := 23) rfl))) (Or.inr (hw _ (List.mem_of_getElem? (i := 27) rfl))) (by decide) (t := (.array .int)) (t' := (.array .int)) (by decide) (by decide)))
  have F597 := F563.other W586 (Or.inr (slot_ne (Or.inr (hw _ (List.mem_of_getElem? (i := 25) rfl))) (Or.inr (hw _ (List.mem_of_getElem? (i := 27) rfl))) (by decide) (t := (.array .int)) (t' := (.array .int)) (by decide) (by decide)))
  have F598 := F565.other W586 (Or.inr (slot_ne (Or.inr (hw _ (List.mem_of_getElem? (i := 29) rfl))) (Or.inr (hw _ (List.mem_of_getElem? (i := 27) rfl))) (by decide) (t := (.array .int)) (t' := (.array .int)) (by decide) (by decide)))
  have F599 := F566.other W586 (Or.inr (slot_ne (Or.inr (hw _ (List.mem_of_getElem? (i := 35) rfl))) (Or.inr (hw _ (List.mem_of_getElem? (i := 27) rfl))) (by decide) (t := (.array .int)) (t' := (.array .int)) (by decide) (by decide)))
  have F600 := F567.other W586 (Or.inr (slot_ne (Or.inr (hw _ (List.mem_of_getElem? (i := 37) rfl))) (Or.inr (hw _ (List.mem_of_getElem? (i := 27) rfl))) (by decide) (t := (.array .int)) (t' := (.array .int)) (by decide) (by decide)))
  have F601 := F568.other W586 (Or.inr (slot_ne (Or.inr (hw _ (List.mem_of_getElem? (i := 39) rfl))) (Or.inr (hw _ (List.mem_of_getElem? (i := 27) rfl))) (by decide) (t := (.array .int)) (t' := (.array .int)) (by decide) (by decide)))
  have F602 := F569.other W586 (Or.inr (slot_ne (Or.inl (hw _ (List.mem_of_getElem? (i := 46) rfl))) (Or.inr (hw _ (List.mem_of_getElem? (i := 27) rfl))) (by decide) (t := .int) (t' := (.array .int)) (by decide) (by decide)))
  have F603 := F570.other W586 (Or.inr (slot_ne (Or.inl (hw _ (List.mem_of_getElem? (i := 48) rfl))) (Or.inr (hw _ (List.mem_of_getElem? (i := 27) rfl))) (by decide) (t := .int) (t' := (.array .int)) (by decide) (by decide)))
  have F604 := F571.other W586 (Ne.symm ne12)
  have F605 := F572.other W586 (Ne.symm ne68)
  have F606 := F573.other W586 (Ne.symm ne127)
  have F607 := F574.other W586 (Ne.symm ne189)
  have F608 := F575.other W586 (Ne.symm ne254)
  have F609 := F576.other W586 (Ne.symm ne322)
  have F610 := F577.other W586 (Ne.symm ne393)
  have F611 := F578.other W586 (Ne.symm ne467)
  have F612 := B542.other W586 (Ne.symm ne544)
  have Zs613 := Nat.le_trans Zs579 (Nat.le_of_eq W586.size.symm)
  have Kp614 : Keep h0 h582 [b0] := Kp580.wr W586 (Or.inl (List.mem_of_getElem? (i := 0) rfl))
  refine g_aloadN 68 rfl C X584 d1_67 rfl rfl ?_
  refine g_iloadN 69 rfl C X584 d1_68 rfl ?_
  refine g_newP 71 rfl C X584 2 (by decide) 2 (by decide) (by decide) rfl (hw _ (List.mem_of_getElem? (i := 9) rfl)) e585 d1_69 (by decide) (by decide) fun T615 h616 o617 g618 X619 e620 E621 B622 => ?_
  have lf623 := F612.lt
  have ne624 : b0 ≠ o617 := by rw [g618]; exact Nat.ne_of_lt F589.lt
  have ne625 : o120 ≠ o617 := by rw [g618]; exact Nat.ne_of_lt F606.lt
  have ne626 : o182 ≠ o617 := by rw [g618]; exact Nat.ne_of_lt F607.lt
  have ne627 : o247 ≠ o617 := by rw [g618]; exact Nat.ne_of_lt F608.lt
  have ne628 : o315 ≠ o617 := by rw [g618]; exact Nat.ne_of_lt F609.lt
  have ne629 : o386 ≠ o617 := by rw [g618]; exact Nat.ne_of_lt F610.lt
  have ne630 : o460 ≠ o617 := by rw [g618]; exact Nat.ne_of_lt F611.lt
  have ne631 : o537 ≠ o617 := by rw [g618]; exact Nat.ne_of_lt F612.lt
  have ne632 : o6 ≠ o617 := by rw [g618]; exact Nat.ne_of_lt F604.lt
  have ne633 : o61 ≠ o617 := by rw [g618]; exact Nat.ne_of_lt F605.lt
  have gn634 : n0 ≤ o617 := by rw [g618]; exact Zs613
  have sz635 : h0.size ≤ o617 := by rw [g618]; exact Kp614.1
  have F636 := F589.ext E621
  have F637 := F590.ext E621
  have F638 := F591.ext E621
  have F639 := F592.ext E621
  have F640 := F593.ext E621
  have F641 := F594.ext E621
  have F642 := F595.ext E621
  have F643 := F596.ext E621
  have F644 := F597.ext E621
  have F645 := F588.ext E621
  have F646 := F598.ext E621
  have F647 := F599.ext E621
  have F648 := F600.ext E621
  have F649 := F601.ext E621
  have F650 := F602.ext E621
  have F651 := F603.ext E621
  have F652 := F604.ext E621
  have F653 := F605.ext E621
  have F654 := F606.ext E621
  have F655 := F607.ext E621
  have F656 := F608.ext E621
  have F657 := F609.ext E621
  have F658 := F610.ext E621
  have F659 := F611.ext E621
  have F660 := F612.ext E621
  have Zs661 := Nat.le_trans Zs613 E621.1
  have Kp662 : Keep h0 h616 [b0] := Kp614.ext E621
  refine g_putF 74 rfl C X619 (host := "") (Or.inl (hw _ (List.mem_of_getElem? (i := 28) rfl))) Via.refl e620 F646 F636 (Or.inr ⟨(hw _ (List.mem_of_getElem? (i := 29) rfl)), rfl, rfl⟩) (hw _ (List.mem_of_getElem? (i := 1) rfl)) (ty := (.array .int)) (by decide) rfl rfl d1_71 N587 g_b0 fun T663 h664 ls665 X666 e667 W668 N669 => ?_
  have F670 : Fld Z h664 b0 "com/example/bisimulation/bisimulation/lts/Exits" "exitCount" "[I" (.ref o617) := F646.same W668
  have F671 := F636.wr W668
  have F672 := F637.other W668 (Or.inr (slot_ne (Or.inr (hw _ (List.mem_of_getElem? (i := 11) rfl))) (Or.inr (hw _ (List.mem_of_getElem? (i := 29) rfl))) (by decide) (t := (.array .int)) (t' := (.array .int)) (by decide) (by decide)))
  have F673 := F638.other W668 (Or.inr (slot_ne (Or.inr (hw _ (List.mem_of_getElem? (i := 13) rfl))) (Or.inr (hw _ (List.mem_of_getElem? (i := 29) rfl))) (by decide) (t := (.array .int)) (t' := (.array .int)) (by decide) (by decide)))
  have F674 := F639.other W668 (Or.inr (slot_ne (Or.inr (hw _ (List.mem_of_getElem? (i := 15) rfl))) (Or.inr (hw _ (List.mem_of_getElem? (i := 29) rfl))) (by decide) (t := (.array .int)) (t' := (.array .int)) (by decide) (by decide)))
  have F675 := F640.other W668 (Or.inr (slot_ne (Or.inr (hw _ (List.mem_of_getElem? (i := 17) rfl))) (Or.inr (hw _ (List.mem_of_getElem? (i := 29) rfl))) (by decide) (t := (.array .int)) (t' := (.array .int)) (by decide) (by decide)))
  have F676 := F641.other W668 (Or.inr (slot_ne (Or.inr (hw _ (List.mem_of_getElem? (i := 19) rfl))) (Or.inr (hw _ (List.mem_of_getElem? (i := 29) rfl))) (by decide) (t := (.array .int)) (t' := (.array .int)) (by decide) (by decide)))
  have F677 := F642.other W668 (Or.inr (slot_ne (Or.inr (hw _ (List.mem_of_getElem? (i := 21) rfl))) (Or.inr (hw _ (List.mem_of_getElem? (i := 29) rfl))) (by decide) (t := (.array .int)) (t' := (.array .int)) (by decide) (by decide)))
  have F678 := F643.other W668 (Or.inr (slot_ne (Or.inr (hw _ (List.mem_of_getElem? (i := 23) rfl))) (Or.inr (hw _ (List.mem_of_getElem? (i := 29) rfl))) (by decide) (t := (.array .int)) (t' := (.array .int)) (by decide) (by decide)))
  have F679 := F644.other W668 (Or.inr (slot_ne (Or.inr (hw _ (List.mem_of_getElem? (i := 25) rfl))) (Or.inr (hw _ (List.mem_of_getElem? (i := 29) rfl))) (by decide) (t := (.array .int)) (t' := (.array .int)) (by decide) (by decide)))
  have F680 := F645.other W668 (Or.inr (slot_ne (Or.inr (hw _ (List.mem_of_getElem? (i := 27) rfl))) (Or.inr (hw _ (List.mem_of_getElem? (i := 29) rfl))) (by decide) (t := (.array .int)) (t' := (.array .int)) (by decide) (by decide)))
  have F681 := F647.other W668 (Or.inr (slot_ne (Or.inr (hw _ (List.mem_of_getElem? (i := 35) rfl))) (Or.inr (hw _ (List.mem_of_getElem? (i := 29) rfl))) (by decide) (t := (.array .int)) (t' := (.array .int)) (by decide) (by decide)))
  have F682 := F648.other W668 (Or.inr (slot_ne (Or.inr (hw _ (List.mem_of_getElem? (i := 37) rfl))) (Or.inr (hw _ (List.mem_of_getElem? (i := 29) rfl))) (by decide) (t := (.array .int)) (t' := (.array .int)) (by decide) (by decide)))
  have F683 := F649.other W668 (Or.inr (slot_ne (Or.inr (hw _ (List.mem_of_getElem? (i := 39) rfl))) (Or.inr (hw _ (List.mem_of_getElem? (i := 29) rfl))) (by decide) (t := (.array .int)) (t' := (.array .int)) (by decide) (by decide)))
  have F684 := F650.other W668 (Or.inr (slot_ne (Or.inl (hw _ (List.mem_of_getElem? (i := 46) rfl))) (Or.inr (hw _ (List.mem_of_getElem? (i := 29) rfl))) (by decide) (t := .int) (t' := (.array .int)) (by decide) (by decide)))
  have F685 := F651.other W668 (Or.inr (slot_ne (Or.inl (hw _ (List.mem_of_getElem? (i := 48) rfl))) (Or.inr (hw _ (List.mem_of_getElem? (i := 29) rfl))) (by decide) (t := .int) (t' := (.array .int)) (by decide) (by decide)))
  have F686 := F652.other W668 (Ne.symm ne12)
  have F687 := F653.other W668 (Ne.symm ne68)
  have F688 := F654.other W668 (Ne.symm ne127)
  have F689 := F655.other W668 (Ne.symm ne189)
  have F690 := F656.other W668 (Ne.symm ne254)
  have F691 := F657.other W668 (Ne.symm ne322)
  have F692 := F658.other W668 (Ne.symm ne393)
  have F693 := F659.other W668 (Ne.symm ne467)
  have F694 := F660.other W668 (Ne.symm ne544)
  have F695 := B622.other W668 (Ne.symm ne624)
  have Zs696 := Nat.le_trans Zs661 (Nat.le_of_eq W668.size.symm)
  have Kp697 : Keep h0 h664 [b0] := Kp662.wr W668 (Or.inl (List.mem_of_getElem? (i := 0) rfl))
  refine g_aloadN 75 rfl C X666 d1_74 rfl rfl ?_
  refine g_getF 78 rfl C X666 (host := "") (Or.inl (hw _ (List.mem_of_getElem? (i := 24) rfl))) Via.refl e667 F679 d1_75 fun T698 X699 e700 => ?_
  refine g_iconst 79 rfl C X699 (-1 : Int32) d1_78 rfl ?_
  refine g_callS 82 rfl C X699 (argsL := [(.ref o460), (.int (-1 : Int32))]) (hw _ (List.mem_of_getElem? (i := 30) rfl)) (hw _ (List.mem_of_getElem? (i := 31) rfl)) (hw _ (List.mem_of_getElem? (i := 33) rfl)) (hw _ (List.mem_of_getElem? (i := 32) rfl)) e700 (rm3_2 l Z a0 hw [] o460 (-1 : Int32) (fun _ => 0) h664 n0 Zs696 F693 gn475) (lenOf pd_36457671 rfl) (by decide) (by decide) (by decide) (by decide) rfl (W := 0) (Nat.le_of_eq rfl) (by decide) d1_79 rfl fun r701 T702 Lc703 X704 hQ705 => ?_
  obtain ⟨rfl, Nq706, Kc707, F708⟩ := hQ705
  have F709 := F671.keep Kc707
  have F710 := F672.keep Kc707 (ninS ne467 nin0)
  have F711 := F673.keep Kc707 (ninS ne467 nin0)
  have F712 := F674.keep Kc707 (ninS ne467 nin0)
  have F713 := F675.keep Kc707 (ninS ne467 nin0)
  have F714 := F676.keep Kc707 (ninS ne467 nin0)
  have F715 := F677.keep Kc707 (ninS ne467 nin0)
  have F716 := F678.keep Kc707 (ninS ne467 nin0)
  have F717 := F679.keep Kc707 (ninS ne467 nin0)
  have F718 := F680.keep Kc707 (ninS ne467 nin0)
  have F719 := F670.keep Kc707 (ninS ne467 nin0)
  have F720 := F681.keep Kc707 (ninS ne467 nin0)
  have F721 := F682.keep Kc707 (ninS ne467 nin0)
  have F722 := F683.keep Kc707 (ninS ne467 nin0)
  have F723 := F684.keep Kc707 (ninS ne467 nin0)
  have F724 := F685.keep Kc707 (ninS ne467 nin0)
  have F725 := F686.keep Kc707 (ninS ne473 nin0)
  have F726 := F687.keep Kc707 (ninS ne474 nin0)
  have F727 := F688.keep Kc707 (ninS ne468 nin0)
  have F728 := F689.keep Kc707 (ninS ne469 nin0)
  have F729 := F690.keep Kc707 (ninS ne470 nin0)
  have F730 := F691.keep Kc707 (ninS ne471 nin0)
  have F731 := F692.keep Kc707 (ninS ne472 nin0)
  have F732 := F694.keep Kc707 (ninS (Ne.symm ne550) nin0)
  have F733 := F695.keep Kc707 (ninS (Ne.symm ne630) nin0)
  have Zs734 := Nat.le_trans Zs696 Kc707.1
  have Kp735 : Keep h0 T702.heap [b0] := Keep.trans Kp697 Kc707 (allS (Or.inr sz476) all0)
  have N736 := Fr.app N669 Nq706
  show Goes _ _ _ _ _ _ 82 _ []
  refine g_aloadN 83 rfl C X704 d1_82 rfl rfl ?_
  refine g_getF 86 rfl C X704 (host := "") (Or.inl (hw _ (List.mem_of_getElem? (i := 26) rfl))) Via.refl rfl F718 d1_83 fun T737 X738 e739 => ?_
  refine g_iconst 87 rfl C X738 (-1 : Int32) d1_86 rfl ?_
  refine g_callS 90 rfl C X738 (argsL := [(.ref o537), (.int (-1 : Int32))]) (hw _ (List.mem_of_getElem? (i := 30) rfl)) (hw _ (List.mem_of_getElem? (i := 31) rfl)) (hw _ (List.mem_of_getElem? (i := 33) rfl)) (hw _ (List.mem_of_getElem? (i := 32) rfl)) e739 (rm3_2 l Z a0 hw [] o537 (-1 : Int32) (fun _ => 0) (T702.heap) n0 Zs734 F732 gn553) (lenOf pd_36457671 rfl) (by decide) (by decide) (by decide) (by decide) rfl (W := 0) (Nat.le_of_eq rfl) (by decide) d1_87 rfl fun r740 T741 Lc742 X743 hQ744 => ?_
  obtain ⟨rfl, Nq745, Kc746, F747⟩ := hQ744
  have F748 := F709.keep Kc746
  have F749 := F710.keep Kc746 (ninS ne544 nin0)
  have F750 := F711.keep Kc746 (ninS ne544 nin0)
  have F751 := F712.keep Kc746 (ninS ne544 nin0)
  have F752 := F713.keep Kc746 (ninS ne544 nin0)
  have F753 := F714.keep Kc746 (ninS ne544 nin0)
  have F754 := F715.keep Kc746 (ninS ne544 nin0)
  have F755 := F716.keep Kc746 (ninS ne544 nin0)
  have F756 := F717.keep Kc746 (ninS ne544 nin0)
  have F757 := F718.keep Kc746 (ninS ne544 nin0)
  have F758 := F719.keep Kc746 (ninS ne544 nin0)
  have F759 := F720.keep Kc746 (ninS ne544 nin0)
  have F760 := F721.keep Kc746 (ninS ne544 nin0)
  have F761 := F722.keep Kc746 (ninS ne544 nin0)
  have F762 := F723.keep Kc746 (ninS ne544 nin0)
  have F763 := F724.keep Kc746 (ninS ne544 nin0)
  have F764 := F725.keep Kc746 (ninS ne551 nin0)
  have F765 := F726.keep Kc746 (ninS ne552 nin0)
  have F766 := F727.keep Kc746 (ninS ne545 nin0)
  have F767 := F728.keep Kc746 (ninS ne546 nin0)
  have F768 := F729.keep Kc746 (ninS ne547 nin0)
  have F769 := F730.keep Kc746 (ninS ne548 nin0)
  have F770 := F731.keep Kc746 (ninS ne549 nin0)
  have F771 := F733.keep Kc746 (ninS (Ne.symm ne631) nin0)
  have F772 := F708.keep Kc746 (ninS ne550 nin0)
  have Zs773 := Nat.le_trans Zs734 Kc746.1
  have Kp774 : Keep h0 T741.heap [b0] := Keep.trans Kp735 Kc746 (allS (Or.inr sz554) all0)
  have N775 := Fr.app N736 Nq745
  show Goes _ _ _ _ _ _ 90 _ []
  refine g_aloadN 91 rfl C X743 d1_90 rfl rfl ?_
  refine g_iloadN 92 rfl C X743 d1_91 rfl ?_
  refine g_newP 94 rfl C X743 4 (by decide) 4 (by decide) (by decide) rfl (hw _ (List.mem_of_getElem? (i := 9) rfl)) rfl d1_92 (by decide) (by decide) fun T776 h777 o778 g779 X780 e781 E782 B783 => ?_
  have lf784 := F771.lt
  have ne785 : b0 ≠ o778 := by rw [g779]; exact Nat.ne_of_lt F748.lt
  have ne786 : o120 ≠ o778 := by rw [g779]; exact Nat.ne_of_lt F766.lt
  have ne787 : o182 ≠ o778 := by rw [g779]; exact Nat.ne_of_lt F767.lt
  have ne788 : o247 ≠ o778 := by rw [g779]; exact Nat.ne_of_lt F768.lt
  have ne789 : o315 ≠ o778 := by rw [g779]; exact Nat.ne_of_lt F769.lt
  have ne790 : o386 ≠ o778 := by rw [g779]; exact Nat.ne_of_lt F770.lt
  have ne791 : o460 ≠ o778 := by rw [g779]; exact Nat.ne_of_lt F772.lt
  have ne792 : o537 ≠ o778 := by rw [g779]; exact Nat.ne_of_lt F747.lt
  have ne793 : o6 ≠ o778 := by rw [g779]; exact Nat.ne_of_lt F764.lt
  have ne794 : o61 ≠ o778 := by rw [g779]; exact Nat.ne_of_lt F765.lt
  have ne795 : o617 ≠ o778 := by rw [g779]; exact Nat.ne_of_lt F771.lt
  have gn796 : n0 ≤ o778 := by rw [g779]; exact Zs773
  have sz797 : h0.size ≤ o778 := by rw [g779]; exact Kp774.1
  have F798 := F748.ext E782
  have F799 := F749.ext E782
  have F800 := F750.ext E782
  have F801 := F751.ext E782
  have F802 := F752.ext E782
  have F803 := F753.ext E782
  have F804 := F754.ext E782
  have F805 := F755.ext E782
  have F806 := F756.ext E782
  have F807 := F757.ext E782
  have F808 := F758.ext E782
  have F809 := F759.ext E782
  have F810 := F760.ext E782
  have F811 := F761.ext E782
  have F812 := F762.ext E782
  have F813 := F763.ext E782
  have F814 := F764.ext E782
  have F815 := F765.ext E782
  have F816 := F766.ext E782
  have F817 := F767.ext E782
  have F818 := F768.ext E782
  have F819 := F769.ext E782
  have F820 := F770.ext E782
  have F821 := F771.ext E782
  have F822 := F772.ext E782
  have F823 := F747.ext E782
  have Zs824 := Nat.le_trans Zs773 E782.1
  have Kp825 : Keep h0 h777 [b0] := Kp774.ext E782
  refine g_putF 97 rfl C X780 (host := "") (Or.inl (hw _ (List.mem_of_getElem? (i := 34) rfl))) Via.refl e781 F809 F798 (Or.inr ⟨(hw _ (List.mem_of_getElem? (i := 35) rfl)), rfl, rfl⟩) (hw _ (List.mem_of_getElem? (i := 1) rfl)) (ty := (.array .int)) (by decide) rfl rfl d1_94 N775 g_b0 fun T826 h827 ls828 X829 e830 W831 N832 => ?_
  have F833 : Fld Z h827 b0 "com/example/bisimulation/bisimulation/lts/Exits" "exitOfCounter" "[I" (.ref o778) := F809.same W831
  have F834 := F798.wr W831
  have F835 := F799.other W831 (Or.inr (slot_ne (Or.inr (hw _ (List.mem_of_getElem? (i := 11) rfl))) (Or.inr (hw _ (List.mem_of_getElem? (i := 35) rfl))) (by decide) (t := (.array .int)) (t' := (.array .int)) (by decide) (by decide)))
  have F836 := F800.other W831 (Or.inr (slot_ne (Or.inr (hw _ (List.mem_of_getElem? (i := 13) rfl))) (Or.inr (hw _ (List.mem_of_getElem? (i := 35) rfl))) (by decide) (t := (.array .int)) (t' := (.array .int)) (by decide) (by decide)))
  have F837 := F801.other W831 (Or.inr (slot_ne (Or.inr (hw _ (List.mem_of_getElem? (i := 15) rfl))) (Or.inr (hw _ (List.mem_of_getElem? (i := 35) rfl))) (by decide) (t := (.array .int)) (t' := (.array .int)) (by decide) (by decide)))
  have F838 := F802.other W831 (Or.inr (slot_ne (Or.inr (hw _ (List.mem_of_getElem? (i := 17) rfl))) (Or.inr (hw _ (List.mem_of_getElem? (i := 35) rfl))) (by decide) (t := (.array .int)) (t' := (.array .int)) (by decide) (by decide)))
  have F839 := F803.other W831 (Or.inr (slot_ne (Or.inr (hw _ (List.mem_of_getElem? (i := 19) rfl))) (Or.inr (hw _ (List.mem_of_getElem? (i := 35) rfl))) (by decide) (t := (.array .int)) (t' := (.array .int)) (by decide) (by decide)))
  have F840 := F804.other W831 (Or.inr (slot_ne (Or.inr (hw _ (List.mem_of_getElem? (i := 21) rfl))) (Or.inr (hw _ (List.mem_of_getElem? (i := 35) rfl))) (by decide) (t := (.array .int)) (t' := (.array .int)) (by decide) (by decide)))
  have F841 := F805.other W831 (Or.inr (slot_ne (Or.inr (hw _ (List.mem_of_getElem? (i := 23) rfl))) (Or.inr (hw _ (List.mem_of_getElem? (i := 35) rfl))) (by decide) (t := (.array .int)) (t' := (.array .int)) (by decide) (by decide)))
  have F842 := F806.other W831 (Or.inr (slot_ne (Or.inr (hw _ (List.mem_of_getElem? (i := 25) rfl))) (Or.inr (hw _ (List.mem_of_getElem? (i := 35) rfl))) (by decide) (t := (.array .int)) (t' := (.array .int)) (by decide) (by decide)))
  have F843 := F807.other W831 (Or.inr (slot_ne (Or.inr (hw _ (List.mem_of_getElem? (i := 27) rfl))) (Or.inr (hw _ (List.mem_of_getElem? (i := 35) rfl))) (by decide) (t := (.array .int)) (t' := (.array .int)) (by decide) (by decide)))
  have F844 := F808.other W831 (Or.inr (slot_ne (Or.inr (hw _ (List.mem_of_getElem? (i := 29) rfl))) (Or.inr (hw _ (List.mem_of_getElem? (i := 35) rfl))) (by decide) (t := (.array .int)) (t' := (.array .int)) (by decide) (by decide)))
  have F845 := F810.other W831 (Or.inr (slot_ne (Or.inr (hw _ (List.mem_of_getElem? (i := 37) rfl))) (Or.inr (hw _ (List.mem_of_getElem? (i := 35) rfl))) (by decide) (t := (.array .int)) (t' := (.array .int)) (by decide) (by decide)))
  have F846 := F811.other W831 (Or.inr (slot_ne (Or.inr (hw _ (List.mem_of_getElem? (i := 39) rfl))) (Or.inr (hw _ (List.mem_of_getElem? (i := 35) rfl))) (by decide) (t := (.array .int)) (t' := (.array .int)) (by decide) (by decide)))
  have F847 := F812.other W831 (Or.inr (slot_ne (Or.inl (hw _ (List.mem_of_getElem? (i := 46) rfl))) (Or.inr (hw _ (List.mem_of_getElem? (i := 35) rfl))) (by decide) (t := .int) (t' := (.array .int)) (by decide) (by decide)))
  have F848 := F813.other W831 (Or.inr (slot_ne (Or.inl (hw _ (List.mem_of_getElem? (i := 48) rfl))) (Or.inr (hw _ (List.mem_of_getElem? (i := 35) rfl))) (by decide) (t := .int) (t' := (.array .int)) (by decide) (by decide)))
  have F849 := F814.other W831 (Ne.symm ne12)
  have F850 := F815.other W831 (Ne.symm ne68)
  have F851 := F816.other W831 (Ne.symm ne127)
  have F852 := F817.other W831 (Ne.symm ne189)
  have F853 := F818.other W831 (Ne.symm ne254)
  have F854 := F819.other W831 (Ne.symm ne322)
  have F855 := F820.other W831 (Ne.symm ne393)
  have F856 := F821.other W831 (Ne.symm ne624)
  have F857 := F822.other W831 (Ne.symm ne467)
  have F858 := F823.other W831 (Ne.symm ne544)
  have F859 := B783.other W831 (Ne.symm ne785)
  have Zs860 := Nat.le_trans Zs824 (Nat.le_of_eq W831.size.symm)
  have Kp861 : Keep h0 h827 [b0] := Kp825.wr W831 (Or.inl (List.mem_of_getElem? (i := 0) rfl))
  refine g_aloadN 98 rfl C X829 d1_97 rfl rfl ?_
  refine g_iloadN 99 rfl C X829 d1_98 rfl ?_
  refine g_newP 101 rfl C X829 4 (by decide) 4 (by decide) (by decide) rfl (hw _ (List.mem_of_getElem? (i := 9) rfl)) e830 d1_99 (by decide) (by decide) fun T862 h863 o864 g865 X866 e867 E868 B869 => ?_
  have lf870 := F859.lt
  have ne871 : b0 ≠ o864 := by rw [g865]; exact Nat.ne_of_lt F834.lt
  have ne872 : o120 ≠ o864 := by rw [g865]; exact Nat.ne_of_lt F851.lt
  have ne873 : o182 ≠ o864 := by rw [g865]; exact Nat.ne_of_lt F852.lt
  have ne874 : o247 ≠ o864 := by rw [g865]; exact Nat.ne_of_lt F853.lt
  have ne875 : o315 ≠ o864 := by rw [g865]; exact Nat.ne_of_lt F854.lt
  have ne876 : o386 ≠ o864 := by rw [g865]; exact Nat.ne_of_lt F855.lt
  have ne877 : o460 ≠ o864 := by rw [g865]; exact Nat.ne_of_lt F857.lt
  have ne878 : o537 ≠ o864 := by rw [g865]; exact Nat.ne_of_lt F858.lt
  have ne879 : o6 ≠ o864 := by rw [g865]; exact Nat.ne_of_lt F849.lt
  have ne880 : o61 ≠ o864 := by rw [g865]; exact Nat.ne_of_lt F850.lt
  have ne881 : o617 ≠ o864 := by rw [g865]; exact Nat.ne_of_lt F856.lt
  have ne882 : o778 ≠ o864 := by rw [g865]; exact Nat.ne_of_lt F859.lt
  have gn883 : n0 ≤ o864 := by rw [g865]; exact Zs860
  have sz884 : h0.size ≤ o864 := by rw [g865]; exact Kp861.1
  have F885 := F834.ext E868
  have F886 := F835.ext E868
  have F887 := F836.ext E868
  have F888 := F837.ext E868
  have F889 := F838.ext E868
  have F890 := F839.ext E868
  have F891 := F840.ext E868
  have F892 := F841.ext E868
  have F893 := F842.ext E868
  have F894 := F843.ext E868
  have F895 := F844.ext E868
  have F896 := F833.ext E868
  have F897 := F845.ext E868
  have F898 := F846.ext E868
  have F899 := F847.ext E868
  have F900 := F848.ext E868
  have F901 := F849.ext E868
  have F902 := F850.ext E868
  have F903 := F851.ext E868
  have F904 := F852.ext E868
  have F905 := F853.ext E868
  have F906 := F854.ext E868
  have F907 := F855.ext E868
  have F908 := F856.ext E868
  have F909 := F857.ext E868
  have F910 := F858.ext E868
  have F911 := F859.ext E868
  have Zs912 := Nat.le_trans Zs860 E868.1
  have Kp913 : Keep h0 h863 [b0] := Kp861.ext E868
  refine g_putF 104 rfl C X866 (host := "") (Or.inl (hw _ (List.mem_of_getElem? (i := 36) rfl))) Via.refl e867 F897 F885 (Or.inr ⟨(hw _ (List.mem_of_getElem? (i := 37) rfl)), rfl, rfl⟩) (hw _ (List.mem_of_getElem? (i := 1) rfl)) (ty := (.array .int)) (by decide) rfl rfl d1_101 N832 g_b0 fun T914 h915 ls916 X917 e918 W919 N920 => ?_
  have F921 : Fld Z h915 b0 "com/example/bisimulation/bisimulation/lts/Exits" "nextMember" "[I" (.ref o864) := F897.same W919
  have F922 := F885.wr W919
  have F923 := F886.other W919 (Or.inr (slot_ne (Or.inr (hw _ (List.mem_of_getElem? (i := 11) rfl))) (Or.inr (hw _ (List.mem_of_getElem? (i := 37) rfl))) (by decide) (t := (.array .int)) (t' := (.array .int)) (by decide) (by decide)))
  have F924 := F887.other W919 (Or.inr (slot_ne (Or.inr (hw _ (List.mem_of_getElem? (i := 13) rfl))) (Or.inr (hw _ (List.mem_of_getElem? (i := 37) rfl))) (by decide) (t := (.array .int)) (t' := (.array .int)) (by decide) (by decide)))
  have F925 := F888.other W919 (Or.inr (slot_ne (Or.inr (hw _ (List.mem_of_getElem? (i := 15) rfl))) (Or.inr (hw _ (List.mem_of_getElem? (i := 37) rfl))) (by decide) (t := (.array .int)) (t' := (.array .int)) (by decide) (by decide)))
  have F926 := F889.other W919 (Or.inr (slot_ne (Or.inr (hw _ (List.mem_of_getElem? (i := 17) rfl))) (Or.inr (hw _ (List.mem_of_getElem? (i := 37) rfl))) (by decide) (t := (.array .int)) (t' := (.array .int)) (by decide) (by decide)))
  have F927 := F890.other W919 (Or.inr (slot_ne (Or.inr (hw _ (List.mem_of_getElem? (i := 19) rfl))) (Or.inr (hw _ (List.mem_of_getElem? (i := 37) rfl))) (by decide) (t := (.array .int)) (t' := (.array .int)) (by decide) (by decide)))
  have F928 := F891.other W919 (Or.inr (slot_ne (Or.inr (hw _ (List.mem_of_getElem? (i := 21) rfl))) (Or.inr (hw _ (List.mem_of_getElem? (i := 37) rfl))) (by decide) (t := (.array .int)) (t' := (.array .int)) (by decide) (by decide)))
  have F929 := F892.other W919 (Or.inr (slot_ne (Or.inr (hw _ (List.mem_of_getElem? (i := 23) rfl))) (Or.inr (hw _ (List.mem_of_getElem? (i := 37) rfl))) (by decide) (t := (.array .int)) (t' := (.array .int)) (by decide) (by decide)))
  have F930 := F893.other W919 (Or.inr (slot_ne (Or.inr (hw _ (List.mem_of_getElem? (i := 25) rfl))) (Or.inr (hw _ (List.mem_of_getElem? (i := 37) rfl))) (by decide) (t := (.array .int)) (t' := (.array .int)) (by decide) (by decide)))
  have F931 := F894.other W919 (Or.inr (slot_ne (Or.inr (hw _ (List.mem_of_getElem? (i := 27) rfl))) (Or.inr (hw _ (List.mem_of_getElem? (i := 37) rfl))) (by decide) (t := (.array .int)) (t' := (.array .int)) (by decide) (by decide)))
  have F932 := F895.other W919 (Or.inr (slot_ne (Or.inr (hw _ (List.mem_of_getElem? (i := 29) rfl))) (Or.inr (hw _ (List.mem_of_getElem? (i := 37) rfl))) (by decide) (t := (.array .int)) (t' := (.array .int)) (by decide) (by decide)))
  have F933 := F896.other W919 (Or.inr (slot_ne (Or.inr (hw _ (List.mem_of_getElem? (i := 35) rfl))) (Or.inr (hw _ (List.mem_of_getElem? (i := 37) rfl))) (by decide) (t := (.array .int)) (t' := (.array .int)) (by decide) (by decide)))
  have F934 := F898.other W919 (Or.inr (slot_ne (Or.inr (hw _ (List.mem_of_getElem? (i := 39) rfl))) (Or.inr (hw _ (List.mem_of_getElem? (i := 37) rfl))) (by decide) (t := (.array .int)) (t' := (.array .int)) (by decide) (by decide)))
  have F935 := F899.other W919 (Or.inr (slot_ne (Or.inl (hw _ (List.mem_of_getElem? (i := 46) rfl))) (Or.inr (hw _ (List.mem_of_getElem? (i := 37) rfl))) (by decide) (t := .int) (t' := (.array .int)) (by decide) (by decide)))
  have F936 := F900.other W919 (Or.inr (slot_ne (Or.inl (hw _ (List.mem_of_getElem? (i := 48) rfl))) (Or.inr (hw _ (List.mem_of_getElem? (i := 37) rfl))) (by decide) (t := .int) (t' := (.array .int)) (by decide) (by decide)))
  have F937 := F901.other W919 (Ne.symm ne12)
  have F938 := F902.other W919 (Ne.symm ne68)
  have F939 := F903.other W919 (Ne.symm ne127)
  have F940 := F904.other W919 (Ne.symm ne189)
  have F941 := F905.other W919 (Ne.symm ne254)
  have F942 := F906.other W919 (Ne.symm ne322)
  have F943 := F907.other W919 (Ne.symm ne393)
  have F944 := F908.other W919 (Ne.symm ne624)
  have F945 := F909.other W919 (Ne.symm ne467)
  have F946 := F910.other W919 (Ne.symm ne544)
  have F947 := F911.other W919 (Ne.symm ne785)
  have F948 := B869.other W919 (Ne.symm ne871)
  have Zs949 := Nat.le_trans Zs912 (Nat.le_of_eq W919.size.symm)
  have Kp950 : Keep h0 h915 [b0] := Kp913.wr W919 (Or.inl (List.mem_of_getElem? (i := 0) rfl))
  refine g_aloadN 105 rfl C X917 d1_104 rfl rfl ?_
  refine g_iloadN 106 rfl C X917 d1_105 rfl ?_
  refine g_newP 108 rfl C X917 4 (by decide) 4 (by decide) (by decide) rfl (hw _ (List.mem_of_getElem? (i := 9) rfl)) e918 d1_106 (by decide) (by decide) fun T951 h952 o953 g954 X955 e956 E957 B958 => ?_
  have lf959 := F948.lt
  have ne960 : b0 ≠ o953 := by rw [g954]; exact Nat.ne_of_lt F922.lt
  have ne961 : o120 ≠ o953 := by rw [g954]; exact Nat.ne_of_lt F939.lt
  have ne962 : o182 ≠ o953 := by rw [g954]; exact Nat.ne_of_lt F940.lt
  have ne963 : o247 ≠ o953 := by rw [g954]; exact Nat.ne_of_lt F941.lt
  have ne964 : o315 ≠ o953 := by rw [g954]; exact Nat.ne_of_lt F942.lt
  have ne965 : o386 ≠ o953 := by rw [g954]; exact Nat.ne_of_lt F943.lt
  have ne966 : o460 ≠ o953 := by rw [g954]; exact Nat.ne_of_lt F945.lt
  have ne967 : o537 ≠ o953 := by rw [g954]; exact Nat.ne_of_lt F946.lt
  have ne968 : o6 ≠ o953 := by rw [g954]; exact Nat.ne_of_lt F937.lt
  have ne969 : o61 ≠ o953 := by rw [g954]; exact Nat.ne_of_lt F938.lt
  have ne970 : o617 ≠ o953 := by rw [g954]; exact Nat.ne_of_lt F944.lt
  have ne971 : o778 ≠ o953 := by rw [g954]; exact Nat.ne_of_lt F947.lt
  have ne972 : o864 ≠ o953 := by rw [g954]; exact Nat.ne_of_lt F948.lt
  have gn973 : n0 ≤ o953 := by rw [g954]; exact Zs949
  have sz974 : h0.size ≤ o953 := by rw [g954]; exact Kp950.1
  have F975 := F922.ext E957
  have F976 := F923.ext E957
  have F977 := F924.ext E957
  have F978 := F925.ext E957
  have F979 := F926.ext E957
  have F980 := F927.ext E957
  have F981 := F928.ext E957
  have F982 := F929.ext E957
  have F983 := F930.ext E957
  have F984 := F931.ext E957
  have F985 := F932.ext E957
  have F986 := F933.ext E957
  have F987 := F921.ext E957
  have F988 := F934.ext E957
  have F989 := F935.ext E957
  have F990 := F936.ext E957
  have F991 := F937.ext E957
  have F992 := F938.ext E957
  have F993 := F939.ext E957
  have F994 := F940.ext E957
  have F995 := F941.ext E957
  have F996 := F942.ext E957
  have F997 := F943.ext E957
  have F998 := F944.ext E957
  have F999 := F945.ext E957
  have F1000 := F946.ext E957
  have F1001 := F947.ext E957
  have F1002 := F948.ext E957
  have Zs1003 := Nat.le_trans Zs949 E957.1
  have Kp1004 : Keep h0 h952 [b0] := Kp950.ext E957
  refine g_putF 111 rfl C X955 (host := "") (Or.inl (hw _ (List.mem_of_getElem? (i := 38) rfl))) Via.refl e956 F988 F975 (Or.inr ⟨(hw _ (List.mem_of_getElem? (i := 39) rfl)), rfl, rfl⟩) (hw _ (List.mem_of_getElem? (i := 1) rfl)) (ty := (.array .int)) (by decide) rfl rfl d1_108 N920 g_b0 fun T1005 h1006 ls1007 X1008 e1009 W1010 N1011 => ?_
  have F1012 : Fld Z h1006 b0 "com/example/bisimulation/bisimulation/lts/Exits" "previousMember" "[I" (.ref o953) := F988.same W1010
  have F1013 := F975.wr W1010
  have F1014 := F976.other W1010 (Or.inr (slot_ne (Or.inr (hw _ (List.mem_of_getElem? (i := 11) rfl))) (Or.inr (hw _ (List.mem_of_getElem? (i := 39) rfl))) (by decide) (t := (.array .int)) (t' := (.array .int)) (by decide) (by decide)))
  have F1015 := F977.other W1010 (Or.inr (slot_ne (Or.inr (hw _ (List.mem_of_getElem? (i := 13) rfl))) (Or.inr (hw _ (List.mem_of_getElem? (i := 39) rfl))) (by decide) (t := (.array .int)) (t' := (.array .int)) (by decide) (by decide)))
  have F1016 := F978.other W1010 (Or.inr (slot_ne (Or.inr (hw _ (List.mem_of_getElem? (i := 15) rfl))) (Or.inr (hw _ (List.mem_of_getElem? (i := 39) rfl))) (by decide) (t := (.array .int)) (t' := (.array .int)) (by decide) (by decide)))
  have F1017 := F979.other W1010 (Or.inr (slot_ne (Or.inr (hw _ (List.mem_of_getElem? (i := 17) rfl))) (Or.inr (hw _ (List.mem_of_getElem? (i := 39) rfl))) (by decide) (t := (.array .int)) (t' := (.array .int)) (by decide) (by decide)))
  have F1018 := F980.other W1010 (Or.inr (slot_ne (Or.inr (hw _ (List.mem_of_getElem? (i := 19) rfl))) (Or.inr (hw _ (List.mem_of_getElem? (i := 39) rfl))) (by decide) (t := (.array .int)) (t' := (.array .int)) (by decide) (by decide)))
  have F1019 := F981.other W1010 (Or.inr (slot_ne (Or.inr (hw _ (List.mem_of_getElem? (i := 21) rfl))) (Or.inr (hw _ (List.mem_of_getElem? (i := 39) rfl))) (by decide) (t := (.array .int)) (t' := (.array .int)) (by decide) (by decide)))
  have F1020 := F982.other W1010 (Or.inr (slot_ne (Or.inr (hw _ (List.mem_of_getElem? (i := 23) rfl))) (Or.inr (hw _ (List.mem_of_getElem? (i := 39) rfl))) (by decide) (t := (.array .int)) (t' := (.array .int)) (by decide) (by decide)))
  have F1021 := F983.other W1010 (Or.inr (slot_ne (Or.inr (hw _ (List.mem_of_getElem? (i := 25) rfl))) (Or.inr (hw _ (List.mem_of_getElem? (i := 39) rfl))) (by decide) (t := (.array .int)) (t' := (.array .int)) (by decide) (by decide)))
  have F1022 := F984.other W1010 (Or.inr (slot_ne (Or.inr (hw _ (List.mem_of_getElem? (i := 27) rfl))) (Or.inr (hw _ (List.mem_of_getElem? (i := 39) rfl))) (by decide) (t := (.array .int)) (t' := (.array .int)) (by decide) (by decide)))
  have F1023 := F985.other W1010 (Or.inr (slot_ne (Or.inr (hw _ (List.mem_of_getElem? (i := 29) rfl))) (Or.inr (hw _ (List.mem_of_getElem? (i := 39) rfl))) (by decide) (t := (.array .int)) (t' := (.array .int)) (by decide) (by decide)))
  have F1024 := F986.other W1010 (Or.inr (slot_ne (Or.inr (hw _ (List.mem_of_getElem? (i := 35) rfl))) (Or.inr (hw _ (List.mem_of_getElem? (i := 39) rfl))) (by decide) (t := (.array .int)) (t' := (.array .int)) (by decide) (by decide)))
  have F1025 := F987.other W1010 (Or.inr (slot_ne (Or.inr (hw _ (List.mem_of_getElem? (i := 37) rfl))) (Or.inr (hw _ (List.mem_of_getElem? (i := 39) rfl))) (by decide) (t := (.array .int)) (t' := (.array .int)) (by decide) (by decide)))
  have F1026 := F989.other W1010 (Or.inr (slot_ne (Or.inl (hw _ (List.mem_of_getElem? (i := 46) rfl))) (Or.inr (hw _ (List.mem_of_getElem? (i := 39) rfl))) (by decide) (t := .int) (t' := (.array .int)) (by decide) (by decide)))
  have F1027 := F990.other W1010 (Or.inr (slot_ne (Or.inl (hw _ (List.mem_of_getElem? (i := 48) rfl))) (Or.inr (hw _ (List.mem_of_getElem? (i := 39) rfl))) (by decide) (t := .int) (t' := (.array .int)) (by decide) (by decide)))
  have F1028 := F991.other W1010 (Ne.symm ne12)
  have F1029 := F992.other W1010 (Ne.symm ne68)
  have F1030 := F993.other W1010 (Ne.symm ne127)
  have F1031 := F994.other W1010 (Ne.symm ne189)
  have F1032 := F995.other W1010 (Ne.symm ne254)
  have F1033 := F996.other W1010 (Ne.symm ne322)
  have F1034 := F997.other W1010 (Ne.symm ne393)
  have F1035 := F998.other W1010 (Ne.symm ne624)
  have F1036 := F999.other W1010 (Ne.symm ne467)
  have F1037 := F1000.other W1010 (Ne.symm ne544)
  have F1038 := F1001.other W1010 (Ne.symm ne785)
  have F1039 := F1002.other W1010 (Ne.symm ne871)
  have F1040 := B958.other W1010 (Ne.symm ne960)
  have Zs1041 := Nat.le_trans Zs1003 (Nat.le_of_eq W1010.size.symm)
  have Kp1042 : Keep h0 h1006 [b0] := Kp1004.wr W1010 (Or.inl (List.mem_of_getElem? (i := 0) rfl))
  refine g_aloadN 112 rfl C X1008 d1_111 rfl rfl ?_
  refine g_getF 115 rfl C X1008 (host := "") (Or.inl (hw _ (List.mem_of_getElem? (i := 34) rfl))) Via.refl e1009 F1024 d1_112 fun T1043 X1044 e1045 => ?_
  refine g_iconst 116 rfl C X1044 (-1 : Int32) d1_115 rfl ?_
  refine g_callS 119 rfl C X1044 (argsL := [(.ref o778), (.int (-1 : Int32))]) (hw _ (List.mem_of_getElem? (i := 30) rfl)) (hw _ (List.mem_of_getElem? (i := 31) rfl)) (hw _ (List.mem_of_getElem? (i := 33) rfl)) (hw _ (List.mem_of_getElem? (i := 32) rfl)) e1045 (rm3_4 l Z a0 hw [] o778 (-1 : Int32) (fun _ => 0) h1006 n0 Zs1041 F1038 gn796) (lenOf pd_36457671 rfl) (by decide) (by decide) (by decide) (by decide) rfl (W := 0) (Nat.le_of_eq rfl) (by decide) d1_116 rfl fun r1046 T1047 Lc1048 X1049 hQ1050 => ?_
  obtain ⟨rfl, Nq1051, Kc1052, F1053⟩ := hQ1050
  have F1054 := F1013.keep Kc1052
  have F1055 := F1014.keep Kc1052 (ninS ne785 nin0)
  have F1056 := F1015.keep Kc1052 (ninS ne785 nin0)
  have F1057 := F1016.keep Kc1052 (ninS ne785 nin0)
  have F1058 := F1017.keep Kc1052 (ninS ne785 nin0)
  have F1059 := F1018.keep Kc1052 (ninS ne785 nin0)
  have F1060 := F1019.keep Kc1052 (ninS ne785 nin0)
  have F1061 := F1020.keep Kc1052 (ninS ne785 nin0)
  have F1062 := F1021.keep Kc1052 (ninS ne785 nin0)
  have F1063 := F1022.keep Kc1052 (ninS ne785 nin0)
  have F1064 := F1023.keep Kc1052 (ninS ne785 nin0)
  have F1065 := F1024.keep Kc1052 (ninS ne785 nin0)
  have F1066 := F1025.keep Kc1052 (ninS ne785 nin0)
  have F1067 := F1012.keep Kc1052 (ninS ne785 nin0)
  have F1068 := F1026.keep Kc1052 (ninS ne785 nin0)
  have F1069 := F1027.keep Kc1052 (ninS ne785 nin0)
  have F1070 := F1028.keep Kc1052 (ninS ne793 nin0)
  have F1071 := F1029.keep Kc1052 (ninS ne794 nin0)
  have F1072 := F1030.keep Kc1052 (ninS ne786 nin0)
  have F1073 := F1031.keep Kc1052 (ninS ne787 nin0)
  have F1074 := F1032.keep Kc1052 (ninS ne788 nin0)
  have F1075 := F1033.keep Kc1052 (ninS ne789 nin0)
  have F1076 := F1034.keep Kc1052 (ninS ne790 nin0)
  have F1077 := F1035.keep Kc1052 (ninS ne795 nin0)
  have F1078 := F1036.keep Kc1052 (ninS ne791 nin0)
  have F1079 := F1037.keep Kc1052 (ninS ne792 nin0)
  have F1080 := F1039.keep Kc1052 (ninS (Ne.symm ne882) nin0)
  have F1081 := F1040.keep Kc1052 (ninS (Ne.symm ne971) nin0)
  have Zs1082 := Nat.le_trans Zs1041 Kc1052.1
  have Kp1083 : Keep h0 T1047.heap [b0] := Keep.trans Kp1042 Kc1052 (allS (Or.inr sz797) all0)
  have N1084 := Fr.app N1011 Nq1051
  show Goes _ _ _ _ _ _ 119 _ []
  have lt1085 : o6 < o61 := by rw [g62]; exact lf67
  have lt1086 : o61 < o120 := by rw [g121]; exact lf126
  have lt1087 : o120 < o182 := by rw [g183]; exact lf188
  have lt1088 : o182 < o247 := by rw [g248]; exact lf253
  have lt1089 : o247 < o315 := by rw [g316]; exact lf321
  have lt1090 : o315 < o386 := by rw [g387]; exact lf392
  have lt1091 : o386 < o460 := by rw [g461]; exact lf466
  have lt1092 : o460 < o537 := by rw [g538]; exact lf543
  have lt1093 : o537 < o617 := by rw [g618]; exact lf623
  have lt1094 : o617 < o778 := by rw [g779]; exact lf784
  have lt1095 : o778 < o864 := by rw [g865]; exact lf870
  have lt1096 : o864 < o953 := by rw [g954]; exact lf959
  exact g_retV C X1049 rfl d1_119 rfl (by decide) (by decide) ⟨o6, o61, o120, o182, o247, o315, o386, o460, o537, o617, o778, o864, o953, rfl, N1084, Kp1083, F1054, F1055, F1056, F1057, F1058, F1059, F1060, F1061, F1062, F1063, F1064, F1065, F1066, F1067, F1068, F1069, F1070, F1071, F1072, F1073, F1074, F1075, F1076, F1078, F1079, F1077, F1053, F1080, F1081, sz14, lt1085, lt1086, lt1087, lt1088, lt1089, lt1090, lt1091, lt1092, lt1093, lt1094, lt1095, lt1096⟩
theorem d7_0 : decode prog_51_method_12_code 0 = .ok (.aload_n 0, 1) := by decide +kernel
theorem d7_1 : decode prog_51_method_12_code 1 = .ok (.getfield 19, 3) := by decide +kernel
theorem d7_4 : decode prog_51_method_12_code 4 = .ok (.iload_n 1, 1) := by decide +kernel
theorem d7_5 : decode prog_51_method_12_code 5 = .ok (.iaload, 1) := by decide +kernel
theorem d7_6 : decode prog_51_method_12_code 6 = .ok (.ireturn, 1) := by decide +kernel
theorem ef_7 (m : MethodId) (b0 : Addr) (p1 : Int32) : entryFrame m #[(.ref b0), (.int p1)] 2 = mkF m 0 #[.val (.ref b0), .val (.int p1)] [] := by first | (simp [entryFrame, mkF, argsToLocals, Value.category]; done) | rfl
def Q7 (Z : State) (b0 : Addr) (p1 : Int32) (w3 : Addr) (f : Nat → Int32) (i : Nat) (x : Int32) (h0 : Heap) (n0 : Nat) (v : Option Value) (h : Heap) (L : List Loc) : Prop := v = some (.int x) ∧ Fr n0 L ∧ h = h0
set_option maxRecDepth 65536 in
set_option maxHeartbeats 40000000 in
theorem rm7 (l : Launch) (Z : State) (a0 : Array Value) (hw : ∀ d ∈ tables_1, d.before a0 Z = true) (ws : List Jvm.Cond) (b0 : Addr) (p1 : Int32) (w3 : Addr) (f : Nat → Int32) (i : Nat) (x : Int32) (h0 : Heap) (n0 : Nat) (Z0 : n0 ≤ h0.size) (E_b0 : Exa Z h0 b0 "com/example/bisimulation/bisimulation/lts/Exits") (F_firstMember : Fld Z h0 b0 "com/example/bisimulation/bisimulation/lts/Exits" "firstMember" "[I" (.ref w3)) (B_firstMember : Ba Z h0 w3 .int 4 f) (lt_b0_w3 : b0 < w3) (g_b0 : n0 ≤ b0) (hi : p1.toInt = i) (hi4 : i < 4) (hx : f i = x) :
    MetFree l (⟨"com/example/bisimulation/bisimulation/lts/Exits", "firstMember", "(I)I"⟩ : MethodName) (head1 (Jvm.Cond.code (⟨"com/example/bisimulation/bisimulation/lts/Exits", "firstMember", "(I)I"⟩ : MethodName) prog_51_method_12_code 2 (some .int) :: ws) ({ frames := 0, cells := 0, slots := 0, locals := 0 } : Room)) (fun a U => a = #[(.ref b0), (.int p1)] ∧ Z.Warmed39 U.vm ∧ U.heap = h0) (fun _ _ _ _ _ => True) (fun _ U o U' => ∃ v L, o = .returned v ∧ Q7 Z b0 p1 w3 f i x h0 n0 v U'.heap L ∧ FrameEnd U o U' L ({ frames := 0, cells := 0, slots := 0, locals := 0 } : Room).cells ({ frames := 0, cells := 0, slots := 0, locals := 0 } : Room).slots) := by
  refine MetFree.of_bodySF (plainFor_of_name pn_90945715) hisR ?_
  intro p e s m args below meth c s₁ Bd hml0 hP hK
  obtain ⟨rfl, hZ, hh⟩ := hP
  have C : Ctx p s m meth c Z "com/example/bisimulation/bisimulation/lts/Exits" "firstMember" prog_51_method_12_code 2 (some .int) := Ctx.of Bd hml0 hZ
  have X0 : Stand p l e ({ frames := 0, cells := 0, slots := 0, locals := 0 } : Room) s m #[(.ref b0), (.int p1)] below meth c s₁ [] 0 0 := Stand.of_body Bd
  have e0 : s₁.heap = h0 := by rw [← hh, Bd.state]; rfl
  have N0 := Fr.nil n0
  refine Goes.enter (ef_7 m b0 p1) ?_
  clear hK hml0 hh
  refine g_aloadN 1 rfl C X0 d7_0 rfl rfl ?_
  refine g_getF 4 rfl C X0 (host := "") (Or.inl (hw _ (List.mem_of_getElem? (i := 16) rfl))) Via.refl e0 F_firstMember d7_1 fun T1 X2 e3 => ?_
  refine g_iloadN 5 rfl C X2 d7_4 rfl ?_
  have fr4 := rng32 p1
  refine g_iaload 6 rfl C X2 e3 B_firstMember (i) (by omega) (by omega) x hx d7_5 ?_
  exact g_retI C X2 rfl d7_6 e3 (by decide) (by decide) ⟨rfl, N0, rfl⟩
theorem d8_0 : decode prog_51_method_13_code 0 = .ok (.aload_n 0, 1) := by decide +kernel
theorem d8_1 : decode prog_51_method_13_code 1 = .ok (.getfield 49, 3) := by decide +kernel
theorem d8_4 : decode prog_51_method_13_code 4 = .ok (.iload_n 1, 1) := by decide +kernel
theorem d8_5 : decode prog_51_method_13_code 5 = .ok (.iaload, 1) := by decide +kernel
theorem d8_6 : decode prog_51_method_13_code 6 = .ok (.ireturn, 1) := by decide +kernel
theorem ef_8 (m : MethodId) (b0 : Addr) (p1 : Int32) : entryFrame m #[(.ref b0), (.int p1)] 2 = mkF m 0 #[.val (.ref b0), .val (.int p1)] [] := by first | (simp [entryFrame, mkF, argsToLocals, Value.category]; done) | rfl
def Q8 (Z : State) (b0 : Addr) (p1 : Int32) (w11 : Addr) (f : Nat → Int32) (i : Nat) (x : Int32) (h0 : Heap) (n0 : Nat) (v : Option Value) (h : Heap) (L : List Loc) : Prop := v = some (.int x) ∧ Fr n0 L ∧ h = h0
set_option maxRecDepth 65536 in
set_option maxHeartbeats 40000000 in
theorem rm8 (l : Launch) (Z : State) (a0 : Array Value) (hw : ∀ d ∈ tables_1, d.before a0 Z = true) (ws : List Jvm.Cond) (b0 : Addr) (p1 : Int32) (w11 : Addr) (f : Nat → Int32) (i : Nat) (x : Int32) (h0 : Heap) (n0 : Nat) (Z0 : n0 ≤ h0.size) (E_b0 : Exa Z h0 b0 "com/example/bisimulation/bisimulation/lts/Exits") (F_nextMember : Fld Z h0 b0 "com/example/bisimulation/bisimulation/lts/Exits" "nextMember" "[I" (.ref w11)) (B_nextMember : Ba Z h0 w11 .int 4 f) (lt_b0_w11 : b0 < w11) (g_b0 : n0 ≤ b0) (hi : p1.toInt = i) (hi4 : i < 4) (hx : f i = x) :
    MetFree l (⟨"com/example/bisimulation/bisimulation/lts/Exits", "nextMember", "(I)I"⟩ : MethodName) (head1 (Jvm.Cond.code (⟨"com/example/bisimulation/bisimulation/lts/Exits", "nextMember", "(I)I"⟩ : MethodName) prog_51_method_13_code 2 (some .int) :: ws) ({ frames := 0, cells := 0, slots := 0, locals := 0 } : Room)) (fun a U => a = #[(.ref b0), (.int p1)] ∧ Z.Warmed39 U.vm ∧ U.heap = h0) (fun _ _ _ _ _ => True) (fun _ U o U' => ∃ v L, o = .returned v ∧ Q8 Z b0 p1 w11 f i x h0 n0 v U'.heap L ∧ FrameEnd U o U' L ({ frames := 0, cells := 0, slots := 0, locals := 0 } : Room).cells ({ frames := 0, cells := 0, slots := 0, locals := 0 } : Room).slots) := by
  refine MetFree.of_bodySF (plainFor_of_name pn_90945715) hisR ?_
  intro p e s m args below meth c s₁ Bd hml0 hP hK
  obtain ⟨rfl, hZ, hh⟩ := hP
  have C : Ctx p s m meth c Z "com/example/bisimulation/bisimulation/lts/Exits" "nextMember" prog_51_method_13_code 2 (some .int) := Ctx.of Bd hml0 hZ
  have X0 : Stand p l e ({ frames := 0, cells := 0, slots := 0, locals := 0 } : Room) s m #[(.ref b0), (.int p1)] below meth c s₁ [] 0 0 := Stand.of_body Bd
  have e0 : s₁.heap = h0 := by rw [← hh, Bd.state]; rfl
  have N0 := Fr.nil n0
  refine Goes.enter (ef_8 m b0 p1) ?_
  clear hK hml0 hh
  refine g_aloadN 1 rfl C X0 d8_0 rfl rfl ?_
  refine g_getF 4 rfl C X0 (host := "") (Or.inl (hw _ (List.mem_of_getElem? (i := 36) rfl))) Via.refl e0 F_nextMember d8_1 fun T1 X2 e3 => ?_
  refine g_iloadN 5 rfl C X2 d8_4 rfl ?_
  have fr4 := rng32 p1
  refine g_iaload 6 rfl C X2 e3 B_nextMember (i) (by omega) (by omega) x hx d8_5 ?_
  exact g_retI C X2 rfl d8_6 e3 (by decide) (by decide) ⟨rfl, N0, rfl⟩
theorem d9_0 : decode prog_51_method_6_code 0 = .ok (.aload_n 0, 1) := by decide +kernel
theorem d9_1 : decode prog_51_method_6_code 1 = .ok (.getfield 46, 3) := by decide +kernel
theorem d9_4 : decode prog_51_method_6_code 4 = .ok (.iload_n 1, 1) := by decide +kernel
theorem d9_5 : decode prog_51_method_6_code 5 = .ok (.iaload, 1) := by decide +kernel
theorem d9_6 : decode prog_51_method_6_code 6 = .ok (.ireturn, 1) := by decide +kernel
theorem ef_9 (m : MethodId) (b0 : Addr) (p1 : Int32) : entryFrame m #[(.ref b0), (.int p1)] 2 = mkF m 0 #[.val (.ref b0), .val (.int p1)] [] := by first | (simp [entryFrame, mkF, argsToLocals, Value.category]; done) | rfl
def Q9 (Z : State) (b0 : Addr) (p1 : Int32) (w10 : Addr) (f : Nat → Int32) (i : Nat) (x : Int32) (h0 : Heap) (n0 : Nat) (v : Option Value) (h : Heap) (L : List Loc) : Prop := v = some (.int x) ∧ Fr n0 L ∧ h = h0
set_option maxRecDepth 65536 in
set_option maxHeartbeats 40000000 in
theorem rm9 (l : Launch) (Z : State) (a0 : Array Value) (hw : ∀ d ∈ tables_1, d.before a0 Z = true) (ws : List Jvm.Cond) (b0 : Addr) (p1 : Int32) (w10 : Addr) (f : Nat → Int32) (i : Nat) (x : Int32) (h0 : Heap) (n0 : Nat) (Z0 : n0 ≤ h0.size) (E_b0 : Exa Z h0 b0 "com/example/bisimulation/bisimulation/lts/Exits") (F_exitOfCounter : Fld Z h0 b0 "com/example/bisimulation/bisimulation/lts/Exits" "exitOfCounter" "[I" (.ref w10)) (B_exitOfCounter : Ba Z h0 w10 .int 4 f) (lt_b0_w10 : b0 < w10) (g_b0 : n0 ≤ b0) (hi : p1.toInt = i) (hi4 : i < 4) (hx : f i = x) :
    MetFree l (⟨"com/example/bisimulation/bisimulation/lts/Exits", "exitOf", "(I)I"⟩ : MethodName) (head1 (Jvm.Cond.code (⟨"com/example/bisimulation/bisimulation/lts/Exits", "exitOf", "(I)I"⟩ : MethodName) prog_51_method_6_code 2 (some .int) :: ws) ({ frames := 0, cells := 0, slots := 0, locals := 0 } : Room)) (fun a U => a = #[(.ref b0), (.int p1)] ∧ Z.Warmed39 U.vm ∧ U.heap = h0) (fun _ _ _ _ _ => True) (fun _ U o U' => ∃ v L, o = .returned v ∧ Q9 Z b0 p1 w10 f i x h0 n0 v U'.heap L ∧ FrameEnd U o U' L ({ frames := 0, cells := 0, slots := 0, locals := 0 } : Room).cells ({ frames := 0, cells := 0, slots := 0, locals := 0 } : Room).slots) := by
  refine MetFree.of_bodySF (plainFor_of_name pn_90945715) hisR ?_
  intro p e s m args below meth c s₁ Bd hml0 hP hK
  obtain ⟨rfl, hZ, hh⟩ := hP
  have C : Ctx p s m meth c Z "com/example/bisimulation/bisimulation/lts/Exits" "exitOf" prog_51_method_6_code 2 (some .int) := Ctx.of Bd hml0 hZ
  have X0 : Stand p l e ({ frames := 0, cells := 0, slots := 0, locals := 0 } : Room) s m #[(.ref b0), (.int p1)] below meth c s₁ [] 0 0 := Stand.of_body Bd
  have e0 : s₁.heap = h0 := by rw [← hh, Bd.state]; rfl
  have N0 := Fr.nil n0
  refine Goes.enter (ef_9 m b0 p1) ?_
  clear hK hml0 hh
  refine g_aloadN 1 rfl C X0 d9_0 rfl rfl ?_
  refine g_getF 4 rfl C X0 (host := "") (Or.inl (hw _ (List.mem_of_getElem? (i := 34) rfl))) Via.refl e0 F_exitOfCounter d9_1 fun T1 X2 e3 => ?_
  refine g_iloadN 5 rfl C X2 d9_4 rfl ?_
  have fr4 := rng32 p1
  refine g_iaload 6 rfl C X2 e3 B_exitOfCounter (i) (by omega) (by omega) x hx d9_5 ?_
  exact g_retI C X2 rfl d9_6 e3 (by decide) (by decide) ⟨rfl, N0, rfl⟩
theorem d5_0 : decode prog_51_method_14_code 0 = .ok (.aload_n 0, 1) := by decide +kernel
theorem d5_1 : decode prog_51_method_14_code 1 = .ok (.getfield 7, 3) := by decide +kernel
theorem d5_4 : decode prog_51_method_14_code 4 = .ok (.iload_n 1, 1) := by decide +kernel
theorem d5_5 : decode prog_51_method_14_code 5 = .ok (.iaload, 1) := by decide +kernel
theorem d5_6 : decode prog_51_method_14_code 6 = .ok (.istore_n 2, 1) := by decide +kernel
theorem d5_7 : decode prog_51_method_14_code 7 = .ok (.aload_n 0, 1) := by decide +kernel
theorem d5_8 : decode prog_51_method_14_code 8 = .ok (.getfield 34, 3) := by decide +kernel
theorem d5_11 : decode prog_51_method_14_code 11 = .ok (.iload_n 2, 1) := by decide +kernel
theorem d5_12 : decode prog_51_method_14_code 12 = .ok (.iaload, 1) := by decide +kernel
theorem d5_13 : decode prog_51_method_14_code 13 = .ok (.istore_n 3, 1) := by decide +kernel
theorem d5_14 : decode prog_51_method_14_code 14 = .ok (.aload_n 0, 1) := by decide +kernel
theorem d5_15 : decode prog_51_method_14_code 15 = .ok (.getfield 25, 3) := by decide +kernel
theorem d5_18 : decode prog_51_method_14_code 18 = .ok (.iload_n 1, 1) := by decide +kernel
theorem d5_19 : decode prog_51_method_14_code 19 = .ok (.iload_n 3, 1) := by decide +kernel
theorem d5_20 : decode prog_51_method_14_code 20 = .ok (.iastore, 1) := by decide +kernel
theorem d5_21 : decode prog_51_method_14_code 21 = .ok (.aload_n 0, 1) := by decide +kernel
theorem d5_22 : decode prog_51_method_14_code 22 = .ok (.getfield 22, 3) := by decide +kernel
theorem d5_25 : decode prog_51_method_14_code 25 = .ok (.iload_n 1, 1) := by decide +kernel
theorem d5_26 : decode prog_51_method_14_code 26 = .ok (.iconst (-1), 1) := by decide +kernel
theorem d5_27 : decode prog_51_method_14_code 27 = .ok (.iastore, 1) := by decide +kernel
theorem d5_28 : decode prog_51_method_14_code 28 = .ok (.iload_n 3, 1) := by decide +kernel
theorem d5_29 : decode prog_51_method_14_code 29 = .ok (.iconst (-1), 1) := by decide +kernel
theorem d5_30 : decode prog_51_method_14_code 30 = .ok (.if_icmp .ne 13, 3) := by decide +kernel
theorem d5_33 : decode prog_51_method_14_code 33 = .ok (.aload_n 0, 1) := by decide +kernel
theorem d5_34 : decode prog_51_method_14_code 34 = .ok (.getfield 31, 3) := by decide +kernel
theorem d5_37 : decode prog_51_method_14_code 37 = .ok (.iload_n 2, 1) := by decide +kernel
theorem d5_38 : decode prog_51_method_14_code 38 = .ok (.iload_n 1, 1) := by decide +kernel
theorem d5_39 : decode prog_51_method_14_code 39 = .ok (.iastore, 1) := by decide +kernel
theorem d5_40 : decode prog_51_method_14_code 40 = .ok (.goto 10, 3) := by decide +kernel
theorem d5_50 : decode prog_51_method_14_code 50 = .ok (.aload_n 0, 1) := by decide +kernel
theorem d5_51 : decode prog_51_method_14_code 51 = .ok (.getfield 34, 3) := by decide +kernel
theorem d5_54 : decode prog_51_method_14_code 54 = .ok (.iload_n 2, 1) := by decide +kernel
theorem d5_55 : decode prog_51_method_14_code 55 = .ok (.iload_n 1, 1) := by decide +kernel
theorem d5_56 : decode prog_51_method_14_code 56 = .ok (.iastore, 1) := by decide +kernel
theorem d5_57 : decode prog_51_method_14_code 57 = .ok (.return_, 1) := by decide +kernel
theorem d5_43 : decode prog_51_method_14_code 43 = .ok (.aload_n 0, 1) := by decide +kernel
theorem d5_44 : decode prog_51_method_14_code 44 = .ok (.getfield 22, 3) := by decide +kernel
theorem d5_47 : decode prog_51_method_14_code 47 = .ok (.iload_n 3, 1) := by decide +kernel
theorem d5_48 : decode prog_51_method_14_code 48 = .ok (.iload_n 1, 1) := by decide +kernel
theorem d5_49 : decode prog_51_method_14_code 49 = .ok (.iastore, 1) := by decide +kernel
theorem ef_5_0 (m : MethodId) (b0 : Addr) : entryFrame m #[(.ref b0), (.int (0 : Int32))] 4 = mkF m 0 #[.val (.ref b0), .val (.int (0 : Int32)), .unset, .unset] [] := by first | (simp [entryFrame, mkF, argsToLocals, Value.category]; done) | rfl
def Q5_0 (Z : State) (b0 : Addr) (w0 : Addr) (f_blockOf : Nat → Int32) (w4 : Addr) (f_nextExit : Nat → Int32) (w5 : Addr) (f_previousExit : Nat → Int32) (w7 : Addr) (f_firstExit : Nat → Int32) (w8 : Addr) (f_lastExit : Nat → Int32) (nb : Nat) (bk : Int32) (le : Int32) (h0 : Heap) (n0 : Nat) (v : Option Value) (h : Heap) (L : List Loc) : Prop := v = none ∧ Fr n0 L ∧ Keep h0 h [w4, w5, w7, w8] ∧ (∃ g, Ba Z h w4 .int 4 g) ∧ (∃ g, Ba Z h w5 .int 4 g) ∧ (∃ g, Ba Z h w7 .int 2 g) ∧ Ba Z h w8 .int 2 (upd f_lastExit nb (0 : Int32))
set_option maxRecDepth 65536 in
set_option maxHeartbeats 40000000 in
theorem rm5_0 (l : Launch) (Z : State) (a0 : Array Value) (hw : ∀ d ∈ tables_1, d.before a0 Z = true) (ws : List Jvm.Cond) (b0 : Addr) (w0 : Addr) (f_blockOf : Nat → Int32) (w4 : Addr) (f_nextExit : Nat → Int32) (w5 : Addr) (f_previousExit : Nat → Int32) (w7 : Addr) (f_firstExit : Nat → Int32) (w8 : Addr) (f_lastExit : Nat → Int32) (nb : Nat) (bk : Int32) (le : Int32) (h0 : Heap) (n0 : Nat) (Z0 : n0 ≤ h0.size) (E_b0 : Exa Z h0 b0 "com/example/bisimulation/bisimulation/lts/Exits") (F_blockOf : Fld Z h0 b0 "com/example/bisimulation/bisimulation/lts/Exits" "blockOf" "[I" (.ref w0)) (B_blockOf : Ba Z h0 w0 .int 4 f_blockOf) (F_nextExit : Fld Z h0 b0 "com/example/bisimulation/bisimulation/lts/Exits" "nextExit" "[I" (.ref w4)) (B_nextExit : Ba Z h0 w4 .int 4 f_nextExit) (F_previousExit : Fld Z h0 b0 "com/example/bisimulation/bisimulation/lts/Exits" "previousExit" "[I" (.ref w5)) (B_previousExit : Ba Z h0 w5 .int 4 f_previousExit) (F_firstExit : Fld Z h0 b0 "com/example/bisimulation/bisimulation/lts/Exits" "firstExit" "[I" (.ref w7)) (B_firstExit : Ba Z h0 w7 .int 2 f_firstExit) (F_lastExit : Fld Z h0 b0 "com/example/bisimulation/bisimulation/lts/Exits" "lastExit" "[I" (.ref w8)) (B_lastExit : Ba Z h0 w8 .int 2 f_lastExit) (lt_b0_w0 : b0 < w0) (lt_w0_w4 : w0 < w4) (lt_w4_w5 : w4 < w5) (lt_w5_w7 : w5 < w7) (lt_w7_w8 : w7 < w8) (g_b0 : n0 ≤ b0) (hnb : bk.toInt = nb) (hnb2 : nb < 2) (hbk : f_blockOf 0 = bk) (hle : f_lastExit nb = le) (hler : -1 ≤ le.toInt ∧ le.toInt < 4) :
    MetFree l (⟨"com/example/bisimulation/bisimulation/lts/Exits", "link", "(I)V"⟩ : MethodName) (head1 (Jvm.Cond.code (⟨"com/example/bisimulation/bisimulation/lts/Exits", "link", "(I)V"⟩ : MethodName) prog_51_method_14_code 4 none :: ws) ({ frames := 0, cells := 0, slots := 0, locals := 0 } : Room)) (fun a U => a = #[(.ref b0), (.int (0 : Int32))] ∧ Z.Warmed39 U.vm ∧ U.heap = h0) (fun _ _ _ _ _ => True) (fun _ U o U' => ∃ v L, o = .returned v ∧ Q5_0 Z b0 w0 f_blockOf w4 f_nextExit w5 f_previousExit w7 f_firstExit w8 f_lastExit nb bk le h0 n0 v U'.heap L ∧ FrameEnd U o U' L ({ frames := 0, cells := 0, slots := 0, locals := 0 } : Room).cells ({ frames := 0, cells := 0, slots := 0, locals := 0 } : Room).slots) := by
  refine MetFree.of_bodySF (plainFor_of_name pn_90945715) hisR ?_
  intro p e s m args below meth c s₁ Bd hml0 hP hK
  obtain ⟨rfl, hZ, hh⟩ := hP
  have C : Ctx p s m meth c Z "com/example/bisimulation/bisimulation/lts/Exits" "link" prog_51_method_14_code 4 none := Ctx.of Bd hml0 hZ
  have X0 : Stand p l e ({ frames := 0, cells := 0, slots := 0, locals := 0 } : Room) s m #[(.ref b0), (.int (0 : Int32))] below meth c s₁ [] 0 0 := Stand.of_body Bd
  have e0 : s₁.heap = h0 := by rw [← hh, Bd.state]; rfl
  have N0 := Fr.nil n0
  refine Goes.enter (ef_5_0 m b0) ?_
  clear hK hml0 hh
  have g_w0 : n0 ≤ w0 := Nat.le_trans g_b0 (Nat.le_of_lt lt_b0_w0)
  have g_w4 : n0 ≤ w4 := Nat.le_trans g_b0 (Nat.le_of_lt (Nat.lt_trans lt_b0_w0 lt_w0_w4))
  have g_w5 : n0 ≤ w5 := Nat.le_trans g_b0 (Nat.le_of_lt (Nat.lt_trans (Nat.lt_trans lt_b0_w0 lt_w0_w4) lt_w4_w5))
  have g_w7 : n0 ≤ w7 := Nat.le_trans g_b0 (Nat.le_of_lt (Nat.lt_trans (Nat.lt_trans (Nat.lt_trans lt_b0_w0 lt_w0_w4) lt_w4_w5) lt_w5_w7))
  have g_w8 : n0 ≤ w8 := Nat.le_trans g_b0 (Nat.le_of_lt (Nat.lt_trans (Nat.lt_trans (Nat.lt_trans (Nat.lt_trans lt_b0_w0 lt_w0_w4) lt_w4_w5) lt_w5_w7) lt_w7_w8))
  refine g_aloadN 1 rfl C X0 d5_0 rfl rfl ?_
  refine g_getF 4 rfl C X0 (host := "") (Or.inl (hw _ (List.mem_of_getElem? (i := 10) rfl))) Via.refl e0 F_blockOf d5_1 fun T1 X2 e3 => ?_
  refine g_iloadN 5 rfl C X2 d5_4 rfl ?_
  refine g_iaload 6 rfl C X2 e3 B_blockOf 0 (by decide) (by decide) bk hbk d5_5 ?_
  refine g_istoreN 7 rfl C X2 bk rfl #[.val (.ref b0), .val (.int (0 : Int32)), .val (.int bk), .unset] d5_6 rfl ?_
  refine g_aloadN 8 rfl C X2 d5_7 rfl rfl ?_
  refine g_getF 11 rfl C X2 (host := "") (Or.inl (hw _ (List.mem_of_getElem? (i := 26) rfl))) Via.refl e3 F_lastExit d5_8 fun T4 X5 e6 => ?_
  refine g_iloadN 12 rfl C X5 d5_11 rfl ?_
  refine g_iaload 13 rfl C X5 e6 B_lastExit (nb) hnb (by omega) le hle d5_12 ?_
  refine g_istoreN 14 rfl C X5 le rfl #[.val (.ref b0), .val (.int (0 : Int32)), .val (.int bk), .val (.int le)] d5_13 rfl ?_
  refine g_aloadN 15 rfl C X5 d5_14 rfl rfl ?_
  refine g_getF 18 rfl C X5 (host := "") (Or.inl (hw _ (List.mem_of_getElem? (i := 20) rfl))) Via.refl e6 F_previousExit d5_15 fun T7 X8 e9 => ?_
  refine g_iloadN 19 rfl C X8 d5_18 rfl ?_
  refine g_iloadN 20 rfl C X8 d5_19 rfl ?_
  refine g_iastore 21 rfl C X8 e9 B_previousExit 0 (by decide) (by decide) le rfl d5_20 N0 g_w5 fun T10 h11 ls12 X13 e14 W15 B16 N17 => ?_
  have F18 := E_b0.wr W15
  have F19 := F_blockOf.other W15 (Or.inl (Nat.ne_of_lt (Nat.lt_trans (Nat.lt_trans lt_b0_w0 lt_w0_w4) lt_w4_w5)))
  have F20 := B_blockOf.other W15 (Nat.ne_of_lt (Nat.lt_trans lt_w0_w4 lt_w4_w5))
  have F21 := F_nextExit.other W15 (Or.inl (Nat.ne_of_lt (Nat.lt_trans (Nat.lt_trans lt_b0_w0 lt_w0_w4) lt_w4_w5)))
  have F22 := B_nextExit.other W15 (Nat.ne_of_lt lt_w4_w5)
  have F23 := F_previousExit.other W15 (Or.inl (Nat.ne_of_lt (Nat.lt_trans (Nat.lt_trans lt_b0_w0 lt_w0_w4) lt_w4_w5)))
  have F24 := F_firstExit.other W15 (Or.inl (Nat.ne_of_lt (Nat.lt_trans (Nat.lt_trans lt_b0_w0 lt_w0_w4) lt_w4_w5)))
  have F25 := B_firstExit.other W15 (Nat.ne_of_gt lt_w5_w7)
  have F26 := F_lastExit.other W15 (Or.inl (Nat.ne_of_lt (Nat.lt_trans (Nat.lt_trans lt_b0_w0 lt_w0_w4) lt_w4_w5)))
  have F27 := B_lastExit.other W15 (Nat.ne_of_gt (Nat.lt_trans lt_w5_w7 lt_w7_w8))
  have Zs28 := Nat.le_trans Z0 (Nat.le_of_eq W15.size.symm)
  have Kp29 : Keep h0 h11 [w4, w5, w7, w8] := (Keep.refl h0 [w4, w5, w7, w8]).wr W15 (Or.inl (List.mem_of_getElem? (i := 1) rfl))
  refine g_aloadN 22 rfl C X13 d5_21 rfl rfl ?_
  refine g_getF 25 rfl C X13 (host := "") (Or.inl (hw _ (List.mem_of_getElem? (i := 18) rfl))) Via.refl e14 F21 d5_22 fun T30 X31 e32 => ?_
  refine g_iloadN 26 rfl C X31 d5_25 rfl ?_
  refine g_iconst 27 rfl C X31 (-1 : Int32) d5_26 rfl ?_
  refine g_iastore 28 rfl C X31 e32 F22 0 (by decide) (by decide) (-1 : Int32) rfl d5_27 N17 g_w4 fun T33 h34 ls35 X36 e37 W38 B39 N40 => ?_
  have F41 := F18.wr W38
  have F42 := F19.other W38 (Or.inl (Nat.ne_of_lt (Nat.lt_trans lt_b0_w0 lt_w0_w4)))
  have F43 := F20.other W38 (Nat.ne_of_lt lt_w0_w4)
  have F44 := F21.other W38 (Or.inl (Nat.ne_of_lt (Nat.lt_trans lt_b0_w0 lt_w0_w4)))
  have F45 := F23.other W38 (Or.inl (Nat.ne_of_lt (Nat.lt_trans lt_b0_w0 lt_w0_w4)))
  have F46 := B16.other W38 (Nat.ne_of_gt lt_w4_w5)
  have F47 := F24.other W38 (Or.inl (Nat.ne_of_lt (Nat.lt_trans lt_b0_w0 lt_w0_w4)))
  have F48 := F25.other W38 (Nat.ne_of_gt (Nat.lt_trans lt_w4_w5 lt_w5_w7))
  have F49 := F26.other W38 (Or.inl (Nat.ne_of_lt (Nat.lt_trans lt_b0_w0 lt_w0_w4)))
  have F50 := F27.other W38 (Nat.ne_of_gt (Nat.lt_trans (Nat.lt_trans lt_w4_w5 lt_w5_w7) lt_w7_w8))
  have Zs51 := Nat.le_trans Zs28 (Nat.le_of_eq W38.size.symm)
  have Kp52 : Keep h0 h34 [w4, w5, w7, w8] := Kp29.wr W38 (Or.inl (List.mem_of_getElem? (i := 0) rfl))
  refine g_iloadN 29 rfl C X36 d5_28 rfl ?_
  refine g_iconst 30 rfl C X36 (-1 : Int32) d5_29 rfl ?_
  by_cases hb53 : le.toInt = (-1 : Int32).toInt
  · skip
    refine g_icmp_ne_f 33 rfl C X36 d5_30 hb53 ?_
    refine g_aloadN 34 rfl C X36 d5_33 rfl rfl ?_
    refine g_getF 37 rfl C X36 (host := "") (Or.inl (hw _ (List.mem_of_getElem? (i := 24) rfl))) Via.refl e37 F47 d5_34 fun T54 X55 e56 => ?_
    refine g_iloadN 38 rfl C X55 d5_37 rfl ?_
    refine g_iloadN 39 rfl C X55 d5_38 rfl ?_
    refine g_iastore 40 rfl C X55 e56 F48 (nb) hnb (by omega) (0 : Int32) rfl d5_39 N40 g_w7 fun T57 h58 ls59 X60 e61 W62 B63 N64 => ?_
    have F65 := F41.wr W62
    have F66 := F42.other W62 (Or.inl (Nat.ne_of_lt (Nat.lt_trans (Nat.lt_trans (Nat.lt_trans lt_b0_w0 lt_w0_w4) lt_w4_w5) lt_w5_w7)))
    have F67 := F43.other W62 (Nat.ne_of_lt (Nat.lt_trans (Nat.lt_trans lt_w0_w4 lt_w4_w5) lt_w5_w7))
    have F68 := F44.other W62 (Or.inl (Nat.ne_of_lt (Nat.lt_trans (Nat.lt_trans (Nat.lt_trans lt_b0_w0 lt_w0_w4) lt_w4_w5) lt_w5_w7)))
    have F69 := B39.other W62 (Nat.ne_of_lt (Nat.lt_trans lt_w4_w5 lt_w5_w7))
    have F70 := F45.other W62 (Or.inl (Nat.ne_of_lt (Nat.lt_trans (Nat.lt_trans (Nat.lt_trans lt_b0_w0 lt_w0_w4) lt_w4_w5) lt_w5_w7)))
    have F71 := F46.other W62 (Nat.ne_of_lt lt_w5_w7)
    have F72 := F47.other W62 (Or.inl (Nat.ne_of_lt (Nat.lt_trans (Nat.lt_trans (Nat.lt_trans lt_b0_w0 lt_w0_w4) lt_w4_w5) lt_w5_w7)))
    have F73 := F49.other W62 (Or.inl (Nat.ne_of_lt (Nat.lt_trans (Nat.lt_trans (Nat.lt_trans lt_b0_w0 lt_w0_w4) lt_w4_w5) lt_w5_w7)))
    have F74 := F50.other W62 (Nat.ne_of_gt lt_w7_w8)
    have Zs75 := Nat.le_trans Zs51 (Nat.le_of_eq W62.size.symm)
    have Kp76 : Keep h0 h58 [w4, w5, w7, w8] := Kp52.wr W62 (Or.inl (List.mem_of_getElem? (i := 2) rfl))
    refine g_goto 50 C X60 d5_40 (by decide) (by decide) ?_
    refine g_aloadN 51 rfl C X60 d5_50 rfl rfl ?_
    refine g_getF 54 rfl C X60 (host := "") (Or.inl (hw _ (List.mem_of_getElem? (i := 26) rfl))) Via.refl e61 F73 d5_51 fun T77 X78 e79 => ?_
    refine g_iloadN 55 rfl C X78 d5_54 rfl ?_
    refine g_iloadN 56 rfl C X78 d5_55 rfl ?_
    refine g_iastore 57 rfl C X78 e79 F74 (nb) hnb (by omega) (0 : Int32) rfl d5_56 N64 g_w8 fun T80 h81 ls82 X83 e84 W85 B86 N87 => ?_
    have F88 := F65.wr W85
    have F89 := F66.other W85 (Or.inl (Nat.ne_of_lt (Nat.lt_trans (Nat.lt_trans (Nat.lt_trans (Nat.lt_trans lt_b0_w0 lt_w0_w4) lt_w4_w5) lt_w5_w7) lt_w7_w8)))
    have F90 := F67.other W85 (Nat.ne_of_lt (Nat.lt_trans (Nat.lt_trans (Nat.lt_trans lt_w0_w4 lt_w4_w5) lt_w5_w7) lt_w7_w8))
    have F91 := F68.other W85 (Or.inl (Nat.ne_of_lt (Nat.lt_trans (Nat.lt_trans (Nat.lt_trans (Nat.lt_trans lt_b0_w0 lt_w0_w4) lt_w4_w5) lt_w5_w7) lt_w7_w8)))
    have F92 := F69.other W85 (Nat.ne_of_lt (Nat.lt_trans (Nat.lt_trans lt_w4_w5 lt_w5_w7) lt_w7_w8))
    have F93 := F70.other W85 (Or.inl (Nat.ne_of_lt (Nat.lt_trans (Nat.lt_trans (Nat.lt_trans (Nat.lt_trans lt_b0_w0 lt_w0_w4) lt_w4_w5) lt_w5_w7) lt_w7_w8)))
    have F94 := F71.other W85 (Nat.ne_of_lt (Nat.lt_trans lt_w5_w7 lt_w7_w8))
    have F95 := F72.other W85 (Or.inl (Nat.ne_of_lt (Nat.lt_trans (Nat.lt_trans (Nat.lt_trans (Nat.lt_trans lt_b0_w0 lt_w0_w4) lt_w4_w5) lt_w5_w7) lt_w7_w8)))
    have F96 := B63.other W85 (Nat.ne_of_lt lt_w7_w8)
    have F97 := F73.other W85 (Or.inl (Nat.ne_of_lt (Nat.lt_trans (Nat.lt_trans (Nat.lt_trans (Nat.lt_trans lt_b0_w0 lt_w0_w4) lt_w4_w5) lt_w5_w7) lt_w7_w8)))
    have Zs98 := Nat.le_trans Zs75 (Nat.le_of_eq W85.size.symm)
    have Kp99 : Keep h0 h81 [w4, w5, w7, w8] := Kp76.wr W85 (Or.inl (List.mem_of_getElem? (i := 3) rfl))
    exact g_retV C X83 rfl d5_57 e84 (by decide) (by decide) ⟨rfl, N87, Kp99, ⟨_, F92⟩, ⟨_, F94⟩, ⟨_, F96⟩, B86⟩
  · skip
    refine g_icmp_ne_t 43 C X36 d5_30 (by decide) (by decide) hb53 ?_
    refine g_aloadN 44 rfl C X36 d5_43 rfl rfl ?_
    refine g_getF 47 rfl C X36 (host := "") (Or.inl (hw _ (List.mem_of_getElem? (i := 18) rfl))) Via.refl e37 F44 d5_44 fun T100 X101 e102 => ?_
    refine g_iloadN 48 rfl C X101 d5_47 rfl ?_
    refine g_iloadN 49 rfl C X101 d5_48 rfl ?_
    obtain ⟨ne_, hne_⟩ : ∃ n : Nat, le.toInt = n := ⟨le.toInt.toNat, by have : (-1 : Int32).toInt = -1 := rfl; omega⟩
    have hne4 : ne_ < 4 := by omega
    refine g_iastore 50 rfl C X101 e102 B39 (ne_) hne_ (by omega) (0 : Int32) rfl d5_49 N40 g_w4 fun T103 h104 ls105 X106 e107 W108 B109 N110 => ?_
    have F111 := F41.wr W108
    have F112 := F42.other W108 (Or.inl (Nat.ne_of_lt (Nat.lt_trans lt_b0_w0 lt_w0_w4)))
    have F113 := F43.other W108 (Nat.ne_of_lt lt_w0_w4)
    have F114 := F44.other W108 (Or.inl (Nat.ne_of_lt (Nat.lt_trans lt_b0_w0 lt_w0_w4)))
    have F115 := F45.other W108 (Or.inl (Nat.ne_of_lt (Nat.lt_trans lt_b0_w0 lt_w0_w4)))
    have F116 := F46.other W108 (Nat.ne_of_gt lt_w4_w5)
    have F117 := F47.other W108 (Or.inl (Nat.ne_of_lt (Nat.lt_trans lt_b0_w0 lt_w0_w4)))
    have F118 := F48.other W108 (Nat.ne_of_gt (Nat.lt_trans lt_w4_w5 lt_w5_w7))
    have F119 := F49.other W108 (Or.inl (Nat.ne_of_lt (Nat.lt_trans lt_b0_w0 lt_w0_w4)))
    have F120 := F50.other W108 (Nat.ne_of_gt (Nat.lt_trans (Nat.lt_trans lt_w4_w5 lt_w5_w7) lt_w7_w8))
    have Zs121 := Nat.le_trans Zs51 (Nat.le_of_eq W108.size.symm)
    have Kp122 : Keep h0 h104 [w4, w5, w7, w8] := Kp52.wr W108 (Or.inl (List.mem_of_getElem? (i := 0) rfl))
    refine g_aloadN 51 rfl C X106 d5_50 rfl rfl ?_
    refine g_getF 54 rfl C X106 (host := "") (Or.inl (hw _ (List.mem_of_getElem? (i := 26) rfl))) Via.refl e107 F119 d5_51 fun T123 X124 e125 => ?_
    refine g_iloadN 55 rfl C X124 d5_54 rfl ?_
    refine g_iloadN 56 rfl C X124 d5_55 rfl ?_
    refine g_iastore 57 rfl C X124 e125 F120 (nb) hnb (by omega) (0 : Int32) rfl d5_56 N110 g_w8 fun T126 h127 ls128 X129 e130 W131 B132 N133 => ?_
    have F134 := F111.wr W131
    have F135 := F112.other W131 (Or.inl (Nat.ne_of_lt (Nat.lt_trans (Nat.lt_trans (Nat.lt_trans (Nat.lt_trans lt_b0_w0 lt_w0_w4) lt_w4_w5) lt_w5_w7) lt_w7_w8)))
    have F136 := F113.other W131 (Nat.ne_of_lt (Nat.lt_trans (Nat.lt_trans (Nat.lt_trans lt_w0_w4 lt_w4_w5) lt_w5_w7) lt_w7_w8))
    have F137 := F114.other W131 (Or.inl (Nat.ne_of_lt (Nat.lt_trans (Nat.lt_trans (Nat.lt_trans (Nat.lt_trans lt_b0_w0 lt_w0_w4) lt_w4_w5) lt_w5_w7) lt_w7_w8)))
    have F138 := B109.other W131 (Nat.ne_of_lt (Nat.lt_trans (Nat.lt_trans lt_w4_w5 lt_w5_w7) lt_w7_w8))
    have F139 := F115.other W131 (Or.inl (Nat.ne_of_lt (Nat.lt_trans (Nat.lt_trans (Nat.lt_trans (Nat.lt_trans lt_b0_w0 lt_w0_w4) lt_w4_w5) lt_w5_w7) lt_w7_w8)))
    have F140 := F116.other W131 (Nat.ne_of_lt (Nat.lt_trans lt_w5_w7 lt_w7_w8))
    have F141 := F117.other W131 (Or.inl (Nat.ne_of_lt (Nat.lt_trans (Nat.lt_trans (Nat.lt_trans (Nat.lt_trans lt_b0_w0 lt_w0_w4) lt_w4_w5) lt_w5_w7) lt_w7_w8)))
    have F142 := F118.other W131 (Nat.ne_of_lt lt_w7_w8)
    have F143 := F119.other W131 (Or.inl (Nat.ne_of_lt (Nat.lt_trans (Nat.lt_trans (Nat.lt_trans (Nat.lt_trans lt_b0_w0 lt_w0_w4) lt_w4_w5) lt_w5_w7) lt_w7_w8)))
    have Zs144 := Nat.le_trans Zs121 (Nat.le_of_eq W131.size.symm)
    have Kp145 : Keep h0 h127 [w4, w5, w7, w8] := Kp122.wr W131 (Or.inl (List.mem_of_getElem? (i := 3) rfl))
    exact g_retV C X129 rfl d5_57 e130 (by decide) (by decide) ⟨rfl, N133, Kp145, ⟨_, F138⟩, ⟨_, F140⟩, ⟨_, F142⟩, B132⟩
theorem ef_5_1 (m : MethodId) (b0 : Addr) : entryFrame m #[(.ref b0), (.int (1 : Int32))] 4 = mkF m 0 #[.val (.ref b0), .val (.int (1 : Int32)), .unset, .unset] [] := by first | (simp [entryFrame, mkF, argsToLocals, Value.category]; done) | rfl
def Q5_1 (Z : State) (b0 : Addr) (w0 : Addr) (f_blockOf : Nat → Int32) (w4 : Addr) (f_nextExit : Nat → Int32) (w5 : Addr) (f_previousExit : Nat → Int32) (w7 : Addr) (f_firstExit : Nat → Int32) (w8 : Addr) (f_lastExit : Nat → Int32) (nb : Nat) (bk : Int32) (le : Int32) (h0 : Heap) (n0 : Nat) (v : Option Value) (h : Heap) (L : List Loc) : Prop := v = none ∧ Fr n0 L ∧ Keep h0 h [w4, w5, w7, w8] ∧ (∃ g, Ba Z h w4 .int 4 g) ∧ (∃ g, Ba Z h w5 .int 4 g) ∧ (∃ g, Ba Z h w7 .int 2 g) ∧ Ba Z h w8 .int 2 (upd f_lastExit nb (1 : Int32))
set_option maxRecDepth 65536 in
set_option maxHeartbeats 40000000 in
theorem rm5_1 (l : Launch) (Z : State) (a0 : Array Value) (hw : ∀ d ∈ tables_1, d.before a0 Z = true) (ws : List Jvm.Cond) (b0 : Addr) (w0 : Addr) (f_blockOf : Nat → Int32) (w4 : Addr) (f_nextExit : Nat → Int32) (w5 : Addr) (f_previousExit : Nat → Int32) (w7 : Addr) (f_firstExit : Nat → Int32) (w8 : Addr) (f_lastExit : Nat → Int32) (nb : Nat) (bk : Int32) (le : Int32) (h0 : Heap) (n0 : Nat) (Z0 : n0 ≤ h0.size) (E_b0 : Exa Z h0 b0 "com/example/bisimulation/bisimulation/lts/Exits") (F_blockOf : Fld Z h0 b0 "com/example/bisimulation/bisimulation/lts/Exits" "blockOf" "[I" (.ref w0)) (B_blockOf : Ba Z h0 w0 .int 4 f_blockOf) (F_nextExit : Fld Z h0 b0 "com/example/bisimulation/bisimulation/lts/Exits" "nextExit" "[I" (.ref w4)) (B_nextExit : Ba Z h0 w4 .int 4 f_nextExit) (F_previousExit : Fld Z h0 b0 "com/example/bisimulation/bisimulation/lts/Exits" "previousExit" "[I" (.ref w5)) (B_previousExit : Ba Z h0 w5 .int 4 f_previousExit) (F_firstExit : Fld Z h0 b0 "com/example/bisimulation/bisimulation/lts/Exits" "firstExit" "[I" (.ref w7)) (B_firstExit : Ba Z h0 w7 .int 2 f_firstExit) (F_lastExit : Fld Z h0 b0 "com/example/bisimulation/bisimulation/lts/Exits" "lastExit" "[I" (.ref w8)) (B_lastExit : Ba Z h0 w8 .int 2 f_lastExit) (lt_b0_w0 : b0 < w0) (lt_w0_w4 : w0 < w4) (lt_w4_w5 : w4 < w5) (lt_w5_w7 : w5 < w7) (lt_w7_w8 : w7 < w8) (g_b0 : n0 ≤ b0) (hnb : bk.toInt = nb) (hnb2 : nb < 2) (hbk : f_blockOf 1 = bk) (hle : f_lastExit nb = le) (hler : -1 ≤ le.toInt ∧ le.toInt < 4) :
    MetFree l (⟨"com/example/bisimulation/bisimulation/lts/Exits", "link", "(I)V"⟩ : MethodName) (head1 (Jvm.Cond.code (⟨"com/example/bisimulation/bisimulation/lts/Exits", "link", "(I)V"⟩ : MethodName) prog_51_method_14_code 4 none :: ws) ({ frames := 0, cells := 0, slots := 0, locals := 0 } : Room)) (fun a U => a = #[(.ref b0), (.int (1 : Int32))] ∧ Z.Warmed39 U.vm ∧ U.heap = h0) (fun _ _ _ _ _ => True) (fun _ U o U' => ∃ v L, o = .returned v ∧ Q5_1 Z b0 w0 f_blockOf w4 f_nextExit w5 f_previousExit w7 f_firstExit w8 f_lastExit nb bk le h0 n0 v U'.heap L ∧ FrameEnd U o U' L ({ frames := 0, cells := 0, slots := 0, locals := 0 } : Room).cells ({ frames := 0, cells := 0, slots := 0, locals := 0 } : Room).slots) := by
  refine MetFree.of_bodySF (plainFor_of_name pn_90945715) hisR ?_
  intro p e s m args below meth c s₁ Bd hml0 hP hK
  obtain ⟨rfl, hZ, hh⟩ := hP
  have C : Ctx p s m meth c Z "com/example/bisimulation/bisimulation/lts/Exits" "link" prog_51_method_14_code 4 none := Ctx.of Bd hml0 hZ
  have X0 : Stand p l e ({ frames := 0, cells := 0, slots := 0, locals := 0 } : Room) s m #[(.ref b0), (.int (1 : Int32))] below meth c s₁ [] 0 0 := Stand.of_body Bd
  have e0 : s₁.heap = h0 := by rw [← hh, Bd.state]; rfl
  have N0 := Fr.nil n0
  refine Goes.enter (ef_5_1 m b0) ?_
  clear hK hml0 hh
  have g_w0 : n0 ≤ w0 := Nat.le_trans g_b0 (Nat.le_of_lt lt_b0_w0)
  have g_w4 : n0 ≤ w4 := Nat.le_trans g_b0 (Nat.le_of_lt (Nat.lt_trans lt_b0_w0 lt_w0_w4))
  have g_w5 : n0 ≤ w5 := Nat.le_trans g_b0 (Nat.le_of_lt (Nat.lt_trans (Nat.lt_trans lt_b0_w0 lt_w0_w4) lt_w4_w5))
  have g_w7 : n0 ≤ w7 := Nat.le_trans g_b0 (Nat.le_of_lt (Nat.lt_trans (Nat.lt_trans (Nat.lt_trans lt_b0_w0 lt_w0_w4) lt_w4_w5) lt_w5_w7))
  have g_w8 : n0 ≤ w8 := Nat.le_trans g_b0 (Nat.le_of_lt (Nat.lt_trans (Nat.lt_trans (Nat.lt_trans (Nat.lt_trans lt_b0_w0 lt_w0_w4) lt_w4_w5) lt_w5_w7) lt_w7_w8))
  refine g_aloadN 1 rfl C X0 d5_0 rfl rfl ?_
  refine g_getF 4 rfl C X0 (host := "") (Or.inl (hw _ (List.mem_of_getElem? (i := 10) rfl))) Via.refl e0 F_blockOf d5_1 fun T1 X2 e3 => ?_
  refine g_iloadN 5 rfl C X2 d5_4 rfl ?_
  refine g_iaload 6 rfl C X2 e3 B_blockOf 1 (by decide) (by decide) bk hbk d5_5 ?_
  refine g_istoreN 7 rfl C X2 bk rfl #[.val (.ref b0), .val (.int (1 : Int32)), .val (.int bk), .unset] d5_6 rfl ?_
  refine g_aloadN 8 rfl C X2 d5_7 rfl rfl ?_
  refine g_getF 11 rfl C X2 (host := "") (Or.inl (hw _ (List.mem_of_getElem? (i := 26) rfl))) Via.refl e3 F_lastExit d5_8 fun T4 X5 e6 => ?_
  refine g_iloadN 12 rfl C X5 d5_11 rfl ?_
  refine g_iaload 13 rfl C X5 e6 B_lastExit (nb) hnb (by omega) le hle d5_12 ?_
  refine g_istoreN 14 rfl C X5 le rfl #[.val (.ref b0), .val (.int (1 : Int32)), .val (.int bk), .val (.int le)] d5_13 rfl ?_
  refine g_aloadN 15 rfl C X5 d5_14 rfl rfl ?_
  refine g_getF 18 rfl C X5 (host := "") (Or.inl (hw _ (List.mem_of_getElem? (i := 20) rfl))) Via.refl e6 F_previousExit d5_15 fun T7 X8 e9 => ?_
  refine g_iloadN 19 rfl C X8 d5_18 rfl ?_
  refine g_iloadN 20 rfl C X8 d5_19 rfl ?_
  refine g_iastore 21 rfl C X8 e9 B_previousExit 1 (by decide) (by decide) le rfl d5_20 N0 g_w5 fun T10 h11 ls12 X13 e14 W15 B16 N17 => ?_
  have F18 := E_b0.wr W15
  have F19 := F_blockOf.other W15 (Or.inl (Nat.ne_of_lt (Nat.lt_trans (Nat.lt_trans lt_b0_w0 lt_w0_w4) lt_w4_w5)))
  have F20 := B_blockOf.other W15 (Nat.ne_of_lt (Nat.lt_trans lt_w0_w4 lt_w4_w5))
  have F21 := F_nextExit.other W15 (Or.inl (Nat.ne_of_lt (Nat.lt_trans (Nat.lt_trans lt_b0_w0 lt_w0_w4) lt_w4_w5)))
  have F22 := B_nextExit.other W15 (Nat.ne_of_lt lt_w4_w5)
  have F23 := F_previousExit.other W15 (Or.inl (Nat.ne_of_lt (Nat.lt_trans (Nat.lt_trans lt_b0_w0 lt_w0_w4) lt_w4_w5)))
  have F24 := F_firstExit.other W15 (Or.inl (Nat.ne_of_lt (Nat.lt_trans (Nat.lt_trans lt_b0_w0 lt_w0_w4) lt_w4_w5)))
  have F25 := B_firstExit.other W15 (Nat.ne_of_gt lt_w5_w7)
  have F26 := F_lastExit.other W15 (Or.inl (Nat.ne_of_lt (Nat.lt_trans (Nat.lt_trans lt_b0_w0 lt_w0_w4) lt_w4_w5)))
  have F27 := B_lastExit.other W15 (Nat.ne_of_gt (Nat.lt_trans lt_w5_w7 lt_w7_w8))
  have Zs28 := Nat.le_trans Z0 (Nat.le_of_eq W15.size.symm)
  have Kp29 : Keep h0 h11 [w4, w5, w7, w8] := (Keep.refl h0 [w4, w5, w7, w8]).wr W15 (Or.inl (List.mem_of_getElem? (i := 1) rfl))
  refine g_aloadN 22 rfl C X13 d5_21 rfl rfl ?_
  refine g_getF 25 rfl C X13 (host := "") (Or.inl (hw _ (List.mem_of_getElem? (i := 18) rfl))) Via.refl e14 F21 d5_22 fun T30 X31 e32 => ?_
  refine g_iloadN 26 rfl C X31 d5_25 rfl ?_
  refine g_iconst 27 rfl C X31 (-1 : Int32) d5_26 rfl ?_
  refine g_iastore 28 rfl C X31 e32 F22 1 (by decide) (by decide) (-1 : Int32) rfl d5_27 N17 g_w4 fun T33 h34 ls35 X36 e37 W38 B39 N40 => ?_
  have F41 := F18.wr W38
  have F42 := F19.other W38 (Or.inl (Nat.ne_of_lt (Nat.lt_trans lt_b0_w0 lt_w0_w4)))
  have F43 := F20.other W38 (Nat.ne_of_lt lt_w0_w4)
  have F44 := F21.other W38 (Or.inl (Nat.ne_of_lt (Nat.lt_trans lt_b0_w0 lt_w0_w4)))
  have F45 := F23.other W38 (Or.inl (Nat.ne_of_lt (Nat.lt_trans lt_b0_w0 lt_w0_w4)))
  have F46 := B16.other W38 (Nat.ne_of_gt lt_w4_w5)
  have F47 := F24.other W38 (Or.inl (Nat.ne_of_lt (Nat.lt_trans lt_b0_w0 lt_w0_w4)))
  have F48 := F25.other W38 (Nat.ne_of_gt (Nat.lt_trans lt_w4_w5 lt_w5_w7))
  have F49 := F26.other W38 (Or.inl (Nat.ne_of_lt (Nat.lt_trans lt_b0_w0 lt_w0_w4)))
  have F50 := F27.other W38 (Nat.ne_of_gt (Nat.lt_trans (Nat.lt_trans lt_w4_w5 lt_w5_w7) lt_w7_w8))
  have Zs51 := Nat.le_trans Zs28 (Nat.le_of_eq W38.size.symm)
  have Kp52 : Keep h0 h34 [w4, w5, w7, w8] := Kp29.wr W38 (Or.inl (List.mem_of_getElem? (i := 0) rfl))
  refine g_iloadN 29 rfl C X36 d5_28 rfl ?_
  refine g_iconst 30 rfl C X36 (-1 : Int32) d5_29 rfl ?_
  by_cases hb53 : le.toInt = (-1 : Int32).toInt
  · skip
    refine g_icmp_ne_f 33 rfl C X36 d5_30 hb53 ?_
    refine g_aloadN 34 rfl C X36 d5_33 rfl rfl ?_
    refine g_getF 37 rfl C X36 (host := "") (Or.inl (hw _ (List.mem_of_getElem? (i := 24) rfl))) Via.refl e37 F47 d5_34 fun T54 X55 e56 => ?_
    refine g_iloadN 38 rfl C X55 d5_37 rfl ?_
    refine g_iloadN 39 rfl C X55 d5_38 rfl ?_
    refine g_iastore 40 rfl C X55 e56 F48 (nb) hnb (by omega) (1 : Int32) rfl d5_39 N40 g_w7 fun T57 h58 ls59 X60 e61 W62 B63 N64 => ?_
    have F65 := F41.wr W62
    have F66 := F42.other W62 (Or.inl (Nat.ne_of_lt (Nat.lt_trans (Nat.lt_trans (Nat.lt_trans lt_b0_w0 lt_w0_w4) lt_w4_w5) lt_w5_w7)))
    have F67 := F43.other W62 (Nat.ne_of_lt (Nat.lt_trans (Nat.lt_trans lt_w0_w4 lt_w4_w5) lt_w5_w7))
    have F68 := F44.other W62 (Or.inl (Nat.ne_of_lt (Nat.lt_trans (Nat.lt_trans (Nat.lt_trans lt_b0_w0 lt_w0_w4) lt_w4_w5) lt_w5_w7)))
    have F69 := B39.other W62 (Nat.ne_of_lt (Nat.lt_trans lt_w4_w5 lt_w5_w7))
    have F70 := F45.other W62 (Or.inl (Nat.ne_of_lt (Nat.lt_trans (Nat.lt_trans (Nat.lt_trans lt_b0_w0 lt_w0_w4) lt_w4_w5) lt_w5_w7)))
    have F71 := F46.other W62 (Nat.ne_of_lt lt_w5_w7)
    have F72 := F47.other W62 (Or.inl (Nat.ne_of_lt (Nat.lt_trans (Nat.lt_trans (Nat.lt_trans lt_b0_w0 lt_w0_w4) lt_w4_w5) lt_w5_w7)))
    have F73 := F49.other W62 (Or.inl (Nat.ne_of_lt (Nat.lt_trans (Nat.lt_trans (Nat.lt_trans lt_b0_w0 lt_w0_w4) lt_w4_w5) lt_w5_w7)))
    have F74 := F50.other W62 (Nat.ne_of_gt lt_w7_w8)
    have Zs75 := Nat.le_trans Zs51 (Nat.le_of_eq W62.size.symm)
    have Kp76 : Keep h0 h58 [w4, w5, w7, w8] := Kp52.wr W62 (Or.inl (List.mem_of_getElem? (i := 2) rfl))
    refine g_goto 50 C X60 d5_40 (by decide) (by decide) ?_
    refine g_aloadN 51 rfl C X60 d5_50 rfl rfl ?_
    refine g_getF 54 rfl C X60 (host := "") (Or.inl (hw _ (List.mem_of_getElem? (i := 26) rfl))) Via.refl e61 F73 d5_51 fun T77 X78 e79 => ?_
    refine g_iloadN 55 rfl C X78 d5_54 rfl ?_
    refine g_iloadN 56 rfl C X78 d5_55 rfl ?_
    refine g_iastore 57 rfl C X78 e79 F74 (nb) hnb (by omega) (1 : Int32) rfl d5_56 N64 g_w8 fun T80 h81 ls82 X83 e84 W85 B86 N87 => ?_
    have F88 := F65.wr W85
    have F89 := F66.other W85 (Or.inl (Nat.ne_of_lt (Nat.lt_trans (Nat.lt_trans (Nat.lt_trans (Nat.lt_trans lt_b0_w0 lt_w0_w4) lt_w4_w5) lt_w5_w7) lt_w7_w8)))
    have F90 := F67.other W85 (Nat.ne_of_lt (Nat.lt_trans (Nat.lt_trans (Nat.lt_trans lt_w0_w4 lt_w4_w5) lt_w5_w7) lt_w7_w8))
    have F91 := F68.other W85 (Or.inl (Nat.ne_of_lt (Nat.lt_trans (Nat.lt_trans (Nat.lt_trans (Nat.lt_trans lt_b0_w0 lt_w0_w4) lt_w4_w5) lt_w5_w7) lt_w7_w8)))
    have F92 := F69.other W85 (Nat.ne_of_lt (Nat.lt_trans (Nat.lt_trans lt_w4_w5 lt_w5_w7) lt_w7_w8))
    have F93 := F70.other W85 (Or.inl (Nat.ne_of_lt (Nat.lt_trans (Nat.lt_trans (Nat.lt_trans (Nat.lt_trans lt_b0_w0 lt_w0_w4) lt_w4_w5) lt_w5_w7) lt_w7_w8)))
    have F94 := F71.other W85 (Nat.ne_of_lt (Nat.lt_trans lt_w5_w7 lt_w7_w8))
    have F95 := F72.other W85 (Or.inl (Nat.ne_of_lt (Nat.lt_trans (Nat.lt_trans (Nat.lt_trans (Nat.lt_trans lt_b0_w0 lt_w0_w4) lt_w4_w5) lt_w5_w7) lt_w7_w8)))
    have F96 := B63.other W85 (Nat.ne_of_lt lt_w7_w8)
    have F97 := F73.other W85 (Or.inl (Nat.ne_of_lt (Nat.lt_trans (Nat.lt_trans (Nat.lt_trans (Nat.lt_trans lt_b0_w0 lt_w0_w4) lt_w4_w5) lt_w5_w7) lt_w7_w8)))
    have Zs98 := Nat.le_trans Zs75 (Nat.le_of_eq W85.size.symm)
    have Kp99 : Keep h0 h81 [w4, w5, w7, w8] := Kp76.wr W85 (Or.inl (List.mem_of_getElem? (i := 3) rfl))
    exact g_retV C X83 rfl d5_57 e84 (by decide) (by decide) ⟨rfl, N87, Kp99, ⟨_, F92⟩, ⟨_, F94⟩, ⟨_, F96⟩, B86⟩
  · skip
    refine g_icmp_ne_t 43 C X36 d5_30 (by decide) (by decide) hb53 ?_
    refine g_aloadN 44 rfl C X36 d5_43 rfl rfl ?_
    refine g_getF 47 rfl C X36 (host := "") (Or.inl (hw _ (List.mem_of_getElem? (i := 18) rfl))) Via.refl e37 F44 d5_44 fun T100 X101 e102 => ?_
    refine g_iloadN 48 rfl C X101 d5_47 rfl ?_
    refine g_iloadN 49 rfl C X101 d5_48 rfl ?_
    obtain ⟨ne_, hne_⟩ : ∃ n : Nat, le.toInt = n := ⟨le.toInt.toNat, by have : (-1 : Int32).toInt = -1 := rfl; omega⟩
    have hne4 : ne_ < 4 := by omega
    refine g_iastore 50 rfl C X101 e102 B39 (ne_) hne_ (by omega) (1 : Int32) rfl d5_49 N40 g_w4 fun T103 h104 ls105 X106 e107 W108 B109 N110 => ?_
    have F111 := F41.wr W108
    have F112 := F42.other W108 (Or.inl (Nat.ne_of_lt (Nat.lt_trans lt_b0_w0 lt_w0_w4)))
    have F113 := F43.other W108 (Nat.ne_of_lt lt_w0_w4)
    have F114 := F44.other W108 (Or.inl (Nat.ne_of_lt (Nat.lt_trans lt_b0_w0 lt_w0_w4)))
    have F115 := F45.other W108 (Or.inl (Nat.ne_of_lt (Nat.lt_trans lt_b0_w0 lt_w0_w4)))
    have F116 := F46.other W108 (Nat.ne_of_gt lt_w4_w5)
    have F117 := F47.other W108 (Or.inl (Nat.ne_of_lt (Nat.lt_trans lt_b0_w0 lt_w0_w4)))
    have F118 := F48.other W108 (Nat.ne_of_gt (Nat.lt_trans lt_w4_w5 lt_w5_w7))
    have F119 := F49.other W108 (Or.inl (Nat.ne_of_lt (Nat.lt_trans lt_b0_w0 lt_w0_w4)))
    have F120 := F50.other W108 (Nat.ne_of_gt (Nat.lt_trans (Nat.lt_trans lt_w4_w5 lt_w5_w7) lt_w7_w8))
    have Zs121 := Nat.le_trans Zs51 (Nat.le_of_eq W108.size.symm)
    have Kp122 : Keep h0 h104 [w4, w5, w7, w8] := Kp52.wr W108 (Or.inl (List.mem_of_getElem? (i := 0) rfl))
    refine g_aloadN 51 rfl C X106 d5_50 rfl rfl ?_
    refine g_getF 54 rfl C X106 (host := "") (Or.inl (hw _ (List.mem_of_getElem? (i := 26) rfl))) Via.refl e107 F119 d5_51 fun T123 X124 e125 => ?_
    refine g_iloadN 55 rfl C X124 d5_54 rfl ?_
    refine g_iloadN 56 rfl C X124 d5_55 rfl ?_
    refine g_iastore 57 rfl C X124 e125 F120 (nb) hnb (by omega) (1 : Int32) rfl d5_56 N110 g_w8 fun T126 h127 ls128 X129 e130 W131 B132 N133 => ?_
    have F134 := F111.wr W131
    have F135 := F112.other W131 (Or.inl (Nat.ne_of_lt (Nat.lt_trans (Nat.lt_trans (Nat.lt_trans (Nat.lt_trans lt_b0_w0 lt_w0_w4) lt_w4_w5) lt_w5_w7) lt_w7_w8)))
    have F136 := F113.other W131 (Nat.ne_of_lt (Nat.lt_trans (Nat.lt_trans (Nat.lt_trans lt_w0_w4 lt_w4_w5) lt_w5_w7) lt_w7_w8))
    have F137 := F114.other W131 (Or.inl (Nat.ne_of_lt (Nat.lt_trans (Nat.lt_trans (Nat.lt_trans (Nat.lt_trans lt_b0_w0 lt_w0_w4) lt_w4_w5) lt_w5_w7) lt_w7_w8)))
    have F138 := B109.other W131 (Nat.ne_of_lt (Nat.lt_trans (Nat.lt_trans lt_w4_w5 lt_w5_w7) lt_w7_w8))
    have F139 := F115.other W131 (Or.inl (Nat.ne_of_lt (Nat.lt_trans (Nat.lt_trans (Nat.lt_trans (Nat.lt_trans lt_b0_w0 lt_w0_w4) lt_w4_w5) lt_w5_w7) lt_w7_w8)))
    have F140 := F116.other W131 (Nat.ne_of_lt (Nat.lt_trans lt_w5_w7 lt_w7_w8))
    have F141 := F117.other W131 (Or.inl (Nat.ne_of_lt (Nat.lt_trans (Nat.lt_trans (Nat.lt_trans (Nat.lt_trans lt_b0_w0 lt_w0_w4) lt_w4_w5) lt_w5_w7) lt_w7_w8)))
    have F142 := F118.other W131 (Nat.ne_of_lt lt_w7_w8)
    have F143 := F119.other W131 (Or.inl (Nat.ne_of_lt (Nat.lt_trans (Nat.lt_trans (Nat.lt_trans (Nat.lt_trans lt_b0_w0 lt_w0_w4) lt_w4_w5) lt_w5_w7) lt_w7_w8)))
    have Zs144 := Nat.le_trans Zs121 (Nat.le_of_eq W131.size.symm)
    have Kp145 : Keep h0 h127 [w4, w5, w7, w8] := Kp122.wr W131 (Or.inl (List.mem_of_getElem? (i := 3) rfl))
    exact g_retV C X129 rfl d5_57 e130 (by decide) (by decide) ⟨rfl, N133, Kp145, ⟨_, F138⟩, ⟨_, F140⟩, ⟨_, F142⟩, B132⟩
theorem d4_0 : decode prog_51_method_2_code 0 = .ok (.aload_n 0, 1) := by decide +kernel
theorem d4_1 : decode prog_51_method_2_code 1 = .ok (.getfield 55, 3) := by decide +kernel
theorem d4_4 : decode prog_51_method_2_code 4 = .ok (.ifCond .le 22, 3) := by decide +kernel
theorem d4_26 : decode prog_51_method_2_code 26 = .ok (.aload_n 0, 1) := by decide +kernel
theorem d4_27 : decode prog_51_method_2_code 27 = .ok (.dup, 1) := by decide +kernel
theorem d4_28 : decode prog_51_method_2_code 28 = .ok (.getfield 59, 3) := by decide +kernel
theorem d4_31 : decode prog_51_method_2_code 31 = .ok (.dup_x1, 1) := by decide +kernel
theorem d4_32 : decode prog_51_method_2_code 32 = .ok (.iconst 1, 1) := by decide +kernel
theorem d4_33 : decode prog_51_method_2_code 33 = .ok (.iadd, 1) := by decide +kernel
theorem d4_34 : decode prog_51_method_2_code 34 = .ok (.putfield 59, 3) := by decide +kernel
theorem d4_37 : decode prog_51_method_2_code 37 = .ok (.istore 4, 2) := by decide +kernel
theorem d4_39 : decode prog_51_method_2_code 39 = .ok (.aload_n 0, 1) := by decide +kernel
theorem d4_40 : decode prog_51_method_2_code 40 = .ok (.getfield 7, 3) := by decide +kernel
theorem d4_43 : decode prog_51_method_2_code 43 = .ok (.iload 4, 2) := by decide +kernel
theorem d4_45 : decode prog_51_method_2_code 45 = .ok (.iload_n 1, 1) := by decide +kernel
theorem d4_46 : decode prog_51_method_2_code 46 = .ok (.iastore, 1) := by decide +kernel
theorem d4_47 : decode prog_51_method_2_code 47 = .ok (.aload_n 0, 1) := by decide +kernel
theorem d4_48 : decode prog_51_method_2_code 48 = .ok (.getfield 13, 3) := by decide +kernel
theorem d4_51 : decode prog_51_method_2_code 51 = .ok (.iload 4, 2) := by decide +kernel
theorem d4_53 : decode prog_51_method_2_code 53 = .ok (.iload_n 2, 1) := by decide +kernel
theorem d4_54 : decode prog_51_method_2_code 54 = .ok (.iastore, 1) := by decide +kernel
theorem d4_55 : decode prog_51_method_2_code 55 = .ok (.aload_n 0, 1) := by decide +kernel
theorem d4_56 : decode prog_51_method_2_code 56 = .ok (.getfield 16, 3) := by decide +kernel
theorem d4_59 : decode prog_51_method_2_code 59 = .ok (.iload 4, 2) := by decide +kernel
theorem d4_61 : decode prog_51_method_2_code 61 = .ok (.iload_n 3, 1) := by decide +kernel
theorem d4_62 : decode prog_51_method_2_code 62 = .ok (.iastore, 1) := by decide +kernel
theorem d4_63 : decode prog_51_method_2_code 63 = .ok (.aload_n 0, 1) := by decide +kernel
theorem d4_64 : decode prog_51_method_2_code 64 = .ok (.getfield 19, 3) := by decide +kernel
theorem d4_67 : decode prog_51_method_2_code 67 = .ok (.iload 4, 2) := by decide +kernel
theorem d4_69 : decode prog_51_method_2_code 69 = .ok (.iconst (-1), 1) := by decide +kernel
theorem d4_70 : decode prog_51_method_2_code 70 = .ok (.iastore, 1) := by decide +kernel
theorem d4_71 : decode prog_51_method_2_code 71 = .ok (.aload_n 0, 1) := by decide +kernel
theorem d4_72 : decode prog_51_method_2_code 72 = .ok (.iload 4, 2) := by decide +kernel
theorem d4_74 : decode prog_51_method_2_code 74 = .ok (.invokevirtual 62, 3) := by decide +kernel
theorem pd_52681297 : parseMethodDescriptor "(I)V" = some ⟨[.int], none⟩ := by decide +kernel
theorem d4_77 : decode prog_51_method_2_code 77 = .ok (.aload_n 0, 1) := by decide +kernel
theorem d4_78 : decode prog_51_method_2_code 78 = .ok (.getfield 37, 3) := by decide +kernel
theorem d4_81 : decode prog_51_method_2_code 81 = .ok (.iload_n 1, 1) := by decide +kernel
theorem d4_82 : decode prog_51_method_2_code 82 = .ok (.dup2, 1) := by decide +kernel
theorem d4_83 : decode prog_51_method_2_code 83 = .ok (.iaload, 1) := by decide +kernel
theorem d4_84 : decode prog_51_method_2_code 84 = .ok (.iconst 1, 1) := by decide +kernel
theorem d4_85 : decode prog_51_method_2_code 85 = .ok (.iadd, 1) := by decide +kernel
theorem d4_86 : decode prog_51_method_2_code 86 = .ok (.iastore, 1) := by decide +kernel
theorem d4_87 : decode prog_51_method_2_code 87 = .ok (.iload 4, 2) := by decide +kernel
theorem d4_89 : decode prog_51_method_2_code 89 = .ok (.ireturn, 1) := by decide +kernel
theorem ef_4_0 (m : MethodId) (b0 : Addr) (p1 : Int32) (p2 : Int32) (p3 : Int32) : entryFrame m #[(.ref b0), (.int p1), (.int p2), (.int p3)] 5 = mkF m 0 #[.val (.ref b0), .val (.int p1), .val (.int p2), .val (.int p3), .unset] [] := by first | (simp [entryFrame, mkF, argsToLocals, Value.category]; done) | rfl
def Q4_0 (Z : State) (b0 : Addr) (p1 : Int32) (p2 : Int32) (p3 : Int32) (w0 : Addr) (f_blockOf : Nat → Int32) (w1 : Addr) (f_labelOf : Nat → Int32) (w2 : Addr) (f_coarseOf : Nat → Int32) (w3 : Addr) (f_firstMember : Nat → Int32) (w4 : Addr) (f_nextExit : Nat → Int32) (w5 : Addr) (f_previousExit : Nat → Int32) (w7 : Addr) (f_firstExit : Nat → Int32) (w8 : Addr) (f_lastExit : Nat → Int32) (w9 : Addr) (f_exitCount : Nat → Int32) (w6 : Addr) (w10 : Addr) (w11 : Addr) (w12 : Addr) (nb : Nat) (h0 : Heap) (n0 : Nat) (v : Option Value) (h : Heap) (L : List Loc) : Prop := v = some (.int 0) ∧ Fr n0 L ∧ Keep h0 h [b0, w0, w1, w2, w3, w4, w5, w7, w8, w9] ∧ Exa Z h b0 "com/example/bisimulation/bisimulation/lts/Exits" ∧ Fld Z h b0 "com/example/bisimulation/bisimulation/lts/Exits" "blockOf" "[I" (.ref w0) ∧ Fld Z h b0 "com/example/bisimulation/bisimulation/lts/Exits" "labelOf" "[I" (.ref w1) ∧ Fld Z h b0 "com/example/bisimulation/bisimulation/lts/Exits" "coarseOf" "[I" (.ref w2) ∧ Fld Z h b0 "com/example/bisimulation/bisimulation/lts/Exits" "firstMember" "[I" (.ref w3) ∧ Fld Z h b0 "com/example/bisimulation/bisimulation/lts/Exits" "nextExit" "[I" (.ref w4) ∧ Fld Z h b0 "com/example/bisimulation/bisimulation/lts/Exits" "previousExit" "[I" (.ref w5) ∧ Fld Z h b0 "com/example/bisimulation/bisimulation/lts/Exits" "freeExits" "[I" (.ref w6) ∧ Fld Z h b0 "com/example/bisimulation/bisimulation/lts/Exits" "firstExit" "[I" (.ref w7) ∧ Fld Z h b0 "com/example/bisimulation/bisimulation/lts/Exits" "lastExit" "[I" (.ref w8) ∧ Fld Z h b0 "com/example/bisimulation/bisimulation/lts/Exits" "exitCount" "[I" (.ref w9) ∧ Fld Z h b0 "com/example/bisimulation/bisimulation/lts/Exits" "exitOfCounter" "[I" (.ref w10) ∧ Fld Z h b0 "com/example/bisimulation/bisimulation/lts/Exits" "nextMember" "[I" (.ref w11) ∧ Fld Z h b0 "com/example/bisimulation/bisimulation/lts/Exits" "previousMember" "[I" (.ref w12) ∧ Fld Z h b0 "com/example/bisimulation/bisimulation/lts/Exits" "freeCount" "I" (.int (0 : Int32)) ∧ Fld Z h b0 "com/example/bisimulation/bisimulation/lts/Exits" "limit" "I" (.int ((0 : Int32) + (1 : Int32))) ∧ (∃ g, Ba Z h w0 .int 4 g) ∧ (∃ g, Ba Z h w1 .int 4 g) ∧ (∃ g, Ba Z h w2 .int 4 g) ∧ (∃ g, Ba Z h w4 .int 4 g) ∧ (∃ g, Ba Z h w5 .int 4 g) ∧ (∃ g, Ba Z h w7 .int 2 g) ∧ (∃ g, Ba Z h w9 .int 2 g) ∧ Ba Z h w3 .int 4 (upd f_firstMember 0 (-1 : Int32)) ∧ Ba Z h w8 .int 2 (upd f_lastExit nb (0 : Int32))
set_option maxRecDepth 65536 in
set_option maxHeartbeats 40000000 in
theorem rm4_0 (l : Launch) (Z : State) (a0 : Array Value) (hw : ∀ d ∈ tables_1, d.before a0 Z = true) (ws : List Jvm.Cond) (b0 : Addr) (p1 : Int32) (p2 : Int32) (p3 : Int32) (w0 : Addr) (f_blockOf : Nat → Int32) (w1 : Addr) (f_labelOf : Nat → Int32) (w2 : Addr) (f_coarseOf : Nat → Int32) (w3 : Addr) (f_firstMember : Nat → Int32) (w4 : Addr) (f_nextExit : Nat → Int32) (w5 : Addr) (f_previousExit : Nat → Int32) (w7 : Addr) (f_firstExit : Nat → Int32) (w8 : Addr) (f_lastExit : Nat → Int32) (w9 : Addr) (f_exitCount : Nat → Int32) (w6 : Addr) (w10 : Addr) (w11 : Addr) (w12 : Addr) (nb : Nat) (h0 : Heap) (n0 : Nat) (Z0 : n0 ≤ h0.size) (E_b0 : Exa Z h0 b0 "com/example/bisimulation/bisimulation/lts/Exits") (F_blockOf : Fld Z h0 b0 "com/example/bisimulation/bisimulation/lts/Exits" "blockOf" "[I" (.ref w0)) (B_blockOf : Ba Z h0 w0 .int 4 f_blockOf) (F_labelOf : Fld Z h0 b0 "com/example/bisimulation/bisimulation/lts/Exits" "labelOf" "[I" (.ref w1)) (B_labelOf : Ba Z h0 w1 .int 4 f_labelOf) (F_coarseOf : Fld Z h0 b0 "com/example/bisimulation/bisimulation/lts/Exits" "coarseOf" "[I" (.ref w2)) (B_coarseOf : Ba Z h0 w2 .int 4 f_coarseOf) (F_firstMember : Fld Z h0 b0 "com/example/bisimulation/bisimulation/lts/Exits" "firstMember" "[I" (.ref w3)) (B_firstMember : Ba Z h0 w3 .int 4 f_firstMember) (F_nextExit : Fld Z h0 b0 "com/example/bisimulation/bisimulation/lts/Exits" "nextExit" "[I" (.ref w4)) (B_nextExit : Ba Z h0 w4 .int 4 f_nextExit) (F_previousExit : Fld Z h0 b0 "com/example/bisimulation/bisimulation/lts/Exits" "previousExit" "[I" (.ref w5)) (B_previousExit : Ba Z h0 w5 .int 4 f_previousExit) (F_firstExit : Fld Z h0 b0 "com/example/bisimulation/bisimulation/lts/Exits" "firstExit" "[I" (.ref w7)) (B_firstExit : Ba Z h0 w7 .int 2 f_firstExit) (F_lastExit : Fld Z h0 b0 "com/example/bisimulation/bisimulation/lts/Exits" "lastExit" "[I" (.ref w8)) (B_lastExit : Ba Z h0 w8 .int 2 f_lastExit) (F_exitCount : Fld Z h0 b0 "com/example/bisimulation/bisimulation/lts/Exits" "exitCount" "[I" (.ref w9)) (B_exitCount : Ba Z h0 w9 .int 2 f_exitCount) (lt_b0_w0 : b0 < w0) (lt_w0_w1 : w0 < w1) (lt_w1_w2 : w1 < w2) (lt_w2_w3 : w2 < w3) (lt_w3_w4 : w3 < w4) (lt_w4_w5 : w4 < w5) (lt_w5_w7 : w5 < w7) (lt_w7_w8 : w7 < w8) (lt_w8_w9 : w8 < w9) (g_b0 : n0 ≤ b0) (F_freeExits : Fld Z h0 b0 "com/example/bisimulation/bisimulation/lts/Exits" "freeExits" "[I" (.ref w6)) (F_exitOfCounter : Fld Z h0 b0 "com/example/bisimulation/bisimulation/lts/Exits" "exitOfCounter" "[I" (.ref w10)) (F_nextMember : Fld Z h0 b0 "com/example/bisimulation/bisimulation/lts/Exits" "nextMember" "[I" (.ref w11)) (F_previousMember : Fld Z h0 b0 "com/example/bisimulation/bisimulation/lts/Exits" "previousMember" "[I" (.ref w12)) (F_freeCount : Fld Z h0 b0 "com/example/bisimulation/bisimulation/lts/Exits" "freeCount" "I" (.int (0 : Int32))) (F_limit : Fld Z h0 b0 "com/example/bisimulation/bisimulation/lts/Exits" "limit" "I" (.int (0 : Int32))) (hnb : p1.toInt = nb) (hnb2 : nb < 2) (hler : ∀ k, k < 2 → -1 ≤ (f_lastExit k).toInt ∧ (f_lastExit k).toInt < 4) :
    MetFree l (⟨"com/example/bisimulation/bisimulation/lts/Exits", "open", "(III)I"⟩ : MethodName) (head1 (Jvm.Cond.code (⟨"com/example/bisimulation/bisimulation/lts/Exits", "open", "(III)I"⟩ : MethodName) prog_51_method_2_code 5 (some .int) :: ws) ({ frames := 1, cells := 0, slots := 0, locals := 15 } : Room)) (fun a U => a = #[(.ref b0), (.int p1), (.int p2), (.int p3)] ∧ Z.Warmed39 U.vm ∧ U.heap = h0) (fun _ _ _ _ _ => True) (fun _ U o U' => ∃ v L, o = .returned v ∧ Q4_0 Z b0 p1 p2 p3 w0 f_blockOf w1 f_labelOf w2 f_coarseOf w3 f_firstMember w4 f_nextExit w5 f_previousExit w7 f_firstExit w8 f_lastExit w9 f_exitCount w6 w10 w11 w12 nb h0 n0 v U'.heap L ∧ FrameEnd U o U' L ({ frames := 1, cells := 0, slots := 0, locals := 15 } : Room).cells ({ frames := 1, cells := 0, slots := 0, locals := 15 } : Room).slots) := by
  refine MetFree.of_bodySF (plainFor_of_name pn_90945715) hisR ?_
  intro p e s m args below meth c s₁ Bd hml0 hP hK
  obtain ⟨rfl, hZ, hh⟩ := hP
  have C : Ctx p s m meth c Z "com/example/bisimulation/bisimulation/lts/Exits" "open" prog_51_method_2_code 5 (some .int) := Ctx.of Bd hml0 hZ
  have X0 : Stand p l e ({ frames := 1, cells := 0, slots := 0, locals := 15 } : Room) s m #[(.ref b0), (.int p1), (.int p2), (.int p3)] below meth c s₁ [] 0 0 := Stand.of_body Bd
  have e0 : s₁.heap = h0 := by rw [← hh, Bd.state]; rfl
  have N0 := Fr.nil n0
  refine Goes.enter (ef_4_0 m b0 p1 p2 p3) ?_
  clear hK hml0 hh
  have g_w0 : n0 ≤ w0 := Nat.le_trans g_b0 (Nat.le_of_lt lt_b0_w0)
  have g_w1 : n0 ≤ w1 := Nat.le_trans g_b0 (Nat.le_of_lt (Nat.lt_trans lt_b0_w0 lt_w0_w1))
  have g_w2 : n0 ≤ w2 := Nat.le_trans g_b0 (Nat.le_of_lt (Nat.lt_trans (Nat.lt_trans lt_b0_w0 lt_w0_w1) lt_w1_w2))
  have g_w3 : n0 ≤ w3 := Nat.le_trans g_b0 (Nat.le_of_lt (Nat.lt_trans (Nat.lt_trans (Nat.lt_trans lt_b0_w0 lt_w0_w1) lt_w1_w2) lt_w2_w3))
  have g_w4 : n0 ≤ w4 := Nat.le_trans g_b0 (Nat.le_of_lt (Nat.lt_trans (Nat.lt_trans (Nat.lt_trans (Nat.lt_trans lt_b0_w0 lt_w0_w1) lt_w1_w2) lt_w2_w3) lt_w3_w4))
  have g_w5 : n0 ≤ w5 := Nat.le_trans g_b0 (Nat.le_of_lt (Nat.lt_trans (Nat.lt_trans (Nat.lt_trans (Nat.lt_trans (Nat.lt_trans lt_b0_w0 lt_w0_w1) lt_w1_w2) lt_w2_w3) lt_w3_w4) lt_w4_w5))
  have g_w7 : n0 ≤ w7 := Nat.le_trans g_b0 (Nat.le_of_lt (Nat.lt_trans (Nat.lt_trans (Nat.lt_trans (Nat.lt_trans (Nat.lt_trans (Nat.lt_trans lt_b0_w0 lt_w0_w1) lt_w1_w2) lt_w2_w3) lt_w3_w4) lt_w4_w5) lt_w5_w7))
  have g_w8 : n0 ≤ w8 := Nat.le_trans g_b0 (Nat.le_of_lt (Nat.lt_trans (Nat.lt_trans (Nat.lt_trans (Nat.lt_trans (Nat.lt_trans (Nat.lt_trans (Nat.lt_trans lt_b0_w0 lt_w0_w1) lt_w1_w2) lt_w2_w3) lt_w3_w4) lt_w4_w5) lt_w5_w7) lt_w7_w8))
  have g_w9 : n0 ≤ w9 := Nat.le_trans g_b0 (Nat.le_of_lt (Nat.lt_trans (Nat.lt_trans (Nat.lt_trans (Nat.lt_trans (Nat.lt_trans (Nat.lt_trans (Nat.lt_trans (Nat.lt_trans lt_b0_w0 lt_w0_w1) lt_w1_w2) lt_w2_w3) lt_w3_w4) lt_w4_w5) lt_w5_w7) lt_w7_w8) lt_w8_w9))
  refine g_aloadN 1 rfl C X0 d4_0 rfl rfl ?_
  refine g_getF 4 rfl C X0 (host := "") (Or.inl (hw _ (List.mem_of_getElem? (i := 45) rfl))) Via.refl e0 F_freeCount d4_1 fun T1 X2 e3 => ?_
  refine g_if_le_t 26 C X2 d4_4 (by decide) (by decide) (by decide) ?_
  refine g_aloadN 27 rfl C X2 d4_26 rfl rfl ?_
  refine g_dup 28 rfl C X2 d4_27 rfl ?_
  refine g_getF 31 rfl C X2 (host := "") (Or.inl (hw _ (List.mem_of_getElem? (i := 47) rfl))) Via.refl e3 F_limit d4_28 fun T4 X5 e6 => ?_
  refine g_dupX1 32 rfl C X5 d4_31 rfl rfl ?_
  refine g_iconst 33 rfl C X5 (1 : Int32) d4_32 rfl ?_
  refine g_iadd 34 rfl C X5 d4_33 ?_
  refine g_putF 37 rfl C X5 (host := "") (Or.inl (hw _ (List.mem_of_getElem? (i := 47) rfl))) Via.refl e6 F_limit E_b0 (Or.inl (hw _ (List.mem_of_getElem? (i := 48) rfl))) (hw _ (List.mem_of_getElem? (i := 1) rfl)) (ty := .int) (by decide) rfl rfl d4_34 N0 g_b0 fun T7 h8 ls9 X10 e11 W12 N13 => ?_
  have F14 : Fld Z h8 b0 "com/example/bisimulation/bisimulation/lts/Exits" "limit" "I" (.int ((0 : Int32) + (1 : Int32))) := F_limit.same W12
  have F15 := E_b0.wr W12
  have F16 := F_blockOf.other W12 (Or.inr (slot_ne (Or.inr (hw _ (List.mem_of_getElem? (i := 11) rfl))) (Or.inl (hw _ (List.mem_of_getElem? (i := 48) rfl))) (by decide) (t := (.array .int)) (t' := .int) (by decide) (by decide)))
  have F17 := B_blockOf.other W12 (Nat.ne_of_gt lt_b0_w0)
  have F18 := F_labelOf.other W12 (Or.inr (slot_ne (Or.inr (hw _ (List.mem_of_getElem? (i := 13) rfl))) (Or.inl (hw _ (List.mem_of_getElem? (i := 48) rfl))) (by decide) (t := (.array .int)) (t' := .int) (by decide) (by decide)))
  have F19 := B_labelOf.other W12 (Nat.ne_of_gt (Nat.lt_trans lt_b0_w0 lt_w0_w1))
  have F20 := F_coarseOf.other W12 (Or.inr (slot_ne (Or.inr (hw _ (List.mem_of_getElem? (i := 15) rfl))) (Or.inl (hw _ (List.mem_of_getElem? (i := 48) rfl))) (by decide) (t := (.array .int)) (t' := .int) (by decide) (by decide)))
  have F21 := B_coarseOf.other W12 (Nat.ne_of_gt (Nat.lt_trans (Nat.lt_trans lt_b0_w0 lt_w0_w1) lt_w1_w2))
  have F22 := F_firstMember.other W12 (Or.inr (slot_ne (Or.inr (hw _ (List.mem_of_getElem? (i := 17) rfl))) (Or.inl (hw _ (List.mem_of_getElem? (i := 48) rfl))) (by decide) (t := (.array .int)) (t' := .int) (by decide) (by decide)))
  have F23 := B_firstMember.other W12 (Nat.ne_of_gt (Nat.lt_trans (Nat.lt_trans (Nat.lt_trans lt_b0_w0 lt_w0_w1) lt_w1_w2) lt_w2_w3))
  have F24 := F_nextExit.other W12 (Or.inr (slot_ne (Or.inr (hw _ (List.mem_of_getElem? (i := 19) rfl))) (Or.inl (hw _ (List.mem_of_getElem? (i := 48) rfl))) (by decide) (t := (.array .int)) (t' := .int) (by decide) (by decide)))
  have F25 := B_nextExit.other W12 (Nat.ne_of_gt (Nat.lt_trans (Nat.lt_trans (Nat.lt_trans (Nat.lt_trans lt_b0_w0 lt_w0_w1) lt_w1_w2) lt_w2_w3) lt_w3_w4))
  have F26 := F_previousExit.other W12 (Or.inr (slot_ne (Or.inr (hw _ (List.mem_of_getElem? (i := 21) rfl))) (Or.inl (hw _ (List.mem_of_getElem? (i := 48) rfl))) (by decide) (t := (.array .int)) (t' := .int) (by decide) (by decide)))
  have F27 := B_previousExit.other W12 (Nat.ne_of_gt (Nat.lt_trans (Nat.lt_trans (Nat.lt_trans (Nat.lt_trans (Nat.lt_trans lt_b0_w0 lt_w0_w1) lt_w1_w2) lt_w2_w3) lt_w3_w4) lt_w4_w5))
  have F28 := F_firstExit.other W12 (Or.inr (slot_ne (Or.inr (hw _ (List.mem_of_getElem? (i := 25) rfl))) (Or.inl (hw _ (List.mem_of_getElem? (i := 48) rfl))) (by decide) (t := (.array .int)) (t' := .int) (by decide) (by decide)))
  have F29 := B_firstExit.other W12 (Nat.ne_of_gt (Nat.lt_trans (Nat.lt_trans (Nat.lt_trans (Nat.lt_trans (Nat.lt_trans (Nat.lt_trans lt_b0_w0 lt_w0_w1) lt_w1_w2) lt_w2_w3) lt_w3_w4) lt_w4_w5) lt_w5_w7))
  have F30 := F_lastExit.other W12 (Or.inr (slot_ne (Or.inr (hw _ (List.mem_of_getElem? (i := 27) rfl))) (Or.inl (hw _ (List.mem_of_getElem? (i := 48) rfl))) (by decide) (t := (.array .int)) (t' := .int) (by decide) (by decide)))
  have F31 := B_lastExit.other W12 (Nat.ne_of_gt (Nat.lt_trans (Nat.lt_trans (Nat.lt_trans (Nat.lt_trans (Nat.lt_trans (Nat.lt_trans (Nat.lt_trans lt_b0_w0 lt_w0_w1) lt_w1_w2) lt_w2_w3) lt_w3_w4) lt_w4_w5) lt_w5_w7) lt_w7_w8))
  have F32 := F_exitCount.other W12 (Or.inr (slot_ne (Or.inr (hw _ (List.mem_of_getElem? (i := 29) rfl))) (Or.inl (hw _ (List.mem_of_getElem? (i := 48) rfl))) (by decide) (t := (.array .int)) (t' := .int) (by decide) (by decide)))
  have F33 := B_exitCount.other W12 (Nat.ne_of_gt (Nat.lt_trans (Nat.lt_trans (Nat.lt_trans (Nat.lt_trans (Nat.lt_trans (Nat.lt_trans (Nat.lt_trans (Nat.lt_trans lt_b0_w0 lt_w0_w1) lt_w1_w2) lt_w2_w3) lt_w3_w4) lt_w4_w5) lt_w5_w7) lt_w7_w8) lt_w8_w9))
  have F34 := F_freeExits.other W12 (Or.inr (slot_ne (Or.inr (hw _ (List.mem_of_getElem? (i := 23) rfl))) (Or.inl (hw _ (List.mem_of_getElem? (i := 48) rfl))) (by decide) (t := (.array .int)) (t' := .int) (by decide) (by decide)))
  have F35 := F_exitOfCounter.other W12 (Or.inr (slot_ne (Or.inr (hw _ (List.mem_of_getElem? (i := 35) rfl))) (Or.inl (hw _ (List.mem_of_getElem? (i := 48) rfl))) (by decide) (t := (.array .int)) (t' := .int) (by decide) (by decide)))
  have F36 := F_nextMember.other W12 (Or.inr (slot_ne (Or.inr (hw _ (List.mem_of_getElem? (i := 37) rfl))) (Or.inl (hw _ (List.mem_of_getElem? (i := 48) rfl))) (by decide) (t := (.array .int)) (t' := .int) (by decide) (by decide)))
  have F37 := F_previousMember.other W12 (Or.inr (slot_ne (Or.inr (hw _ (List.mem_of_getElem? (i := 39) rfl))) (Or.inl (hw _ (List.mem_of_getElem? (i := 48) rfl))) (by decide) (t := (.array .int)) (t' := .int) (by decide) (by decide)))
  have F38 := F_freeCount.other W12 (Or.inr (slot_ne (Or.inl (hw _ (List.mem_of_getElem? (i := 46) rfl))) (Or.inl (hw _ (List.mem_of_getElem? (i := 48) rfl))) (by decide) (t := .int) (t' := .int) (by decide) (by decide)))
  have Zs39 := Nat.le_trans Z0 (Nat.le_of_eq W12.size.symm)
  have Kp40 : Keep h0 h8 [b0, w0, w1, w2, w3, w4, w5, w7, w8, w9] := (Keep.refl h0 [b0, w0, w1, w2, w3, w4, w5, w7, w8, w9]).wr W12 (Or.inl (List.mem_of_getElem? (i := 0) rfl))
  refine g_istore 39 rfl C X10 (0 : Int32) rfl #[.val (.ref b0), .val (.int p1), .val (.int p2), .val (.int p3), .val (.int (0 : Int32))] d4_37 rfl ?_
  refine g_aloadN 40 rfl C X10 d4_39 rfl rfl ?_
  refine g_getF 43 rfl C X10 (host := "") (Or.inl (hw _ (List.mem_of_getElem? (i := 10) rfl))) Via.refl e11 F16 d4_40 fun T41 X42 e43 => ?_
  refine g_iload 45 rfl C X42 d4_43 rfl ?_
  refine g_iloadN 46 rfl C X42 d4_45 rfl ?_
  refine g_iastore 47 rfl C X42 e43 F17 0 (by decide) (by decide) p1 rfl d4_46 N13 g_w0 fun T44 h45 ls46 X47 e48 W49 B50 N51 => ?_
  have F52 := F15.wr W49
  have F53 := F16.other W49 (Or.inl (Nat.ne_of_lt lt_b0_w0))
  have F54 := F18.other W49 (Or.inl (Nat.ne_of_lt lt_b0_w0))
  have F55 := F19.other W49 (Nat.ne_of_gt lt_w0_w1)
  have F56 := F20.other W49 (Or.inl (Nat.ne_of_lt lt_b0_w0))
  have F57 := F21.other W49 (Nat.ne_of_gt (Nat.lt_trans lt_w0_w1 lt_w1_w2))
  have F58 := F22.other W49 (Or.inl (Nat.ne_of_lt lt_b0_w0))
  have F59 := F23.other W49 (Nat.ne_of_gt (Nat.lt_trans (Nat.lt_trans lt_w0_w1 lt_w1_w2) lt_w2_w3))
  have F60 := F24.other W49 (Or.inl (Nat.ne_of_lt lt_b0_w0))
  have F61 := F25.other W49 (Nat.ne_of_gt (Nat.lt_trans (Nat.lt_trans (Nat.lt_trans lt_w0_w1 lt_w1_w2) lt_w2_w3) lt_w3_w4))
  have F62 := F26.other W49 (Or.inl (Nat.ne_of_lt lt_b0_w0))
  have F63 := F27.other W49 (Nat.ne_of_gt (Nat.lt_trans (Nat.lt_trans (Nat.lt_trans (Nat.lt_trans lt_w0_w1 lt_w1_w2) lt_w2_w3) lt_w3_w4) lt_w4_w5))
  have F64 := F28.other W49 (Or.inl (Nat.ne_of_lt lt_b0_w0))
  have F65 := F29.other W49 (Nat.ne_of_gt (Nat.lt_trans (Nat.lt_trans (Nat.lt_trans (Nat.lt_trans (Nat.lt_trans lt_w0_w1 lt_w1_w2) lt_w2_w3) lt_w3_w4) lt_w4_w5) lt_w5_w7))
  have F66 := F30.other W49 (Or.inl (Nat.ne_of_lt lt_b0_w0))
  have F67 := F31.other W49 (Nat.ne_of_gt (Nat.lt_trans (Nat.lt_trans (Nat.lt_trans (Nat.lt_trans (Nat.lt_trans (Nat.lt_trans lt_w0_w1 lt_w1_w2) lt_w2_w3) lt_w3_w4) lt_w4_w5) lt_w5_w7) lt_w7_w8))
  have F68 := F32.other W49 (Or.inl (Nat.ne_of_lt lt_b0_w0))
  have F69 := F33.other W49 (Nat.ne_of_gt (Nat.lt_trans (Nat.lt_trans (Nat.lt_trans (Nat.lt_trans (Nat.lt_trans (Nat.lt_trans (Nat.lt_trans lt_w0_w1 lt_w1_w2) lt_w2_w3) lt_w3_w4) lt_w4_w5) lt_w5_w7) lt_w7_w8) lt_w8_w9))
  have F70 := F34.other W49 (Or.inl (Nat.ne_of_lt lt_b0_w0))
  have F71 := F35.other W49 (Or.inl (Nat.ne_of_lt lt_b0_w0))
  have F72 := F36.other W49 (Or.inl (Nat.ne_of_lt lt_b0_w0))
  have F73 := F37.other W49 (Or.inl (Nat.ne_of_lt lt_b0_w0))
  have F74 := F38.other W49 (Or.inl (Nat.ne_of_lt lt_b0_w0))
  have F75 := F14.other W49 (Or.inl (Nat.ne_of_lt lt_b0_w0))
  have Zs76 := Nat.le_trans Zs39 (Nat.le_of_eq W49.size.symm)
  have Kp77 : Keep h0 h45 [b0, w0, w1, w2, w3, w4, w5, w7, w8, w9] := Kp40.wr W49 (Or.inl (List.mem_of_getElem? (i := 1) rfl))
  refine g_aloadN 48 rfl C X47 d4_47 rfl rfl ?_
  refine g_getF 51 rfl C X47 (host := "") (Or.inl (hw _ (List.mem_of_getElem? (i := 12) rfl))) Via.refl e48 F54 d4_48 fun T78 X79 e80 => ?_
  refine g_iload 53 rfl C X79 d4_51 rfl ?_
  refine g_iloadN 54 rfl C X79 d4_53 rfl ?_
  refine g_iastore 55 rfl C X79 e80 F55 0 (by decide) (by decide) p2 rfl d4_54 N51 g_w1 fun T81 h82 ls83 X84 e85 W86 B87 N88 => ?_
  have F89 := F52.wr W86
  have F90 := F53.other W86 (Or.inl (Nat.ne_of_lt (Nat.lt_trans lt_b0_w0 lt_w0_w1)))
  have F91 := B50.other W86 (Nat.ne_of_lt lt_w0_w1)
  have F92 := F54.other W86 (Or.inl (Nat.ne_of_lt (Nat.lt_trans lt_b0_w0 lt_w0_w1)))
  have F93 := F56.other W86 (Or.inl (Nat.ne_of_lt (Nat.lt_trans lt_b0_w0 lt_w0_w1)))
  have F94 := F57.other W86 (Nat.ne_of_gt lt_w1_w2)
  have F95 := F58.other W86 (Or.inl (Nat.ne_of_lt (Nat.lt_trans lt_b0_w0 lt_w0_w1)))
  have F96 := F59.other W86 (Nat.ne_of_gt (Nat.lt_trans lt_w1_w2 lt_w2_w3))
  have F97 := F60.other W86 (Or.inl (Nat.ne_of_lt (Nat.lt_trans lt_b0_w0 lt_w0_w1)))
  have F98 := F61.other W86 (Nat.ne_of_gt (Nat.lt_trans (Nat.lt_trans lt_w1_w2 lt_w2_w3) lt_w3_w4))
  have F99 := F62.other W86 (Or.inl (Nat.ne_of_lt (Nat.lt_trans lt_b0_w0 lt_w0_w1)))
  have F100 := F63.other W86 (Nat.ne_of_gt (Nat.lt_trans (Nat.lt_trans (Nat.lt_trans lt_w1_w2 lt_w2_w3) lt_w3_w4) lt_w4_w5))
  have F101 := F64.other W86 (Or.inl (Nat.ne_of_lt (Nat.lt_trans lt_b0_w0 lt_w0_w1)))
  have F102 := F65.other W86 (Nat.ne_of_gt (Nat.lt_trans (Nat.lt_trans (Nat.lt_trans (Nat.lt_trans lt_w1_w2 lt_w2_w3) lt_w3_w4) lt_w4_w5) lt_w5_w7))
  have F103 := F66.other W86 (Or.inl (Nat.ne_of_lt (Nat.lt_trans lt_b0_w0 lt_w0_w1)))
  have F104 := F67.other W86 (Nat.ne_of_gt (Nat.lt_trans (Nat.lt_trans (Nat.lt_trans (Nat.lt_trans (Nat.lt_trans lt_w1_w2 lt_w2_w3) lt_w3_w4) lt_w4_w5) lt_w5_w7) lt_w7_w8))
  have F105 := F68.other W86 (Or.inl (Nat.ne_of_lt (Nat.lt_trans lt_b0_w0 lt_w0_w1)))
  have F106 := F69.other W86 (Nat.ne_of_gt (Nat.lt_trans (Nat.lt_trans (Nat.lt_trans (Nat.lt_trans (Nat.lt_trans (Nat.lt_trans lt_w1_w2 lt_w2_w3) lt_w3_w4) lt_w4_w5) lt_w5_w7) lt_w7_w8) lt_w8_w9))
  have F107 := F70.other W86 (Or.inl (Nat.ne_of_lt (Nat.lt_trans lt_b0_w0 lt_w0_w1)))
  have F108 := F71.other W86 (Or.inl (Nat.ne_of_lt (Nat.lt_trans lt_b0_w0 lt_w0_w1)))
  have F109 := F72.other W86 (Or.inl (Nat.ne_of_lt (Nat.lt_trans lt_b0_w0 lt_w0_w1)))
  have F110 := F73.other W86 (Or.inl (Nat.ne_of_lt (Nat.lt_trans lt_b0_w0 lt_w0_w1)))
  have F111 := F74.other W86 (Or.inl (Nat.ne_of_lt (Nat.lt_trans lt_b0_w0 lt_w0_w1)))
  have F112 := F75.other W86 (Or.inl (Nat.ne_of_lt (Nat.lt_trans lt_b0_w0 lt_w0_w1)))
  have Zs113 := Nat.le_trans Zs76 (Nat.le_of_eq W86.size.symm)
  have Kp114 : Keep h0 h82 [b0, w0, w1, w2, w3, w4, w5, w7, w8, w9] := Kp77.wr W86 (Or.inl (List.mem_of_getElem? (i := 2) rfl))
  refine g_aloadN 56 rfl C X84 d4_55 rfl rfl ?_
  refine g_getF 59 rfl C X84 (host := "") (Or.inl (hw _ (List.mem_of_getElem? (i := 14) rfl))) Via.refl e85 F93 d4_56 fun T115 X116 e117 => ?_
  refine g_iload 61 rfl C X116 d4_59 rfl ?_
  refine g_iloadN 62 rfl C X116 d4_61 rfl ?_
  refine g_iastore 63 rfl C X116 e117 F94 0 (by decide) (by decide) p3 rfl d4_62 N88 g_w2 fun T118 h119 ls120 X121 e122 W123 B124 N125 => ?_
  have F126 := F89.wr W123
  have F127 := F90.other W123 (Or.inl (Nat.ne_of_lt (Nat.lt_trans (Nat.lt_trans lt_b0_w0 lt_w0_w1) lt_w1_w2)))
  have F128 := F91.other W123 (Nat.ne_of_lt (Nat.lt_trans lt_w0_w1 lt_w1_w2))
  have F129 := F92.other W123 (Or.inl (Nat.ne_of_lt (Nat.lt_trans (Nat.lt_trans lt_b0_w0 lt_w0_w1) lt_w1_w2)))
  have F130 := B87.other W123 (Nat.ne_of_lt lt_w1_w2)
  have F131 := F93.other W123 (Or.inl (Nat.ne_of_lt (Nat.lt_trans (Nat.lt_trans lt_b0_w0 lt_w0_w1) lt_w1_w2)))
  have F132 := F95.other W123 (Or.inl (Nat.ne_of_lt (Nat.lt_trans (Nat.lt_trans lt_b0_w0 lt_w0_w1) lt_w1_w2)))
  have F133 := F96.other W123 (Nat.ne_of_gt lt_w2_w3)
  have F134 := F97.other W123 (Or.inl (Nat.ne_of_lt (Nat.lt_trans (Nat.lt_trans lt_b0_w0 lt_w0_w1) lt_w1_w2)))
  have F135 := F98.other W123 (Nat.ne_of_gt (Nat.lt_trans lt_w2_w3 lt_w3_w4))
  have F136 := F99.other W123 (Or.inl (Nat.ne_of_lt (Nat.lt_trans (Nat.lt_trans lt_b0_w0 lt_w0_w1) lt_w1_w2)))
  have F137 := F100.other W123 (Nat.ne_of_gt (Nat.lt_trans (Nat.lt_trans lt_w2_w3 lt_w3_w4) lt_w4_w5))
  have F138 := F101.other W123 (Or.inl (Nat.ne_of_lt (Nat.lt_trans (Nat.lt_trans lt_b0_w0 lt_w0_w1) lt_w1_w2)))
  have F139 := F102.other W123 (Nat.ne_of_gt (Nat.lt_trans (Nat.lt_trans (Nat.lt_trans lt_w2_w3 lt_w3_w4) lt_w4_w5) lt_w5_w7))
  have F140 := F103.other W123 (Or.inl (Nat.ne_of_lt (Nat.lt_trans (Nat.lt_trans lt_b0_w0 lt_w0_w1) lt_w1_w2)))
  have F141 := F104.other W123 (Nat.ne_of_gt (Nat.lt_trans (Nat.lt_trans (Nat.lt_trans (Nat.lt_trans lt_w2_w3 lt_w3_w4) lt_w4_w5) lt_w5_w7) lt_w7_w8))
  have F142 := F105.other W123 (Or.inl (Nat.ne_of_lt (Nat.lt_trans (Nat.lt_trans lt_b0_w0 lt_w0_w1) lt_w1_w2)))
  have F143 := F106.other W123 (Nat.ne_of_gt (Nat.lt_trans (Nat.lt_trans (Nat.lt_trans (Nat.lt_trans (Nat.lt_trans lt_w2_w3 lt_w3_w4) lt_w4_w5) lt_w5_w7) lt_w7_w8) lt_w8_w9))
  have F144 := F107.other W123 (Or.inl (Nat.ne_of_lt (Nat.lt_trans (Nat.lt_trans lt_b0_w0 lt_w0_w1) lt_w1_w2)))
  have F145 := F108.other W123 (Or.inl (Nat.ne_of_lt (Nat.lt_trans (Nat.lt_trans lt_b0_w0 lt_w0_w1) lt_w1_w2)))
  have F146 := F109.other W123 (Or.inl (Nat.ne_of_lt (Nat.lt_trans (Nat.lt_trans lt_b0_w0 lt_w0_w1) lt_w1_w2)))
  have F147 := F110.other W123 (Or.inl (Nat.ne_of_lt (Nat.lt_trans (Nat.lt_trans lt_b0_w0 lt_w0_w1) lt_w1_w2)))
  have F148 := F111.other W123 (Or.inl (Nat.ne_of_lt (Nat.lt_trans (Nat.lt_trans lt_b0_w0 lt_w0_w1) lt_w1_w2)))
  have F149 := F112.other W123 (Or.inl (Nat.ne_of_lt (Nat.lt_trans (Nat.lt_trans lt_b0_w0 lt_w0_w1) lt_w1_w2)))
  have Zs150 := Nat.le_trans Zs113 (Nat.le_of_eq W123.size.symm)
  have Kp151 : Keep h0 h119 [b0, w0, w1, w2, w3, w4, w5, w7, w8, w9] := Kp114.wr W123 (Or.inl (List.mem_of_getElem? (i := 3) rfl))
  refine g_aloadN 64 rfl C X121 d4_63 rfl rfl ?_
  refine g_getF 67 rfl C X121 (host := "") (Or.inl (hw _ (List.mem_of_getElem? (i := 16) rfl))) Via.refl e122 F132 d4_64 fun T152 X153 e154 => ?_
  refine g_iload 69 rfl C X153 d4_67 rfl ?_
  refine g_iconst 70 rfl C X153 (-1 : Int32) d4_69 rfl ?_
  refine g_iastore 71 rfl C X153 e154 F133 0 (by decide) (by decide) (-1 : Int32) rfl d4_70 N125 g_w3 fun T155 h156 ls157 X158 e159 W160 B161 N162 => ?_
  have F163 := F126.wr W160
  have F164 := F127.other W160 (Or.inl (Nat.ne_of_lt (Nat.lt_trans (Nat.lt_trans (Nat.lt_trans lt_b0_w0 lt_w0_w1) lt_w1_w2) lt_w2_w3)))
  have F165 := F128.other W160 (Nat.ne_of_lt (Nat.lt_trans (Nat.lt_trans lt_w0_w1 lt_w1_w2) lt_w2_w3))
  have F166 := F129.other W160 (Or.inl (Nat.ne_of_lt (Nat.lt_trans (Nat.lt_trans (Nat.lt_trans lt_b0_w0 lt_w0_w1) lt_w1_w2) lt_w2_w3)))
  have F167 := F130.other W160 (Nat.ne_of_lt (Nat.lt_trans lt_w1_w2 lt_w2_w3))
  have F168 := F131.other W160 (Or.inl (Nat.ne_of_lt (Nat.lt_trans (Nat.lt_trans (Nat.lt_trans lt_b0_w0 lt_w0_w1) lt_w1_w2) lt_w2_w3)))
  have F169 := B124.other W160 (Nat.ne_of_lt lt_w2_w3)
  have F170 := F132.other W160 (Or.inl (Nat.ne_of_lt (Nat.lt_trans (Nat.lt_trans (Nat.lt_trans lt_b0_w0 lt_w0_w1) lt_w1_w2) lt_w2_w3)))
  have F171 := F134.other W160 (Or.inl (Nat.ne_of_lt (Nat.lt_trans (Nat.lt_trans (Nat.lt_trans lt_b0_w0 lt_w0_w1) lt_w1_w2) lt_w2_w3)))
  have F172 := F135.other W160 (Nat.ne_of_gt lt_w3_w4)
  have F173 := F136.other W160 (Or.inl (Nat.ne_of_lt (Nat.lt_trans (Nat.lt_trans (Nat.lt_trans lt_b0_w0 lt_w0_w1) lt_w1_w2) lt_w2_w3)))
  have F174 := F137.other W160 (Nat.ne_of_gt (Nat.lt_trans lt_w3_w4 lt_w4_w5))
  have F175 := F138.other W160 (Or.inl (Nat.ne_of_lt (Nat.lt_trans (Nat.lt_trans (Nat.lt_trans lt_b0_w0 lt_w0_w1) lt_w1_w2) lt_w2_w3)))
  have F176 := F139.other W160 (Nat.ne_of_gt (Nat.lt_trans (Nat.lt_trans lt_w3_w4 lt_w4_w5) lt_w5_w7))
  have F177 := F140.other W160 (Or.inl (Nat.ne_of_lt (Nat.lt_trans (Nat.lt_trans (Nat.lt_trans lt_b0_w0 lt_w0_w1) lt_w1_w2) lt_w2_w3)))
  have F178 := F141.other W160 (Nat.ne_of_gt (Nat.lt_trans (Nat.lt_trans (Nat.lt_trans lt_w3_w4 lt_w4_w5) lt_w5_w7) lt_w7_w8))
  have F179 := F142.other W160 (Or.inl (Nat.ne_of_lt (Nat.lt_trans (Nat.lt_trans (Nat.lt_trans lt_b0_w0 lt_w0_w1) lt_w1_w2) lt_w2_w3)))
  have F180 := F143.other W160 (Nat.ne_of_gt (Nat.lt_trans (Nat.lt_trans (Nat.lt_trans (Nat.lt_trans lt_w3_w4 lt_w4_w5) lt_w5_w7) lt_w7_w8) lt_w8_w9))
  have F181 := F144.other W160 (Or.inl (Nat.ne_of_lt (Nat.lt_trans (Nat.lt_trans (Nat.lt_trans lt_b0_w0 lt_w0_w1) lt_w1_w2) lt_w2_w3)))
  have F182 := F145.other W160 (Or.inl (Nat.ne_of_lt (Nat.lt_trans (Nat.lt_trans (Nat.lt_trans lt_b0_w0 lt_w0_w1) lt_w1_w2) lt_w2_w3)))
  have F183 := F146.other W160 (Or.inl (Nat.ne_of_lt (Nat.lt_trans (Nat.lt_trans (Nat.lt_trans lt_b0_w0 lt_w0_w1) lt_w1_w2) lt_w2_w3)))
  have F184 := F147.other W160 (Or.inl (Nat.ne_of_lt (Nat.lt_trans (Nat.lt_trans (Nat.lt_trans lt_b0_w0 lt_w0_w1) lt_w1_w2) lt_w2_w3)))
  have F185 := F148.other W160 (Or.inl (Nat.ne_of_lt (Nat.lt_trans (Nat.lt_trans (Nat.lt_trans lt_b0_w0 lt_w0_w1) lt_w1_w2) lt_w2_w3)))
  have F186 := F149.other W160 (Or.inl (Nat.ne_of_lt (Nat.lt_trans (Nat.lt_trans (Nat.lt_trans lt_b0_w0 lt_w0_w1) lt_w1_w2) lt_w2_w3)))
  have Zs187 := Nat.le_trans Zs150 (Nat.le_of_eq W160.size.symm)
  have Kp188 : Keep h0 h156 [b0, w0, w1, w2, w3, w4, w5, w7, w8, w9] := Kp151.wr W160 (Or.inl (List.mem_of_getElem? (i := 4) rfl))
  refine g_aloadN 72 rfl C X158 d4_71 rfl rfl ?_
  refine g_iload 74 rfl C X158 d4_72 rfl ?_
  refine g_callQ 77 rfl C X158 (argsL := [(.int (0 : Int32))]) (hw _ (List.mem_of_getElem? (i := 49) rfl)) (hw _ (List.mem_of_getElem? (i := 50) rfl)) (hw _ (List.mem_of_getElem? (i := 51) rfl)) (hw _ (List.mem_of_getElem? (i := 1) rfl)) (hw _ (List.mem_of_getElem? (i := 52) rfl)) (hw _ (List.mem_of_getElem? (i := 2) rfl)) e159 F163 (rm5_0 l Z a0 hw [] b0 w0 (upd f_blockOf 0 p1) w4 f_nextExit w5 f_previousExit w7 f_firstExit w8 f_lastExit nb p1 (f_lastExit nb) h156 n0 Zs187 F163 F164 F165 F171 F172 F173 F174 F175 F176 F177 F178 lt_b0_w0 (Nat.lt_trans (Nat.lt_trans (Nat.lt_trans lt_w0_w1 lt_w1_w2) lt_w2_w3) lt_w3_w4) lt_w4_w5 lt_w5_w7 lt_w7_w8 g_b0 hnb hnb2 (upd_same (by omega)) rfl (hler nb hnb2)) (lenOf pd_52681297 rfl) (by decide) (by decide) (by decide) (by decide) rfl (W := 0) (Nat.le_of_eq rfl) (by decide) d4_74 rfl fun r189 T190 Lc191 X192 hQ193 => ?_
  obtain ⟨rfl, Nq194, Kc195, ⟨f196, B197⟩, ⟨f198, B199⟩, ⟨f200, B201⟩, B202⟩ := hQ193
  have F203 := F163.keep Kc195
  have F204 := F164.keep Kc195 (ninS (Nat.ne_of_lt (Nat.lt_trans (Nat.lt_trans (Nat.lt_trans (Nat.lt_trans lt_b0_w0 lt_w0_w1) lt_w1_w2) lt_w2_w3) lt_w3_w4)) (ninS (Nat.ne_of_lt (Nat.lt_trans (Nat.lt_trans (Nat.lt_trans (Nat.lt_trans (Nat.lt_trans lt_b0_w0 lt_w0_w1) lt_w1_w2) lt_w2_w3) lt_w3_w4) lt_w4_w5)) (ninS (Nat.ne_of_lt (Nat.lt_trans (Nat.lt_trans (Nat.lt_trans (Nat.lt_trans (Nat.lt_trans (Nat.lt_trans lt_b0_w0 lt_w0_w1) lt_w1_w2) lt_w2_w3) lt_w3_w4) lt_w4_w5) lt_w5_w7)) (ninS (Nat.ne_of_lt (Nat.lt_trans (Nat.lt_trans (Nat.lt_trans (Nat.lt_trans (Nat.lt_trans (Nat.lt_trans (Nat.lt_trans lt_b0_w0 lt_w0_w1) lt_w1_w2) lt_w2_w3) lt_w3_w4) lt_w4_w5) lt_w5_w7) lt_w7_w8)) nin0))))
  have F205 := F165.keep Kc195 (ninS (Nat.ne_of_lt (Nat.lt_trans (Nat.lt_trans (Nat.lt_trans lt_w0_w1 lt_w1_w2) lt_w2_w3) lt_w3_w4)) (ninS (Nat.ne_of_lt (Nat.lt_trans (Nat.lt_trans (Nat.lt_trans (Nat.lt_trans lt_w0_w1 lt_w1_w2) lt_w2_w3) lt_w3_w4) lt_w4_w5)) (ninS (Nat.ne_of_lt (Nat.lt_trans (Nat.lt_trans (Nat.lt_trans (Nat.lt_trans (Nat.lt_trans lt_w0_w1 lt_w1_w2) lt_w2_w3) lt_w3_w4) lt_w4_w5) lt_w5_w7)) (ninS (Nat.ne_of_lt (Nat.lt_trans (Nat.lt_trans (Nat.lt_trans (Nat.lt_trans (Nat.lt_trans (Nat.lt_trans lt_w0_w1 lt_w1_w2) lt_w2_w3) lt_w3_w4) lt_w4_w5) lt_w5_w7) lt_w7_w8)) nin0))))
  have F206 := F166.keep Kc195 (ninS (Nat.ne_of_lt (Nat.lt_trans (Nat.lt_trans (Nat.lt_trans (Nat.lt_trans lt_b0_w0 lt_w0_w1) lt_w1_w2) lt_w2_w3) lt_w3_w4)) (ninS (Nat.ne_of_lt (Nat.lt_trans (Nat.lt_trans (Nat.lt_trans (Nat.lt_trans (Nat.lt_trans lt_b0_w0 lt_w0_w1) lt_w1_w2) lt_w2_w3) lt_w3_w4) lt_w4_w5)) (ninS (Nat.ne_of_lt (Nat.lt_trans (Nat.lt_trans (Nat.lt_trans (Nat.lt_trans (Nat.lt_trans (Nat.lt_trans lt_b0_w0 lt_w0_w1) lt_w1_w2) lt_w2_w3) lt_w3_w4) lt_w4_w5) lt_w5_w7)) (ninS (Nat.ne_of_lt (Nat.lt_trans (Nat.lt_trans (Nat.lt_trans (Nat.lt_trans (Nat.lt_trans (Nat.lt_trans (Nat.lt_trans lt_b0_w0 lt_w0_w1) lt_w1_w2) lt_w2_w3) lt_w3_w4) lt_w4_w5) lt_w5_w7) lt_w7_w8)) nin0))))
  have F207 := F167.keep Kc195 (ninS (Nat.ne_of_lt (Nat.lt_trans (Nat.lt_trans lt_w1_w2 lt_w2_w3) lt_w3_w4)) (ninS (Nat.ne_of_lt (Nat.lt_trans (Nat.lt_trans (Nat.lt_trans lt_w1_w2 lt_w2_w3) lt_w3_w4) lt_w4_w5)) (ninS (Nat.ne_of_lt (Nat.lt_trans (Nat.lt_trans (Nat.lt_trans (Nat.lt_trans lt_w1_w2 lt_w2_w3) lt_w3_w4) lt_w4_w5) lt_w5_w7)) (ninS (Nat.ne_of_lt (Nat.lt_trans (Nat.lt_trans (Nat.lt_trans (Nat.lt_trans (Nat.lt_trans lt_w1_w2 lt_w2_w3) lt_w3_w4) lt_w4_w5) lt_w5_w7) lt_w7_w8)) nin0))))
  have F208 := F168.keep Kc195 (ninS (Nat.ne_of_lt (Nat.lt_trans (Nat.lt_trans (Nat.lt_trans (Nat.lt_trans lt_b0_w0 lt_w0_w1) lt_w1_w2) lt_w2_w3) lt_w3_w4)) (ninS (Nat.ne_of_lt (Nat.lt_trans (Nat.lt_trans (Nat.lt_trans (Nat.lt_trans (Nat.lt_trans lt_b0_w0 lt_w0_w1) lt_w1_w2) lt_w2_w3) lt_w3_w4) lt_w4_w5)) (ninS (Nat.ne_of_lt (Nat.lt_trans (Nat.lt_trans (Nat.lt_trans (Nat.lt_trans (Nat.lt_trans (Nat.lt_trans lt_b0_w0 lt_w0_w1) lt_w1_w2) lt_w2_w3) lt_w3_w4) lt_w4_w5) lt_w5_w7)) (ninS (Nat.ne_of_lt (Nat.lt_trans (Nat.lt_trans (Nat.lt_trans (Nat.lt_trans (Nat.lt_trans (Nat.lt_trans (Nat.lt_trans lt_b0_w0 lt_w0_w1) lt_w1_w2) lt_w2_w3) lt_w3_w4) lt_w4_w5) lt_w5_w7) lt_w7_w8)) nin0))))
  have F209 := F169.keep Kc195 (ninS (Nat.ne_of_lt (Nat.lt_trans lt_w2_w3 lt_w3_w4)) (ninS (Nat.ne_of_lt (Nat.lt_trans (Nat.lt_trans lt_w2_w3 lt_w3_w4) lt_w4_w5)) (ninS (Nat.ne_of_lt (Nat.lt_trans (Nat.lt_trans (Nat.lt_trans lt_w2_w3 lt_w3_w4) lt_w4_w5) lt_w5_w7)) (ninS (Nat.ne_of_lt (Nat.lt_trans (Nat.lt_trans (Nat.lt_trans (Nat.lt_trans lt_w2_w3 lt_w3_w4) lt_w4_w5) lt_w5_w7) lt_w7_w8)) nin0))))
  have F210 := F170.keep Kc195 (ninS (Nat.ne_of_lt (Nat.lt_trans (Nat.lt_trans (Nat.lt_trans (Nat.lt_trans lt_b0_w0 lt_w0_w1) lt_w1_w2) lt_w2_w3) lt_w3_w4)) (ninS (Nat.ne_of_lt (Nat.lt_trans (Nat.lt_trans (Nat.lt_trans (Nat.lt_trans (Nat.lt_trans lt_b0_w0 lt_w0_w1) lt_w1_w2) lt_w2_w3) lt_w3_w4) lt_w4_w5)) (ninS (Nat.ne_of_lt (Nat.lt_trans (Nat.lt_trans (Nat.lt_trans (Nat.lt_trans (Nat.lt_trans (Nat.lt_trans lt_b0_w0 lt_w0_w1) lt_w1_w2) lt_w2_w3) lt_w3_w4) lt_w4_w5) lt_w5_w7)) (ninS (Nat.ne_of_lt (Nat.lt_trans (Nat.lt_trans (Nat.lt_trans (Nat.lt_trans (Nat.lt_trans (Nat.lt_trans (Nat.lt_trans lt_b0_w0 lt_w0_w1) lt_w1_w2) lt_w2_w3) lt_w3_w4) lt_w4_w5) lt_w5_w7) lt_w7_w8)) nin0))))
  have F211 := B161.keep Kc195 (ninS (Nat.ne_of_lt lt_w3_w4) (ninS (Nat.ne_of_lt (Nat.lt_trans lt_w3_w4 lt_w4_w5)) (ninS (Nat.ne_of_lt (Nat.lt_trans (Nat.lt_trans lt_w3_w4 lt_w4_w5) lt_w5_w7)) (ninS (Nat.ne_of_lt (Nat.lt_trans (Nat.lt_trans (Nat.lt_trans lt_w3_w4 lt_w4_w5) lt_w5_w7) lt_w7_w8)) nin0))))
  have F212 := F171.keep Kc195 (ninS (Nat.ne_of_lt (Nat.lt_trans (Nat.lt_trans (Nat.lt_trans (Nat.lt_trans lt_b0_w0 lt_w0_w1) lt_w1_w2) lt_w2_w3) lt_w3_w4)) (ninS (Nat.ne_of_lt (Nat.lt_trans (Nat.lt_trans (Nat.lt_trans (Nat.lt_trans (Nat.lt_trans lt_b0_w0 lt_w0_w1) lt_w1_w2) lt_w2_w3) lt_w3_w4) lt_w4_w5)) (ninS (Nat.ne_of_lt (Nat.lt_trans (Nat.lt_trans (Nat.lt_trans (Nat.lt_trans (Nat.lt_trans (Nat.lt_trans lt_b0_w0 lt_w0_w1) lt_w1_w2) lt_w2_w3) lt_w3_w4) lt_w4_w5) lt_w5_w7)) (ninS (Nat.ne_of_lt (Nat.lt_trans (Nat.lt_trans (Nat.lt_trans (Nat.lt_trans (Nat.lt_trans (Nat.lt_trans (Nat.lt_trans lt_b0_w0 lt_w0_w1) lt_w1_w2) lt_w2_w3) lt_w3_w4) lt_w4_w5) lt_w5_w7) lt_w7_w8)) nin0))))
  have F213 := F173.keep Kc195 (ninS (Nat.ne_of_lt (Nat.lt_trans (Nat.lt_trans (Nat.lt_trans (Nat.lt_trans lt_b0_w0 lt_w0_w1) lt_w1_w2) lt_w2_w3) lt_w3_w4)) (ninS (Nat.ne_of_lt (Nat.lt_trans (Nat.lt_trans (Nat.lt_trans (Nat.lt_trans (Nat.lt_trans lt_b0_w0 lt_w0_w1) lt_w1_w2) lt_w2_w3) lt_w3_w4) lt_w4_w5)) (ninS (Nat.ne_of_lt (Nat.lt_trans (Nat.lt_trans (Nat.lt_trans (Nat.lt_trans (Nat.lt_trans (Nat.lt_trans lt_b0_w0 lt_w0_w1) lt_w1_w2) lt_w2_w3) lt_w3_w4) lt_w4_w5) lt_w5_w7)) (ninS (Nat.ne_of_lt (Nat.lt_trans (Nat.lt_trans (Nat.lt_trans (Nat.lt_trans (Nat.lt_trans (Nat.lt_trans (Nat.lt_trans lt_b0_w0 lt_w0_w1) lt_w1_w2) lt_w2_w3) lt_w3_w4) lt_w4_w5) lt_w5_w7) lt_w7_w8)) nin0))))
  have F214 := F175.keep Kc195 (ninS (Nat.ne_of_lt (Nat.lt_trans (Nat.lt_trans (Nat.lt_trans (Nat.lt_trans lt_b0_w0 lt_w0_w1) lt_w1_w2) lt_w2_w3) lt_w3_w4)) (ninS (Nat.ne_of_lt (Nat.lt_trans (Nat.lt_trans (Nat.lt_trans (Nat.lt_trans (Nat.lt_trans lt_b0_w0 lt_w0_w1) lt_w1_w2) lt_w2_w3) lt_w3_w4) lt_w4_w5)) (ninS (Nat.ne_of_lt (Nat.lt_trans (Nat.lt_trans (Nat.lt_trans (Nat.lt_trans (Nat.lt_trans (Nat.lt_trans lt_b0_w0 lt_w0_w1) lt_w1_w2) lt_w2_w3) lt_w3_w4) lt_w4_w5) lt_w5_w7)) (ninS (Nat.ne_of_lt (Nat.lt_trans (Nat.lt_trans (Nat.lt_trans (Nat.lt_trans (Nat.lt_trans (Nat.lt_trans (Nat.lt_trans lt_b0_w0 lt_w0_w1) lt_w1_w2) lt_w2_w3) lt_w3_w4) lt_w4_w5) lt_w5_w7) lt_w7_w8)) nin0))))
  have F215 := F177.keep Kc195 (ninS (Nat.ne_of_lt (Nat.lt_trans (Nat.lt_trans (Nat.lt_trans (Nat.lt_trans lt_b0_w0 lt_w0_w1) lt_w1_w2) lt_w2_w3) lt_w3_w4)) (ninS (Nat.ne_of_lt (Nat.lt_trans (Nat.lt_trans (Nat.lt_trans (Nat.lt_trans (Nat.lt_trans lt_b0_w0 lt_w0_w1) lt_w1_w2) lt_w2_w3) lt_w3_w4) lt_w4_w5)) (ninS (Nat.ne_of_lt (Nat.lt_trans (Nat.lt_trans (Nat.lt_trans (Nat.lt_trans (Nat.lt_trans (Nat.lt_trans lt_b0_w0 lt_w0_w1) lt_w1_w2) lt_w2_w3) lt_w3_w4) lt_w4_w5) lt_w5_w7)) (ninS (Nat.ne_of_lt (Nat.lt_trans (Nat.lt_trans (Nat.lt_trans (Nat.lt_trans (Nat.lt_trans (Nat.lt_trans (Nat.lt_trans lt_b0_w0 lt_w0_w1) lt_w1_w2) lt_w2_w3) lt_w3_w4) lt_w4_w5) lt_w5_w7) lt_w7_w8)) nin0))))
  have F216 := F179.keep Kc195 (ninS (Nat.ne_of_lt (Nat.lt_trans (Nat.lt_trans (Nat.lt_trans (Nat.lt_trans lt_b0_w0 lt_w0_w1) lt_w1_w2) lt_w2_w3) lt_w3_w4)) (ninS (Nat.ne_of_lt (Nat.lt_trans (Nat.lt_trans (Nat.lt_trans (Nat.lt_trans (Nat.lt_trans lt_b0_w0 lt_w0_w1) lt_w1_w2) lt_w2_w3) lt_w3_w4) lt_w4_w5)) (ninS (Nat.ne_of_lt (Nat.lt_trans (Nat.lt_trans (Nat.lt_trans (Nat.lt_trans (Nat.lt_trans (Nat.lt_trans lt_b0_w0 lt_w0_w1) lt_w1_w2) lt_w2_w3) lt_w3_w4) lt_w4_w5) lt_w5_w7)) (ninS (Nat.ne_of_lt (Nat.lt_trans (Nat.lt_trans (Nat.lt_trans (Nat.lt_trans (Nat.lt_trans (Nat.lt_trans (Nat.lt_trans lt_b0_w0 lt_w0_w1) lt_w1_w2) lt_w2_w3) lt_w3_w4) lt_w4_w5) lt_w5_w7) lt_w7_w8)) nin0))))
  have F217 := F180.keep Kc195 (ninS (Nat.ne_of_gt (Nat.lt_trans (Nat.lt_trans (Nat.lt_trans lt_w4_w5 lt_w5_w7) lt_w7_w8) lt_w8_w9)) (ninS (Nat.ne_of_gt (Nat.lt_trans (Nat.lt_trans lt_w5_w7 lt_w7_w8) lt_w8_w9)) (ninS (Nat.ne_of_gt (Nat.lt_trans lt_w7_w8 lt_w8_w9)) (ninS (Nat.ne_of_gt lt_w8_w9) nin0))))
  have F218 := F181.keep Kc195 (ninS (Nat.ne_of_lt (Nat.lt_trans (Nat.lt_trans (Nat.lt_trans (Nat.lt_trans lt_b0_w0 lt_w0_w1) lt_w1_w2) lt_w2_w3) lt_w3_w4)) (ninS (Nat.ne_of_lt (Nat.lt_trans (Nat.lt_trans (Nat.lt_trans (Nat.lt_trans (Nat.lt_trans lt_b0_w0 lt_w0_w1) lt_w1_w2) lt_w2_w3) lt_w3_w4) lt_w4_w5)) (ninS (Nat.ne_of_lt (Nat.lt_trans (Nat.lt_trans (Nat.lt_trans (Nat.lt_trans (Nat.lt_trans (Nat.lt_trans lt_b0_w0 lt_w0_w1) lt_w1_w2) lt_w2_w3) lt_w3_w4) lt_w4_w5) lt_w5_w7)) (ninS (Nat.ne_of_lt (Nat.lt_trans (Nat.lt_trans (Nat.lt_trans (Nat.lt_trans (Nat.lt_trans (Nat.lt_trans (Nat.lt_trans lt_b0_w0 lt_w0_w1) lt_w1_w2) lt_w2_w3) lt_w3_w4) lt_w4_w5) lt_w5_w7) lt_w7_w8)) nin0))))
  have F219 := F182.keep Kc195 (ninS (Nat.ne_of_lt (Nat.lt_trans (Nat.lt_trans (Nat.lt_trans (Nat.lt_trans lt_b0_w0 lt_w0_w1) lt_w1_w2) lt_w2_w3) lt_w3_w4)) (ninS (Nat.ne_of_lt (Nat.lt_trans (Nat.lt_trans (Nat.lt_trans (Nat.lt_trans (Nat.lt_trans lt_b0_w0 lt_w0_w1) lt_w1_w2) lt_w2_w3) lt_w3_w4) lt_w4_w5)) (ninS (Nat.ne_of_lt (Nat.lt_trans (Nat.lt_trans (Nat.lt_trans (Nat.lt_trans (Nat.lt_trans (Nat.lt_trans lt_b0_w0 lt_w0_w1) lt_w1_w2) lt_w2_w3) lt_w3_w4) lt_w4_w5) lt_w5_w7)) (ninS (Nat.ne_of_lt (Nat.lt_trans (Nat.lt_trans (Nat.lt_trans (Nat.lt_trans (Nat.lt_trans (Nat.lt_trans (Nat.lt_trans lt_b0_w0 lt_w0_w1) lt_w1_w2) lt_w2_w3) lt_w3_w4) lt_w4_w5) lt_w5_w7) lt_w7_w8)) nin0))))
  have F220 := F183.keep Kc195 (ninS (Nat.ne_of_lt (Nat.lt_trans (Nat.lt_trans (Nat.lt_trans (Nat.lt_trans lt_b0_w0 lt_w0_w1) lt_w1_w2) lt_w2_w3) lt_w3_w4)) (ninS (Nat.ne_of_lt (Nat.lt_trans (Nat.lt_trans (Nat.lt_trans (Nat.lt_trans (Nat.lt_trans lt_b0_w0 lt_w0_w1) lt_w1_w2) lt_w2_w3) lt_w3_w4) lt_w4_w5)) (ninS (Nat.ne_of_lt (Nat.lt_trans (Nat.lt_trans (Nat.lt_trans (Nat.lt_trans (Nat.lt_trans (Nat.lt_trans lt_b0_w0 lt_w0_w1) lt_w1_w2) lt_w2_w3) lt_w3_w4) lt_w4_w5) lt_w5_w7)) (ninS (Nat.ne_of_lt (Nat.lt_trans (Nat.lt_trans (Nat.lt_trans (Nat.lt_trans (Nat.lt_trans (Nat.lt_trans (Nat.lt_trans lt_b0_w0 lt_w0_w1) lt_w1_w2) lt_w2_w3) lt_w3_w4) lt_w4_w5) lt_w5_w7) lt_w7_w8)) nin0))))
  have F221 := F184.keep Kc195 (ninS (Nat.ne_of_lt (Nat.lt_trans (Nat.lt_trans (Nat.lt_trans (Nat.lt_trans lt_b0_w0 lt_w0_w1) lt_w1_w2) lt_w2_w3) lt_w3_w4)) (ninS (Nat.ne_of_lt (Nat.lt_trans (Nat.lt_trans (Nat.lt_trans (Nat.lt_trans (Nat.lt_trans lt_b0_w0 lt_w0_w1) lt_w1_w2) lt_w2_w3) lt_w3_w4) lt_w4_w5)) (ninS (Nat.ne_of_lt (Nat.lt_trans (Nat.lt_trans (Nat.lt_trans (Nat.lt_trans (Nat.lt_trans (Nat.lt_trans lt_b0_w0 lt_w0_w1) lt_w1_w2) lt_w2_w3) lt_w3_w4) lt_w4_w5) lt_w5_w7)) (ninS (Nat.ne_of_lt (Nat.lt_trans (Nat.lt_trans (Nat.lt_trans (Nat.lt_trans (Nat.lt_trans (Nat.lt_trans (Nat.lt_trans lt_b0_w0 lt_w0_w1) lt_w1_w2) lt_w2_w3) lt_w3_w4) lt_w4_w5) lt_w5_w7) lt_w7_w8)) nin0))))
  have F222 := F185.keep Kc195 (ninS (Nat.ne_of_lt (Nat.lt_trans (Nat.lt_trans (Nat.lt_trans (Nat.lt_trans lt_b0_w0 lt_w0_w1) lt_w1_w2) lt_w2_w3) lt_w3_w4)) (ninS (Nat.ne_of_lt (Nat.lt_trans (Nat.lt_trans (Nat.lt_trans (Nat.lt_trans (Nat.lt_trans lt_b0_w0 lt_w0_w1) lt_w1_w2) lt_w2_w3) lt_w3_w4) lt_w4_w5)) (ninS (Nat.ne_of_lt (Nat.lt_trans (Nat.lt_trans (Nat.lt_trans (Nat.lt_trans (Nat.lt_trans (Nat.lt_trans lt_b0_w0 lt_w0_w1) lt_w1_w2) lt_w2_w3) lt_w3_w4) lt_w4_w5) lt_w5_w7)) (ninS (Nat.ne_of_lt (Nat.lt_trans (Nat.lt_trans (Nat.lt_trans (Nat.lt_trans (Nat.lt_trans (Nat.lt_trans (Nat.lt_trans lt_b0_w0 lt_w0_w1) lt_w1_w2) lt_w2_w3) lt_w3_w4) lt_w4_w5) lt_w5_w7) lt_w7_w8)) nin0))))
  have F223 := F186.keep Kc195 (ninS (Nat.ne_of_lt (Nat.lt_trans (Nat.lt_trans (Nat.lt_trans (Nat.lt_trans lt_b0_w0 lt_w0_w1) lt_w1_w2) lt_w2_w3) lt_w3_w4)) (ninS (Nat.ne_of_lt (Nat.lt_trans (Nat.lt_trans (Nat.lt_trans (Nat.lt_trans (Nat.lt_trans lt_b0_w0 lt_w0_w1) lt_w1_w2) lt_w2_w3) lt_w3_w4) lt_w4_w5)) (ninS (Nat.ne_of_lt (Nat.lt_trans (Nat.lt_trans (Nat.lt_trans (Nat.lt_trans (Nat.lt_trans (Nat.lt_trans lt_b0_w0 lt_w0_w1) lt_w1_w2) lt_w2_w3) lt_w3_w4) lt_w4_w5) lt_w5_w7)) (ninS (Nat.ne_of_lt (Nat.lt_trans (Nat.lt_trans (Nat.lt_trans (Nat.lt_trans (Nat.lt_trans (Nat.lt_trans (Nat.lt_trans lt_b0_w0 lt_w0_w1) lt_w1_w2) lt_w2_w3) lt_w3_w4) lt_w4_w5) lt_w5_w7) lt_w7_w8)) nin0))))
  have Zs224 := Nat.le_trans Zs187 Kc195.1
  have Kp225 : Keep h0 T190.heap [b0, w0, w1, w2, w3, w4, w5, w7, w8, w9] := Keep.trans Kp188 Kc195 (allS (Or.inl (List.mem_of_getElem? (i := 5) rfl)) (allS (Or.inl (List.mem_of_getElem? (i := 6) rfl)) (allS (Or.inl (List.mem_of_getElem? (i := 7) rfl)) (allS (Or.inl (List.mem_of_getElem? (i := 8) rfl)) all0))))
  have N226 := Fr.app N162 Nq194
  show Goes _ _ _ _ _ _ 77 _ []
  refine g_aloadN 78 rfl C X192 d4_77 rfl rfl ?_
  refine g_getF 81 rfl C X192 (host := "") (Or.inl (hw _ (List.mem_of_getElem? (i := 28) rfl))) Via.refl rfl F216 d4_78 fun T227 X228 e229 => ?_
  refine g_iloadN 82 rfl C X228 d4_81 rfl ?_
  refine g_dup2 83 rfl C X228 d4_82 rfl rfl ?_
  refine g_iaload 84 rfl C X228 e229 F217 (nb) hnb (by omega) (f_exitCount nb) rfl d4_83 ?_
  refine g_iconst 85 rfl C X228 (1 : Int32) d4_84 rfl ?_
  refine g_iadd 86 rfl C X228 d4_85 ?_
  obtain ⟨w230, hw230⟩ : ∃ z : Int32, ((f_exitCount nb) + (1 : Int32)) = z := ⟨_, rfl⟩
  refine g_iastore 87 rfl C X228 e229 F217 (nb) hnb (by omega) w230 hw230 d4_86 N226 g_w9 fun T231 h232 ls233 X234 e235 W236 B237 N238 => ?_
  have F239 := F203.wr W236
  have F240 := F204.other W236 (Or.inl (Nat.ne_of_lt (Nat.lt_trans (Nat.lt_trans (Nat.lt_trans (Nat.lt_trans (Nat.lt_trans (Nat.lt_trans (Nat.lt_trans (Nat.lt_trans lt_b0_w0 lt_w0_w1) lt_w1_w2) lt_w2_w3) lt_w3_w4) lt_w4_w5) lt_w5_w7) lt_w7_w8) lt_w8_w9)))
  have F241 := F205.other W236 (Nat.ne_of_lt (Nat.lt_trans (Nat.lt_trans (Nat.lt_trans (Nat.lt_trans (Nat.lt_trans (Nat.lt_trans (Nat.lt_trans lt_w0_w1 lt_w1_w2) lt_w2_w3) lt_w3_w4) lt_w4_w5) lt_w5_w7) lt_w7_w8) lt_w8_w9))
  have F242 := F206.other W236 (Or.inl (Nat.ne_of_lt (Nat.lt_trans (Nat.lt_trans (Nat.lt_trans (Nat.lt_trans (Nat.lt_trans (Nat.lt_trans (Nat.lt_trans (Nat.lt_trans lt_b0_w0 lt_w0_w1) lt_w1_w2) lt_w2_w3) lt_w3_w4) lt_w4_w5) lt_w5_w7) lt_w7_w8) lt_w8_w9)))
  have F243 := F207.other W236 (Nat.ne_of_lt (Nat.lt_trans (Nat.lt_trans (Nat.lt_trans (Nat.lt_trans (Nat.lt_trans (Nat.lt_trans lt_w1_w2 lt_w2_w3) lt_w3_w4) lt_w4_w5) lt_w5_w7) lt_w7_w8) lt_w8_w9))
  have F244 := F208.other W236 (Or.inl (Nat.ne_of_lt (Nat.lt_trans (Nat.lt_trans (Nat.lt_trans (Nat.lt_trans (Nat.lt_trans (Nat.lt_trans (Nat.lt_trans (Nat.lt_trans lt_b0_w0 lt_w0_w1) lt_w1_w2) lt_w2_w3) lt_w3_w4) lt_w4_w5) lt_w5_w7) lt_w7_w8) lt_w8_w9)))
  have F245 := F209.other W236 (Nat.ne_of_lt (Nat.lt_trans (Nat.lt_trans (Nat.lt_trans (Nat.lt_trans (Nat.lt_trans lt_w2_w3 lt_w3_w4) lt_w4_w5) lt_w5_w7) lt_w7_w8) lt_w8_w9))
  have F246 := F210.other W236 (Or.inl (Nat.ne_of_lt (Nat.lt_trans (Nat.lt_trans (Nat.lt_trans (Nat.lt_trans (Nat.lt_trans (Nat.lt_trans (Nat.lt_trans (Nat.lt_trans lt_b0_w0 lt_w0_w1) lt_w1_w2) lt_w2_w3) lt_w3_w4) lt_w4_w5) lt_w5_w7) lt_w7_w8) lt_w8_w9)))
  have F247 := F211.other W236 (Nat.ne_of_lt (Nat.lt_trans (Nat.lt_trans (Nat.lt_trans (Nat.lt_trans lt_w3_w4 lt_w4_w5) lt_w5_w7) lt_w7_w8) lt_w8_w9))
  have F248 := F212.other W236 (Or.inl (Nat.ne_of_lt (Nat.lt_trans (Nat.lt_trans (Nat.lt_trans (Nat.lt_trans (Nat.lt_trans (Nat.lt_trans (Nat.lt_trans (Nat.lt_trans lt_b0_w0 lt_w0_w1) lt_w1_w2) lt_w2_w3) lt_w3_w4) lt_w4_w5) lt_w5_w7) lt_w7_w8) lt_w8_w9)))
  have F249 := F213.other W236 (Or.inl (Nat.ne_of_lt (Nat.lt_trans (Nat.lt_trans (Nat.lt_trans (Nat.lt_trans (Nat.lt_trans (Nat.lt_trans (Nat.lt_trans (Nat.lt_trans lt_b0_w0 lt_w0_w1) lt_w1_w2) lt_w2_w3) lt_w3_w4) lt_w4_w5) lt_w5_w7) lt_w7_w8) lt_w8_w9)))
  have F250 := F214.other W236 (Or.inl (Nat.ne_of_lt (Nat.lt_trans (Nat.lt_trans (Nat.lt_trans (Nat.lt_trans (Nat.lt_trans (Nat.lt_trans (Nat.lt_trans (Nat.lt_trans lt_b0_w0 lt_w0_w1) lt_w1_w2) lt_w2_w3) lt_w3_w4) lt_w4_w5) lt_w5_w7) lt_w7_w8) lt_w8_w9)))
  have F251 := F215.other W236 (Or.inl (Nat.ne_of_lt (Nat.lt_trans (Nat.lt_trans (Nat.lt_trans (Nat.lt_trans (Nat.lt_trans (Nat.lt_trans (Nat.lt_trans (Nat.lt_trans lt_b0_w0 lt_w0_w1) lt_w1_w2) lt_w2_w3) lt_w3_w4) lt_w4_w5) lt_w5_w7) lt_w7_w8) lt_w8_w9)))
  have F252 := F216.other W236 (Or.inl (Nat.ne_of_lt (Nat.lt_trans (Nat.lt_trans (Nat.lt_trans (Nat.lt_trans (Nat.lt_trans (Nat.lt_trans (Nat.lt_trans (Nat.lt_trans lt_b0_w0 lt_w0_w1) lt_w1_w2) lt_w2_w3) lt_w3_w4) lt_w4_w5) lt_w5_w7) lt_w7_w8) lt_w8_w9)))
  have F253 := F218.other W236 (Or.inl (Nat.ne_of_lt (Nat.lt_trans (Nat.lt_trans (Nat.lt_trans (Nat.lt_trans (Nat.lt_trans (Nat.lt_trans (Nat.lt_trans (Nat.lt_trans lt_b0_w0 lt_w0_w1) lt_w1_w2) lt_w2_w3) lt_w3_w4) lt_w4_w5) lt_w5_w7) lt_w7_w8) lt_w8_w9)))
  have F254 := F219.other W236 (Or.inl (Nat.ne_of_lt (Nat.lt_trans (Nat.lt_trans (Nat.lt_trans (Nat.lt_trans (Nat.lt_trans (Nat.lt_trans (Nat.lt_trans (Nat.lt_trans lt_b0_w0 lt_w0_w1) lt_w1_w2) lt_w2_w3) lt_w3_w4) lt_w4_w5) lt_w5_w7) lt_w7_w8) lt_w8_w9)))
  have F255 := F220.other W236 (Or.inl (Nat.ne_of_lt (Nat.lt_trans (Nat.lt_trans (Nat.lt_trans (Nat.lt_trans (Nat.lt_trans (Nat.lt_trans (Nat.lt_trans (Nat.lt_trans lt_b0_w0 lt_w0_w1) lt_w1_w2) lt_w2_w3) lt_w3_w4) lt_w4_w5) lt_w5_w7) lt_w7_w8) lt_w8_w9)))
  have F256 := F221.other W236 (Or.inl (Nat.ne_of_lt (Nat.lt_trans (Nat.lt_trans (Nat.lt_trans (Nat.lt_trans (Nat.lt_trans (Nat.lt_trans (Nat.lt_trans (Nat.lt_trans lt_b0_w0 lt_w0_w1) lt_w1_w2) lt_w2_w3) lt_w3_w4) lt_w4_w5) lt_w5_w7) lt_w7_w8) lt_w8_w9)))
  have F257 := F222.other W236 (Or.inl (Nat.ne_of_lt (Nat.lt_trans (Nat.lt_trans (Nat.lt_trans (Nat.lt_trans (Nat.lt_trans (Nat.lt_trans (Nat.lt_trans (Nat.lt_trans lt_b0_w0 lt_w0_w1) lt_w1_w2) lt_w2_w3) lt_w3_w4) lt_w4_w5) lt_w5_w7) lt_w7_w8) lt_w8_w9)))
  have F258 := F223.other W236 (Or.inl (Nat.ne_of_lt (Nat.lt_trans (Nat.lt_trans (Nat.lt_trans (Nat.lt_trans (Nat.lt_trans (Nat.lt_trans (Nat.lt_trans (Nat.lt_trans lt_b0_w0 lt_w0_w1) lt_w1_w2) lt_w2_w3) lt_w3_w4) lt_w4_w5) lt_w5_w7) lt_w7_w8) lt_w8_w9)))
  have F259 := B197.other W236 (Nat.ne_of_lt (Nat.lt_trans (Nat.lt_trans (Nat.lt_trans lt_w4_w5 lt_w5_w7) lt_w7_w8) lt_w8_w9))
  have F260 := B199.other W236 (Nat.ne_of_lt (Nat.lt_trans (Nat.lt_trans lt_w5_w7 lt_w7_w8) lt_w8_w9))
  have F261 := B201.other W236 (Nat.ne_of_lt (Nat.lt_trans lt_w7_w8 lt_w8_w9))
  have F262 := B202.other W236 (Nat.ne_of_lt lt_w8_w9)
  have Zs263 := Nat.le_trans Zs224 (Nat.le_of_eq W236.size.symm)
  have Kp264 : Keep h0 h232 [b0, w0, w1, w2, w3, w4, w5, w7, w8, w9] := Kp225.wr W236 (Or.inl (List.mem_of_getElem? (i := 9) rfl))
  refine g_iload 89 rfl C X234 d4_87 rfl ?_
  exact g_retI C X234 rfl d4_89 e235 (by decide) (by decide) ⟨rfl, N238, Kp264, F239, F240, F242, F244, F246, F248, F249, F253, F250, F251, F252, F254, F255, F256, F257, F258, ⟨_, F241⟩, ⟨_, F243⟩, ⟨_, F245⟩, ⟨_, F259⟩, ⟨_, F260⟩, ⟨_, F261⟩, ⟨_, B237⟩, F247, F262⟩
theorem ef_4_1 (m : MethodId) (b0 : Addr) (p1 : Int32) (p2 : Int32) (p3 : Int32) : entryFrame m #[(.ref b0), (.int p1), (.int p2), (.int p3)] 5 = mkF m 0 #[.val (.ref b0), .val (.int p1), .val (.int p2), .val (.int p3), .unset] [] := by first | (simp [entryFrame, mkF, argsToLocals, Value.category]; done) | rfl
def Q4_1 (Z : State) (b0 : Addr) (p1 : Int32) (p2 : Int32) (p3 : Int32) (w0 : Addr) (f_blockOf : Nat → Int32) (w1 : Addr) (f_labelOf : Nat → Int32) (w2 : Addr) (f_coarseOf : Nat → Int32) (w3 : Addr) (f_firstMember : Nat → Int32) (w4 : Addr) (f_nextExit : Nat → Int32) (w5 : Addr) (f_previousExit : Nat → Int32) (w7 : Addr) (f_firstExit : Nat → Int32) (w8 : Addr) (f_lastExit : Nat → Int32) (w9 : Addr) (f_exitCount : Nat → Int32) (w6 : Addr) (w10 : Addr) (w11 : Addr) (w12 : Addr) (nb : Nat) (h0 : Heap) (n0 : Nat) (v : Option Value) (h : Heap) (L : List Loc) : Prop := v = some (.int 1) ∧ Fr n0 L ∧ Keep h0 h [b0, w0, w1, w2, w3, w4, w5, w7, w8, w9] ∧ Exa Z h b0 "com/example/bisimulation/bisimulation/lts/Exits" ∧ Fld Z h b0 "com/example/bisimulation/bisimulation/lts/Exits" "blockOf" "[I" (.ref w0) ∧ Fld Z h b0 "com/example/bisimulation/bisimulation/lts/Exits" "labelOf" "[I" (.ref w1) ∧ Fld Z h b0 "com/example/bisimulation/bisimulation/lts/Exits" "coarseOf" "[I" (.ref w2) ∧ Fld Z h b0 "com/example/bisimulation/bisimulation/lts/Exits" "firstMember" "[I" (.ref w3) ∧ Fld Z h b0 "com/example/bisimulation/bisimulation/lts/Exits" "nextExit" "[I" (.ref w4) ∧ Fld Z h b0 "com/example/bisimulation/bisimulation/lts/Exits" "previousExit" "[I" (.ref w5) ∧ Fld Z h b0 "com/example/bisimulation/bisimulation/lts/Exits" "freeExits" "[I" (.ref w6) ∧ Fld Z h b0 "com/example/bisimulation/bisimulation/lts/Exits" "firstExit" "[I" (.ref w7) ∧ Fld Z h b0 "com/example/bisimulation/bisimulation/lts/Exits" "lastExit" "[I" (.ref w8) ∧ Fld Z h b0 "com/example/bisimulation/bisimulation/lts/Exits" "exitCount" "[I" (.ref w9) ∧ Fld Z h b0 "com/example/bisimulation/bisimulation/lts/Exits" "exitOfCounter" "[I" (.ref w10) ∧ Fld Z h b0 "com/example/bisimulation/bisimulation/lts/Exits" "nextMember" "[I" (.ref w11) ∧ Fld Z h b0 "com/example/bisimulation/bisimulation/lts/Exits" "previousMember" "[I" (.ref w12) ∧ Fld Z h b0 "com/example/bisimulation/bisimulation/lts/Exits" "freeCount" "I" (.int (0 : Int32)) ∧ Fld Z h b0 "com/example/bisimulation/bisimulation/lts/Exits" "limit" "I" (.int ((1 : Int32) + (1 : Int32))) ∧ (∃ g, Ba Z h w0 .int 4 g) ∧ (∃ g, Ba Z h w1 .int 4 g) ∧ (∃ g, Ba Z h w2 .int 4 g) ∧ (∃ g, Ba Z h w4 .int 4 g) ∧ (∃ g, Ba Z h w5 .int 4 g) ∧ (∃ g, Ba Z h w7 .int 2 g) ∧ (∃ g, Ba Z h w9 .int 2 g) ∧ Ba Z h w3 .int 4 (upd f_firstMember 1 (-1 : Int32)) ∧ Ba Z h w8 .int 2 (upd f_lastExit nb (1 : Int32))
set_option maxRecDepth 65536 in
set_option maxHeartbeats 40000000 in
theorem rm4_1 (l : Launch) (Z : State) (a0 : Array Value) (hw : ∀ d ∈ tables_1, d.before a0 Z = true) (ws : List Jvm.Cond) (b0 : Addr) (p1 : Int32) (p2 : Int32) (p3 : Int32) (w0 : Addr) (f_blockOf : Nat → Int32) (w1 : Addr) (f_labelOf : Nat → Int32) (w2 : Addr) (f_coarseOf : Nat → Int32) (w3 : Addr) (f_firstMember : Nat → Int32) (w4 : Addr) (f_nextExit : Nat → Int32) (w5 : Addr) (f_previousExit : Nat → Int32) (w7 : Addr) (f_firstExit : Nat → Int32) (w8 : Addr) (f_lastExit : Nat → Int32) (w9 : Addr) (f_exitCount : Nat → Int32) (w6 : Addr) (w10 : Addr) (w11 : Addr) (w12 : Addr) (nb : Nat) (h0 : Heap) (n0 : Nat) (Z0 : n0 ≤ h0.size) (E_b0 : Exa Z h0 b0 "com/example/bisimulation/bisimulation/lts/Exits") (F_blockOf : Fld Z h0 b0 "com/example/bisimulation/bisimulation/lts/Exits" "blockOf" "[I" (.ref w0)) (B_blockOf : Ba Z h0 w0 .int 4 f_blockOf) (F_labelOf : Fld Z h0 b0 "com/example/bisimulation/bisimulation/lts/Exits" "labelOf" "[I" (.ref w1)) (B_labelOf : Ba Z h0 w1 .int 4 f_labelOf) (F_coarseOf : Fld Z h0 b0 "com/example/bisimulation/bisimulation/lts/Exits" "coarseOf" "[I" (.ref w2)) (B_coarseOf : Ba Z h0 w2 .int 4 f_coarseOf) (F_firstMember : Fld Z h0 b0 "com/example/bisimulation/bisimulation/lts/Exits" "firstMember" "[I" (.ref w3)) (B_firstMember : Ba Z h0 w3 .int 4 f_firstMember) (F_nextExit : Fld Z h0 b0 "com/example/bisimulation/bisimulation/lts/Exits" "nextExit" "[I" (.ref w4)) (B_nextExit : Ba Z h0 w4 .int 4 f_nextExit) (F_previousExit : Fld Z h0 b0 "com/example/bisimulation/bisimulation/lts/Exits" "previousExit" "[I" (.ref w5)) (B_previousExit : Ba Z h0 w5 .int 4 f_previousExit) (F_firstExit : Fld Z h0 b0 "com/example/bisimulation/bisimulation/lts/Exits" "firstExit" "[I" (.ref w7)) (B_firstExit : Ba Z h0 w7 .int 2 f_firstExit) (F_lastExit : Fld Z h0 b0 "com/example/bisimulation/bisimulation/lts/Exits" "lastExit" "[I" (.ref w8)) (B_lastExit : Ba Z h0 w8 .int 2 f_lastExit) (F_exitCount : Fld Z h0 b0 "com/example/bisimulation/bisimulation/lts/Exits" "exitCount" "[I" (.ref w9)) (B_exitCount : Ba Z h0 w9 .int 2 f_exitCount) (lt_b0_w0 : b0 < w0) (lt_w0_w1 : w0 < w1) (lt_w1_w2 : w1 < w2) (lt_w2_w3 : w2 < w3) (lt_w3_w4 : w3 < w4) (lt_w4_w5 : w4 < w5) (lt_w5_w7 : w5 < w7) (lt_w7_w8 : w7 < w8) (lt_w8_w9 : w8 < w9) (g_b0 : n0 ≤ b0) (F_freeExits : Fld Z h0 b0 "com/example/bisimulation/bisimulation/lts/Exits" "freeExits" "[I" (.ref w6)) (F_exitOfCounter : Fld Z h0 b0 "com/example/bisimulation/bisimulation/lts/Exits" "exitOfCounter" "[I" (.ref w10)) (F_nextMember : Fld Z h0 b0 "com/example/bisimulation/bisimulation/lts/Exits" "nextMember" "[I" (.ref w11)) (F_previousMember : Fld Z h0 b0 "com/example/bisimulation/bisimulation/lts/Exits" "previousMember" "[I" (.ref w12)) (F_freeCount : Fld Z h0 b0 "com/example/bisimulation/bisimulation/lts/Exits" "freeCount" "I" (.int (0 : Int32))) (F_limit : Fld Z h0 b0 "com/example/bisimulation/bisimulation/lts/Exits" "limit" "I" (.int (1 : Int32))) (hnb : p1.toInt = nb) (hnb2 : nb < 2) (hler : ∀ k, k < 2 → -1 ≤ (f_lastExit k).toInt ∧ (f_lastExit k).toInt < 4) :
    MetFree l (⟨"com/example/bisimulation/bisimulation/lts/Exits", "open", "(III)I"⟩ : MethodName) (head1 (Jvm.Cond.code (⟨"com/example/bisimulation/bisimulation/lts/Exits", "open", "(III)I"⟩ : MethodName) prog_51_method_2_code 5 (some .int) :: ws) ({ frames := 1, cells := 0, slots := 0, locals := 15 } : Room)) (fun a U => a = #[(.ref b0), (.int p1), (.int p2), (.int p3)] ∧ Z.Warmed39 U.vm ∧ U.heap = h0) (fun _ _ _ _ _ => True) (fun _ U o U' => ∃ v L, o = .returned v ∧ Q4_1 Z b0 p1 p2 p3 w0 f_blockOf w1 f_labelOf w2 f_coarseOf w3 f_firstMember w4 f_nextExit w5 f_previousExit w7 f_firstExit w8 f_lastExit w9 f_exitCount w6 w10 w11 w12 nb h0 n0 v U'.heap L ∧ FrameEnd U o U' L ({ frames := 1, cells := 0, slots := 0, locals := 15 } : Room).cells ({ frames := 1, cells := 0, slots := 0, locals := 15 } : Room).slots) := by
  refine MetFree.of_bodySF (plainFor_of_name pn_90945715) hisR ?_
  intro p e s m args below meth c s₁ Bd hml0 hP hK
  obtain ⟨rfl, hZ, hh⟩ := hP
  have C : Ctx p s m meth c Z "com/example/bisimulation/bisimulation/lts/Exits" "open" prog_51_method_2_code 5 (some .int) := Ctx.of Bd hml0 hZ
  have X0 : Stand p l e ({ frames := 1, cells := 0, slots := 0, locals := 15 } : Room) s m #[(.ref b0), (.int p1), (.int p2), (.int p3)] below meth c s₁ [] 0 0 := Stand.of_body Bd
  have e0 : s₁.heap = h0 := by rw [← hh, Bd.state]; rfl
  have N0 := Fr.nil n0
  refine Goes.enter (ef_4_1 m b0 p1 p2 p3) ?_
  clear hK hml0 hh
  have g_w0 : n0 ≤ w0 := Nat.le_trans g_b0 (Nat.le_of_lt lt_b0_w0)
  have g_w1 : n0 ≤ w1 := Nat.le_trans g_b0 (Nat.le_of_lt (Nat.lt_trans lt_b0_w0 lt_w0_w1))
  have g_w2 : n0 ≤ w2 := Nat.le_trans g_b0 (Nat.le_of_lt (Nat.lt_trans (Nat.lt_trans lt_b0_w0 lt_w0_w1) lt_w1_w2))
  have g_w3 : n0 ≤ w3 := Nat.le_trans g_b0 (Nat.le_of_lt (Nat.lt_trans (Nat.lt_trans (Nat.lt_trans lt_b0_w0 lt_w0_w1) lt_w1_w2) lt_w2_w3))
  have g_w4 : n0 ≤ w4 := Nat.le_trans g_b0 (Nat.le_of_lt (Nat.lt_trans (Nat.lt_trans (Nat.lt_trans (Nat.lt_trans lt_b0_w0 lt_w0_w1) lt_w1_w2) lt_w2_w3) lt_w3_w4))
  have g_w5 : n0 ≤ w5 := Nat.le_trans g_b0 (Nat.le_of_lt (Nat.lt_trans (Nat.lt_trans (Nat.lt_trans (Nat.lt_trans (Nat.lt_trans lt_b0_w0 lt_w0_w1) lt_w1_w2) lt_w2_w3) lt_w3_w4) lt_w4_w5))
  have g_w7 : n0 ≤ w7 := Nat.le_trans g_b0 (Nat.le_of_lt (Nat.lt_trans (Nat.lt_trans (Nat.lt_trans (Nat.lt_trans (Nat.lt_trans (Nat.lt_trans lt_b0_w0 lt_w0_w1) lt_w1_w2) lt_w2_w3) lt_w3_w4) lt_w4_w5) lt_w5_w7))
  have g_w8 : n0 ≤ w8 := Nat.le_trans g_b0 (Nat.le_of_lt (Nat.lt_trans (Nat.lt_trans (Nat.lt_trans (Nat.lt_trans (Nat.lt_trans (Nat.lt_trans (Nat.lt_trans lt_b0_w0 lt_w0_w1) lt_w1_w2) lt_w2_w3) lt_w3_w4) lt_w4_w5) lt_w5_w7) lt_w7_w8))
  have g_w9 : n0 ≤ w9 := Nat.le_trans g_b0 (Nat.le_of_lt (Nat.lt_trans (Nat.lt_trans (Nat.lt_trans (Nat.lt_trans (Nat.lt_trans (Nat.lt_trans (Nat.lt_trans (Nat.lt_trans lt_b0_w0 lt_w0_w1) lt_w1_w2) lt_w2_w3) lt_w3_w4) lt_w4_w5) lt_w5_w7) lt_w7_w8) lt_w8_w9))
  refine g_aloadN 1 rfl C X0 d4_0 rfl rfl ?_
  refine g_getF 4 rfl C X0 (host := "") (Or.inl (hw _ (List.mem_of_getElem? (i := 45) rfl))) Via.refl e0 F_freeCount d4_1 fun T1 X2 e3 => ?_
  refine g_if_le_t 26 C X2 d4_4 (by decide) (by decide) (by decide) ?_
  refine g_aloadN 27 rfl C X2 d4_26 rfl rfl ?_
  refine g_dup 28 rfl C X2 d4_27 rfl ?_
  refine g_getF 31 rfl C X2 (host := "") (Or.inl (hw _ (List.mem_of_getElem? (i := 47) rfl))) Via.refl e3 F_limit d4_28 fun T4 X5 e6 => ?_
  refine g_dupX1 32 rfl C X5 d4_31 rfl rfl ?_
  refine g_iconst 33 rfl C X5 (1 : Int32) d4_32 rfl ?_
  refine g_iadd 34 rfl C X5 d4_33 ?_
  refine g_putF 37 rfl C X5 (host := "") (Or.inl (hw _ (List.mem_of_getElem? (i := 47) rfl))) Via.refl e6 F_limit E_b0 (Or.inl (hw _ (List.mem_of_getElem? (i := 48) rfl))) (hw _ (List.mem_of_getElem? (i := 1) rfl)) (ty := .int) (by decide) rfl rfl d4_34 N0 g_b0 fun T7 h8 ls9 X10 e11 W12 N13 => ?_
  have F14 : Fld Z h8 b0 "com/example/bisimulation/bisimulation/lts/Exits" "limit" "I" (.int ((1 : Int32) + (1 : Int32))) := F_limit.same W12
  have F15 := E_b0.wr W12
  have F16 := F_blockOf.other W12 (Or.inr (slot_ne (Or.inr (hw _ (List.mem_of_getElem? (i := 11) rfl))) (Or.inl (hw _ (List.mem_of_getElem? (i := 48) rfl))) (by decide) (t := (.array .int)) (t' := .int) (by decide) (by decide)))
  have F17 := B_blockOf.other W12 (Nat.ne_of_gt lt_b0_w0)
  have F18 := F_labelOf.other W12 (Or.inr (slot_ne (Or.inr (hw _ (List.mem_of_getElem? (i := 13) rfl))) (Or.inl (hw _ (List.mem_of_getElem? (i := 48) rfl))) (by decide) (t := (.array .int)) (t' := .int) (by decide) (by decide)))
  have F19 := B_labelOf.other W12 (Nat.ne_of_gt (Nat.lt_trans lt_b0_w0 lt_w0_w1))
  have F20 := F_coarseOf.other W12 (Or.inr (slot_ne (Or.inr (hw _ (List.mem_of_getElem? (i := 15) rfl))) (Or.inl (hw _ (List.mem_of_getElem? (i := 48) rfl))) (by decide) (t := (.array .int)) (t' := .int) (by decide) (by decide)))
  have F21 := B_coarseOf.other W12 (Nat.ne_of_gt (Nat.lt_trans (Nat.lt_trans lt_b0_w0 lt_w0_w1) lt_w1_w2))
  have F22 := F_firstMember.other W12 (Or.inr (slot_ne (Or.inr (hw _ (List.mem_of_getElem? (i := 17) rfl))) (Or.inl (hw _ (List.mem_of_getElem? (i := 48) rfl))) (by decide) (t := (.array .int)) (t' := .int) (by decide) (by decide)))
  have F23 := B_firstMember.other W12 (Nat.ne_of_gt (Nat.lt_trans (Nat.lt_trans (Nat.lt_trans lt_b0_w0 lt_w0_w1) lt_w1_w2) lt_w2_w3))
  have F24 := F_nextExit.other W12 (Or.inr (slot_ne (Or.inr (hw _ (List.mem_of_getElem? (i := 19) rfl))) (Or.inl (hw _ (List.mem_of_getElem? (i := 48) rfl))) (by decide) (t := (.array .int)) (t' := .int) (by decide) (by decide)))
  have F25 := B_nextExit.other W12 (Nat.ne_of_gt (Nat.lt_trans (Nat.lt_trans (Nat.lt_trans (Nat.lt_trans lt_b0_w0 lt_w0_w1) lt_w1_w2) lt_w2_w3) lt_w3_w4))
  have F26 := F_previousExit.other W12 (Or.inr (slot_ne (Or.inr (hw _ (List.mem_of_getElem? (i := 21) rfl))) (Or.inl (hw _ (List.mem_of_getElem? (i := 48) rfl))) (by decide) (t := (.array .int)) (t' := .int) (by decide) (by decide)))
  have F27 := B_previousExit.other W12 (Nat.ne_of_gt (Nat.lt_trans (Nat.lt_trans (Nat.lt_trans (Nat.lt_trans (Nat.lt_trans lt_b0_w0 lt_w0_w1) lt_w1_w2) lt_w2_w3) lt_w3_w4) lt_w4_w5))
  have F28 := F_firstExit.other W12 (Or.inr (slot_ne (Or.inr (hw _ (List.mem_of_getElem? (i := 25) rfl))) (Or.inl (hw _ (List.mem_of_getElem? (i := 48) rfl))) (by decide) (t := (.array .int)) (t' := .int) (by decide) (by decide)))
  have F29 := B_firstExit.other W12 (Nat.ne_of_gt (Nat.lt_trans (Nat.lt_trans (Nat.lt_trans (Nat.lt_trans (Nat.lt_trans (Nat.lt_trans lt_b0_w0 lt_w0_w1) lt_w1_w2) lt_w2_w3) lt_w3_w4) lt_w4_w5) lt_w5_w7))
  have F30 := F_lastExit.other W12 (Or.inr (slot_ne (Or.inr (hw _ (List.mem_of_getElem? (i := 27) rfl))) (Or.inl (hw _ (List.mem_of_getElem? (i := 48) rfl))) (by decide) (t := (.array .int)) (t' := .int) (by decide) (by decide)))
  have F31 := B_lastExit.other W12 (Nat.ne_of_gt (Nat.lt_trans (Nat.lt_trans (Nat.lt_trans (Nat.lt_trans (Nat.lt_trans (Nat.lt_trans (Nat.lt_trans lt_b0_w0 lt_w0_w1) lt_w1_w2) lt_w2_w3) lt_w3_w4) lt_w4_w5) lt_w5_w7) lt_w7_w8))
  have F32 := F_exitCount.other W12 (Or.inr (slot_ne (Or.inr (hw _ (List.mem_of_getElem? (i := 29) rfl))) (Or.inl (hw _ (List.mem_of_getElem? (i := 48) rfl))) (by decide) (t := (.array .int)) (t' := .int) (by decide) (by decide)))
  have F33 := B_exitCount.other W12 (Nat.ne_of_gt (Nat.lt_trans (Nat.lt_trans (Nat.lt_trans (Nat.lt_trans (Nat.lt_trans (Nat.lt_trans (Nat.lt_trans (Nat.lt_trans lt_b0_w0 lt_w0_w1) lt_w1_w2) lt_w2_w3) lt_w3_w4) lt_w4_w5) lt_w5_w7) lt_w7_w8) lt_w8_w9))
  have F34 := F_freeExits.other W12 (Or.inr (slot_ne (Or.inr (hw _ (List.mem_of_getElem? (i := 23) rfl))) (Or.inl (hw _ (List.mem_of_getElem? (i := 48) rfl))) (by decide) (t := (.array .int)) (t' := .int) (by decide) (by decide)))
  have F35 := F_exitOfCounter.other W12 (Or.inr (slot_ne (Or.inr (hw _ (List.mem_of_getElem? (i := 35) rfl))) (Or.inl (hw _ (List.mem_of_getElem? (i := 48) rfl))) (by decide) (t := (.array .int)) (t' := .int) (by decide) (by decide)))
  have F36 := F_nextMember.other W12 (Or.inr (slot_ne (Or.inr (hw _ (List.mem_of_getElem? (i := 37) rfl))) (Or.inl (hw _ (List.mem_of_getElem? (i := 48) rfl))) (by decide) (t := (.array .int)) (t' := .int) (by decide) (by decide)))
  have F37 := F_previousMember.other W12 (Or.inr (slot_ne (Or.inr (hw _ (List.mem_of_getElem? (i := 39) rfl))) (Or.inl (hw _ (List.mem_of_getElem? (i := 48) rfl))) (by decide) (t := (.array .int)) (t' := .int) (by decide) (by decide)))
  have F38 := F_freeCount.other W12 (Or.inr (slot_ne (Or.inl (hw _ (List.mem_of_getElem? (i := 46) rfl))) (Or.inl (hw _ (List.mem_of_getElem? (i := 48) rfl))) (by decide) (t := .int) (t' := .int) (by decide) (by decide)))
  have Zs39 := Nat.le_trans Z0 (Nat.le_of_eq W12.size.symm)
  have Kp40 : Keep h0 h8 [b0, w0, w1, w2, w3, w4, w5, w7, w8, w9] := (Keep.refl h0 [b0, w0, w1, w2, w3, w4, w5, w7, w8, w9]).wr W12 (Or.inl (List.mem_of_getElem? (i := 0) rfl))
  refine g_istore 39 rfl C X10 (1 : Int32) rfl #[.val (.ref b0), .val (.int p1), .val (.int p2), .val (.int p3), .val (.int (1 : Int32))] d4_37 rfl ?_
  refine g_aloadN 40 rfl C X10 d4_39 rfl rfl ?_
  refine g_getF 43 rfl C X10 (host := "") (Or.inl (hw _ (List.mem_of_getElem? (i := 10) rfl))) Via.refl e11 F16 d4_40 fun T41 X42 e43 => ?_
  refine g_iload 45 rfl C X42 d4_43 rfl ?_
  refine g_iloadN 46 rfl C X42 d4_45 rfl ?_
  refine g_iastore 47 rfl C X42 e43 F17 1 (by decide) (by decide) p1 rfl d4_46 N13 g_w0 fun T44 h45 ls46 X47 e48 W49 B50 N51 => ?_
  have F52 := F15.wr W49
  have F53 := F16.other W49 (Or.inl (Nat.ne_of_lt lt_b0_w0))
  have F54 := F18.other W49 (Or.inl (Nat.ne_of_lt lt_b0_w0))
  have F55 := F19.other W49 (Nat.ne_of_gt lt_w0_w1)
  have F56 := F20.other W49 (Or.inl (Nat.ne_of_lt lt_b0_w0))
  have F57 := F21.other W49 (Nat.ne_of_gt (Nat.lt_trans lt_w0_w1 lt_w1_w2))
  have F58 := F22.other W49 (Or.inl (Nat.ne_of_lt lt_b0_w0))
  have F59 := F23.other W49 (Nat.ne_of_gt (Nat.lt_trans (Nat.lt_trans lt_w0_w1 lt_w1_w2) lt_w2_w3))
  have F60 := F24.other W49 (Or.inl (Nat.ne_of_lt lt_b0_w0))
  have F61 := F25.other W49 (Nat.ne_of_gt (Nat.lt_trans (Nat.lt_trans (Nat.lt_trans lt_w0_w1 lt_w1_w2) lt_w2_w3) lt_w3_w4))
  have F62 := F26.other W49 (Or.inl (Nat.ne_of_lt lt_b0_w0))
  have F63 := F27.other W49 (Nat.ne_of_gt (Nat.lt_trans (Nat.lt_trans (Nat.lt_trans (Nat.lt_trans lt_w0_w1 lt_w1_w2) lt_w2_w3) lt_w3_w4) lt_w4_w5))
  have F64 := F28.other W49 (Or.inl (Nat.ne_of_lt lt_b0_w0))
  have F65 := F29.other W49 (Nat.ne_of_gt (Nat.lt_trans (Nat.lt_trans (Nat.lt_trans (Nat.lt_trans (Nat.lt_trans lt_w0_w1 lt_w1_w2) lt_w2_w3) lt_w3_w4) lt_w4_w5) lt_w5_w7))
  have F66 := F30.other W49 (Or.inl (Nat.ne_of_lt lt_b0_w0))
  have F67 := F31.other W49 (Nat.ne_of_gt (Nat.lt_trans (Nat.lt_trans (Nat.lt_trans (Nat.lt_trans (Nat.lt_trans (Nat.lt_trans lt_w0_w1 lt_w1_w2) lt_w2_w3) lt_w3_w4) lt_w4_w5) lt_w5_w7) lt_w7_w8))
  have F68 := F32.other W49 (Or.inl (Nat.ne_of_lt lt_b0_w0))
  have F69 := F33.other W49 (Nat.ne_of_gt (Nat.lt_trans (Nat.lt_trans (Nat.lt_trans (Nat.lt_trans (Nat.lt_trans (Nat.lt_trans (Nat.lt_trans lt_w0_w1 lt_w1_w2) lt_w2_w3) lt_w3_w4) lt_w4_w5) lt_w5_w7) lt_w7_w8) lt_w8_w9))
  have F70 := F34.other W49 (Or.inl (Nat.ne_of_lt lt_b0_w0))
  have F71 := F35.other W49 (Or.inl (Nat.ne_of_lt lt_b0_w0))
  have F72 := F36.other W49 (Or.inl (Nat.ne_of_lt lt_b0_w0))
  have F73 := F37.other W49 (Or.inl (Nat.ne_of_lt lt_b0_w0))
  have F74 := F38.other W49 (Or.inl (Nat.ne_of_lt lt_b0_w0))
  have F75 := F14.other W49 (Or.inl (Nat.ne_of_lt lt_b0_w0))
  have Zs76 := Nat.le_trans Zs39 (Nat.le_of_eq W49.size.symm)
  have Kp77 : Keep h0 h45 [b0, w0, w1, w2, w3, w4, w5, w7, w8, w9] := Kp40.wr W49 (Or.inl (List.mem_of_getElem? (i := 1) rfl))
  refine g_aloadN 48 rfl C X47 d4_47 rfl rfl ?_
  refine g_getF 51 rfl C X47 (host := "") (Or.inl (hw _ (List.mem_of_getElem? (i := 12) rfl))) Via.refl e48 F54 d4_48 fun T78 X79 e80 => ?_
  refine g_iload 53 rfl C X79 d4_51 rfl ?_
  refine g_iloadN 54 rfl C X79 d4_53 rfl ?_
  refine g_iastore 55 rfl C X79 e80 F55 1 (by decide) (by decide) p2 rfl d4_54 N51 g_w1 fun T81 h82 ls83 X84 e85 W86 B87 N88 => ?_
  have F89 := F52.wr W86
  have F90 := F53.other W86 (Or.inl (Nat.ne_of_lt (Nat.lt_trans lt_b0_w0 lt_w0_w1)))
  have F91 := B50.other W86 (Nat.ne_of_lt lt_w0_w1)
  have F92 := F54.other W86 (Or.inl (Nat.ne_of_lt (Nat.lt_trans lt_b0_w0 lt_w0_w1)))
  have F93 := F56.other W86 (Or.inl (Nat.ne_of_lt (Nat.lt_trans lt_b0_w0 lt_w0_w1)))
  have F94 := F57.other W86 (Nat.ne_of_gt lt_w1_w2)
  have F95 := F58.other W86 (Or.inl (Nat.ne_of_lt (Nat.lt_trans lt_b0_w0 lt_w0_w1)))
  have F96 := F59.other W86 (Nat.ne_of_gt (Nat.lt_trans lt_w1_w2 lt_w2_w3))
  have F97 := F60.other W86 (Or.inl (Nat.ne_of_lt (Nat.lt_trans lt_b0_w0 lt_w0_w1)))
  have F98 := F61.other W86 (Nat.ne_of_gt (Nat.lt_trans (Nat.lt_trans lt_w1_w2 lt_w2_w3) lt_w3_w4))
  have F99 := F62.other W86 (Or.inl (Nat.ne_of_lt (Nat.lt_trans lt_b0_w0 lt_w0_w1)))
  have F100 := F63.other W86 (Nat.ne_of_gt (Nat.lt_trans (Nat.lt_trans (Nat.lt_trans lt_w1_w2 lt_w2_w3) lt_w3_w4) lt_w4_w5))
  have F101 := F64.other W86 (Or.inl (Nat.ne_of_lt (Nat.lt_trans lt_b0_w0 lt_w0_w1)))
  have F102 := F65.other W86 (Nat.ne_of_gt (Nat.lt_trans (Nat.lt_trans (Nat.lt_trans (Nat.lt_trans lt_w1_w2 lt_w2_w3) lt_w3_w4) lt_w4_w5) lt_w5_w7))
  have F103 := F66.other W86 (Or.inl (Nat.ne_of_lt (Nat.lt_trans lt_b0_w0 lt_w0_w1)))
  have F104 := F67.other W86 (Nat.ne_of_gt (Nat.lt_trans (Nat.lt_trans (Nat.lt_trans (Nat.lt_trans (Nat.lt_trans lt_w1_w2 lt_w2_w3) lt_w3_w4) lt_w4_w5) lt_w5_w7) lt_w7_w8))
  have F105 := F68.other W86 (Or.inl (Nat.ne_of_lt (Nat.lt_trans lt_b0_w0 lt_w0_w1)))
  have F106 := F69.other W86 (Nat.ne_of_gt (Nat.lt_trans (Nat.lt_trans (Nat.lt_trans (Nat.lt_trans (Nat.lt_trans (Nat.lt_trans lt_w1_w2 lt_w2_w3) lt_w3_w4) lt_w4_w5) lt_w5_w7) lt_w7_w8) lt_w8_w9))
  have F107 := F70.other W86 (Or.inl (Nat.ne_of_lt (Nat.lt_trans lt_b0_w0 lt_w0_w1)))
  have F108 := F71.other W86 (Or.inl (Nat.ne_of_lt (Nat.lt_trans lt_b0_w0 lt_w0_w1)))
  have F109 := F72.other W86 (Or.inl (Nat.ne_of_lt (Nat.lt_trans lt_b0_w0 lt_w0_w1)))
  have F110 := F73.other W86 (Or.inl (Nat.ne_of_lt (Nat.lt_trans lt_b0_w0 lt_w0_w1)))
  have F111 := F74.other W86 (Or.inl (Nat.ne_of_lt (Nat.lt_trans lt_b0_w0 lt_w0_w1)))
  have F112 := F75.other W86 (Or.inl (Nat.ne_of_lt (Nat.lt_trans lt_b0_w0 lt_w0_w1)))
  have Zs113 := Nat.le_trans Zs76 (Nat.le_of_eq W86.size.symm)
  have Kp114 : Keep h0 h82 [b0, w0, w1, w2, w3, w4, w5, w7, w8, w9] := Kp77.wr W86 (Or.inl (List.mem_of_getElem? (i := 2) rfl))
  refine g_aloadN 56 rfl C X84 d4_55 rfl rfl ?_
  refine g_getF 59 rfl C X84 (host := "") (Or.inl (hw _ (List.mem_of_getElem? (i := 14) rfl))) Via.refl e85 F93 d4_56 fun T115 X116 e117 => ?_
  refine g_iload 61 rfl C X116 d4_59 rfl ?_
  refine g_iloadN 62 rfl C X116 d4_61 rfl ?_
  refine g_iastore 63 rfl C X116 e117 F94 1 (by decide) (by decide) p3 rfl d4_62 N88 g_w2 fun T118 h119 ls120 X121 e122 W123 B124 N125 => ?_
  have F126 := F89.wr W123
  have F127 := F90.other W123 (Or.inl (Nat.ne_of_lt (Nat.lt_trans (Nat.lt_trans lt_b0_w0 lt_w0_w1) lt_w1_w2)))
  have F128 := F91.other W123 (Nat.ne_of_lt (Nat.lt_trans lt_w0_w1 lt_w1_w2))
  have F129 := F92.other W123 (Or.inl (Nat.ne_of_lt (Nat.lt_trans (Nat.lt_trans lt_b0_w0 lt_w0_w1) lt_w1_w2)))
  have F130 := B87.other W123 (Nat.ne_of_lt lt_w1_w2)
  have F131 := F93.other W123 (Or.inl (Nat.ne_of_lt (Nat.lt_trans (Nat.lt_trans lt_b0_w0 lt_w0_w1) lt_w1_w2)))
  have F132 := F95.other W123 (Or.inl (Nat.ne_of_lt (Nat.lt_trans (Nat.lt_trans lt_b0_w0 lt_w0_w1) lt_w1_w2)))
  have F133 := F96.other W123 (Nat.ne_of_gt lt_w2_w3)
  have F134 := F97.other W123 (Or.inl (Nat.ne_of_lt (Nat.lt_trans (Nat.lt_trans lt_b0_w0 lt_w0_w1) lt_w1_w2)))
  have F135 := F98.other W123 (Nat.ne_of_gt (Nat.lt_trans lt_w2_w3 lt_w3_w4))
  have F136 := F99.other W123 (Or.inl (Nat.ne_of_lt (Nat.lt_trans (Nat.lt_trans lt_b0_w0 lt_w0_w1) lt_w1_w2)))
  have F137 := F100.other W123 (Nat.ne_of_gt (Nat.lt_trans (Nat.lt_trans lt_w2_w3 lt_w3_w4) lt_w4_w5))
  have F138 := F101.other W123 (Or.inl (Nat.ne_of_lt (Nat.lt_trans (Nat.lt_trans lt_b0_w0 lt_w0_w1) lt_w1_w2)))
  have F139 := F102.other W123 (Nat.ne_of_gt (Nat.lt_trans (Nat.lt_trans (Nat.lt_trans lt_w2_w3 lt_w3_w4) lt_w4_w5) lt_w5_w7))
  have F140 := F103.other W123 (Or.inl (Nat.ne_of_lt (Nat.lt_trans (Nat.lt_trans lt_b0_w0 lt_w0_w1) lt_w1_w2)))
  have F141 := F104.other W123 (Nat.ne_of_gt (Nat.lt_trans (Nat.lt_trans (Nat.lt_trans (Nat.lt_trans lt_w2_w3 lt_w3_w4) lt_w4_w5) lt_w5_w7) lt_w7_w8))
  have F142 := F105.other W123 (Or.inl (Nat.ne_of_lt (Nat.lt_trans (Nat.lt_trans lt_b0_w0 lt_w0_w1) lt_w1_w2)))
  have F143 := F106.other W123 (Nat.ne_of_gt (Nat.lt_trans (Nat.lt_trans (Nat.lt_trans (Nat.lt_trans (Nat.lt_trans lt_w2_w3 lt_w3_w4) lt_w4_w5) lt_w5_w7) lt_w7_w8) lt_w8_w9))
  have F144 := F107.other W123 (Or.inl (Nat.ne_of_lt (Nat.lt_trans (Nat.lt_trans lt_b0_w0 lt_w0_w1) lt_w1_w2)))
  have F145 := F108.other W123 (Or.inl (Nat.ne_of_lt (Nat.lt_trans (Nat.lt_trans lt_b0_w0 lt_w0_w1) lt_w1_w2)))
  have F146 := F109.other W123 (Or.inl (Nat.ne_of_lt (Nat.lt_trans (Nat.lt_trans lt_b0_w0 lt_w0_w1) lt_w1_w2)))
  have F147 := F110.other W123 (Or.inl (Nat.ne_of_lt (Nat.lt_trans (Nat.lt_trans lt_b0_w0 lt_w0_w1) lt_w1_w2)))
  have F148 := F111.other W123 (Or.inl (Nat.ne_of_lt (Nat.lt_trans (Nat.lt_trans lt_b0_w0 lt_w0_w1) lt_w1_w2)))
  have F149 := F112.other W123 (Or.inl (Nat.ne_of_lt (Nat.lt_trans (Nat.lt_trans lt_b0_w0 lt_w0_w1) lt_w1_w2)))
  have Zs150 := Nat.le_trans Zs113 (Nat.le_of_eq W123.size.symm)
  have Kp151 : Keep h0 h119 [b0, w0, w1, w2, w3, w4, w5, w7, w8, w9] := Kp114.wr W123 (Or.inl (List.mem_of_getElem? (i := 3) rfl))
  refine g_aloadN 64 rfl C X121 d4_63 rfl rfl ?_
  refine g_getF 67 rfl C X121 (host := "") (Or.inl (hw _ (List.mem_of_getElem? (i := 16) rfl))) Via.refl e122 F132 d4_64 fun T152 X153 e154 => ?_
  refine g_iload 69 rfl C X153 d4_67 rfl ?_
  refine g_iconst 70 rfl C X153 (-1 : Int32) d4_69 rfl ?_
  refine g_iastore 71 rfl C X153 e154 F133 1 (by decide) (by decide) (-1 : Int32) rfl d4_70 N125 g_w3 fun T155 h156 ls157 X158 e159 W160 B161 N162 => ?_
  have F163 := F126.wr W160
  have F164 := F127.other W160 (Or.inl (Nat.ne_of_lt (Nat.lt_trans (Nat.lt_trans (Nat.lt_trans lt_b0_w0 lt_w0_w1) lt_w1_w2) lt_w2_w3)))
  have F165 := F128.other W160 (Nat.ne_of_lt (Nat.lt_trans (Nat.lt_trans lt_w0_w1 lt_w1_w2) lt_w2_w3))
  have F166 := F129.other W160 (Or.inl (Nat.ne_of_lt (Nat.lt_trans (Nat.lt_trans (Nat.lt_trans lt_b0_w0 lt_w0_w1) lt_w1_w2) lt_w2_w3)))
  have F167 := F130.other W160 (Nat.ne_of_lt (Nat.lt_trans lt_w1_w2 lt_w2_w3))
  have F168 := F131.other W160 (Or.inl (Nat.ne_of_lt (Nat.lt_trans (Nat.lt_trans (Nat.lt_trans lt_b0_w0 lt_w0_w1) lt_w1_w2) lt_w2_w3)))
  have F169 := B124.other W160 (Nat.ne_of_lt lt_w2_w3)
  have F170 := F132.other W160 (Or.inl (Nat.ne_of_lt (Nat.lt_trans (Nat.lt_trans (Nat.lt_trans lt_b0_w0 lt_w0_w1) lt_w1_w2) lt_w2_w3)))
  have F171 := F134.other W160 (Or.inl (Nat.ne_of_lt (Nat.lt_trans (Nat.lt_trans (Nat.lt_trans lt_b0_w0 lt_w0_w1) lt_w1_w2) lt_w2_w3)))
  have F172 := F135.other W160 (Nat.ne_of_gt lt_w3_w4)
  have F173 := F136.other W160 (Or.inl (Nat.ne_of_lt (Nat.lt_trans (Nat.lt_trans (Nat.lt_trans lt_b0_w0 lt_w0_w1) lt_w1_w2) lt_w2_w3)))
  have F174 := F137.other W160 (Nat.ne_of_gt (Nat.lt_trans lt_w3_w4 lt_w4_w5))
  have F175 := F138.other W160 (Or.inl (Nat.ne_of_lt (Nat.lt_trans (Nat.lt_trans (Nat.lt_trans lt_b0_w0 lt_w0_w1) lt_w1_w2) lt_w2_w3)))
  have F176 := F139.other W160 (Nat.ne_of_gt (Nat.lt_trans (Nat.lt_trans lt_w3_w4 lt_w4_w5) lt_w5_w7))
  have F177 := F140.other W160 (Or.inl (Nat.ne_of_lt (Nat.lt_trans (Nat.lt_trans (Nat.lt_trans lt_b0_w0 lt_w0_w1) lt_w1_w2) lt_w2_w3)))
  have F178 := F141.other W160 (Nat.ne_of_gt (Nat.lt_trans (Nat.lt_trans (Nat.lt_trans lt_w3_w4 lt_w4_w5) lt_w5_w7) lt_w7_w8))
  have F179 := F142.other W160 (Or.inl (Nat.ne_of_lt (Nat.lt_trans (Nat.lt_trans (Nat.lt_trans lt_b0_w0 lt_w0_w1) lt_w1_w2) lt_w2_w3)))
  have F180 := F143.other W160 (Nat.ne_of_gt (Nat.lt_trans (Nat.lt_trans (Nat.lt_trans (Nat.lt_trans lt_w3_w4 lt_w4_w5) lt_w5_w7) lt_w7_w8) lt_w8_w9))
  have F181 := F144.other W160 (Or.inl (Nat.ne_of_lt (Nat.lt_trans (Nat.lt_trans (Nat.lt_trans lt_b0_w0 lt_w0_w1) lt_w1_w2) lt_w2_w3)))
  have F182 := F145.other W160 (Or.inl (Nat.ne_of_lt (Nat.lt_trans (Nat.lt_trans (Nat.lt_trans lt_b0_w0 lt_w0_w1) lt_w1_w2) lt_w2_w3)))
  have F183 := F146.other W160 (Or.inl (Nat.ne_of_lt (Nat.lt_trans (Nat.lt_trans (Nat.lt_trans lt_b0_w0 lt_w0_w1) lt_w1_w2) lt_w2_w3)))
  have F184 := F147.other W160 (Or.inl (Nat.ne_of_lt (Nat.lt_trans (Nat.lt_trans (Nat.lt_trans lt_b0_w0 lt_w0_w1) lt_w1_w2) lt_w2_w3)))
  have F185 := F148.other W160 (Or.inl (Nat.ne_of_lt (Nat.lt_trans (Nat.lt_trans (Nat.lt_trans lt_b0_w0 lt_w0_w1) lt_w1_w2) lt_w2_w3)))
  have F186 := F149.other W160 (Or.inl (Nat.ne_of_lt (Nat.lt_trans (Nat.lt_trans (Nat.lt_trans lt_b0_w0 lt_w0_w1) lt_w1_w2) lt_w2_w3)))
  have Zs187 := Nat.le_trans Zs150 (Nat.le_of_eq W160.size.symm)
  have Kp188 : Keep h0 h156 [b0, w0, w1, w2, w3, w4, w5, w7, w8, w9] := Kp151.wr W160 (Or.inl (List.mem_of_getElem? (i := 4) rfl))
  refine g_aloadN 72 rfl C X158 d4_71 rfl rfl ?_
  refine g_iload 74 rfl C X158 d4_72 rfl ?_
  refine g_callQ 77 rfl C X158 (argsL := [(.int (1 : Int32))]) (hw _ (List.mem_of_getElem? (i := 49) rfl)) (hw _ (List.mem_of_getElem? (i := 50) rfl)) (hw _ (List.mem_of_getElem? (i := 51) rfl)) (hw _ (List.mem_of_getElem? (i := 1) rfl)) (hw _ (List.mem_of_getElem? (i := 52) rfl)) (hw _ (List.mem_of_getElem? (i := 2) rfl)) e159 F163 (rm5_1 l Z a0 hw [] b0 w0 (upd f_blockOf 1 p1) w4 f_nextExit w5 f_previousExit w7 f_firstExit w8 f_lastExit nb p1 (f_lastExit nb) h156 n0 Zs187 F163 F164 F165 F171 F172 F173 F174 F175 F176 F177 F178 lt_b0_w0 (Nat.lt_trans (Nat.lt_trans (Nat.lt_trans lt_w0_w1 lt_w1_w2) lt_w2_w3) lt_w3_w4) lt_w4_w5 lt_w5_w7 lt_w7_w8 g_b0 hnb hnb2 (upd_same (by omega)) rfl (hler nb hnb2)) (lenOf pd_52681297 rfl) (by decide) (by decide) (by decide) (by decide) rfl (W := 0) (Nat.le_of_eq rfl) (by decide) d4_74 rfl fun r189 T190 Lc191 X192 hQ193 => ?_
  obtain ⟨rfl, Nq194, Kc195, ⟨f196, B197⟩, ⟨f198, B199⟩, ⟨f200, B201⟩, B202⟩ := hQ193
  have F203 := F163.keep Kc195
  have F204 := F164.keep Kc195 (ninS (Nat.ne_of_lt (Nat.lt_trans (Nat.lt_trans (Nat.lt_trans (Nat.lt_trans lt_b0_w0 lt_w0_w1) lt_w1_w2) lt_w2_w3) lt_w3_w4)) (ninS (Nat.ne_of_lt (Nat.lt_trans (Nat.lt_trans (Nat.lt_trans (Nat.lt_trans (Nat.lt_trans lt_b0_w0 lt_w0_w1) lt_w1_w2) lt_w2_w3) lt_w3_w4) lt_w4_w5)) (ninS (Nat.ne_of_lt (Nat.lt_trans (Nat.lt_trans (Nat.lt_trans (Nat.lt_trans (Nat.lt_trans (Nat.lt_trans lt_b0_w0 lt_w0_w1) lt_w1_w2) lt_w2_w3) lt_w3_w4) lt_w4_w5) lt_w5_w7)) (ninS (Nat.ne_of_lt (Nat.lt_trans (Nat.lt_trans (Nat.lt_trans (Nat.lt_trans (Nat.lt_trans (Nat.lt_trans (Nat.lt_trans lt_b0_w0 lt_w0_w1) lt_w1_w2) lt_w2_w3) lt_w3_w4) lt_w4_w5) lt_w5_w7) lt_w7_w8)) nin0))))
  have F205 := F165.keep Kc195 (ninS (Nat.ne_of_lt (Nat.lt_trans (Nat.lt_trans (Nat.lt_trans lt_w0_w1 lt_w1_w2) lt_w2_w3) lt_w3_w4)) (ninS (Nat.ne_of_lt (Nat.lt_trans (Nat.lt_trans (Nat.lt_trans (Nat.lt_trans lt_w0_w1 lt_w1_w2) lt_w2_w3) lt_w3_w4) lt_w4_w5)) (ninS (Nat.ne_of_lt (Nat.lt_trans (Nat.lt_trans (Nat.lt_trans (Nat.lt_trans (Nat.lt_trans lt_w0_w1 lt_w1_w2) lt_w2_w3) lt_w3_w4) lt_w4_w5) lt_w5_w7)) (ninS (Nat.ne_of_lt (Nat.lt_trans (Nat.lt_trans (Nat.lt_trans (Nat.lt_trans (Nat.lt_trans (Nat.lt_trans lt_w0_w1 lt_w1_w2) lt_w2_w3) lt_w3_w4) lt_w4_w5) lt_w5_w7) lt_w7_w8)) nin0))))
  have F206 := F166.keep Kc195 (ninS (Nat.ne_of_lt (Nat.lt_trans (Nat.lt_trans (Nat.lt_trans (Nat.lt_trans lt_b0_w0 lt_w0_w1) lt_w1_w2) lt_w2_w3) lt_w3_w4)) (ninS (Nat.ne_of_lt (Nat.lt_trans (Nat.lt_trans (Nat.lt_trans (Nat.lt_trans (Nat.lt_trans lt_b0_w0 lt_w0_w1) lt_w1_w2) lt_w2_w3) lt_w3_w4) lt_w4_w5)) (ninS (Nat.ne_of_lt (Nat.lt_trans (Nat.lt_trans (Nat.lt_trans (Nat.lt_trans (Nat.lt_trans (Nat.lt_trans lt_b0_w0 lt_w0_w1) lt_w1_w2) lt_w2_w3) lt_w3_w4) lt_w4_w5) lt_w5_w7)) (ninS (Nat.ne_of_lt (Nat.lt_trans (Nat.lt_trans (Nat.lt_trans (Nat.lt_trans (Nat.lt_trans (Nat.lt_trans (Nat.lt_trans lt_b0_w0 lt_w0_w1) lt_w1_w2) lt_w2_w3) lt_w3_w4) lt_w4_w5) lt_w5_w7) lt_w7_w8)) nin0))))
  have F207 := F167.keep Kc195 (ninS (Nat.ne_of_lt (Nat.lt_trans (Nat.lt_trans lt_w1_w2 lt_w2_w3) lt_w3_w4)) (ninS (Nat.ne_of_lt (Nat.lt_trans (Nat.lt_trans (Nat.lt_trans lt_w1_w2 lt_w2_w3) lt_w3_w4) lt_w4_w5)) (ninS (Nat.ne_of_lt (Nat.lt_trans (Nat.lt_trans (Nat.lt_trans (Nat.lt_trans lt_w1_w2 lt_w2_w3) lt_w3_w4) lt_w4_w5) lt_w5_w7)) (ninS (Nat.ne_of_lt (Nat.lt_trans (Nat.lt_trans (Nat.lt_trans (Nat.lt_trans (Nat.lt_trans lt_w1_w2 lt_w2_w3) lt_w3_w4) lt_w4_w5) lt_w5_w7) lt_w7_w8)) nin0))))
  have F208 := F168.keep Kc195 (ninS (Nat.ne_of_lt (Nat.lt_trans (Nat.lt_trans (Nat.lt_trans (Nat.lt_trans lt_b0_w0 lt_w0_w1) lt_w1_w2) lt_w2_w3) lt_w3_w4)) (ninS (Nat.ne_of_lt (Nat.lt_trans (Nat.lt_trans (Nat.lt_trans (Nat.lt_trans (Nat.lt_trans lt_b0_w0 lt_w0_w1) lt_w1_w2) lt_w2_w3) lt_w3_w4) lt_w4_w5)) (ninS (Nat.ne_of_lt (Nat.lt_trans (Nat.lt_trans (Nat.lt_trans (Nat.lt_trans (Nat.lt_trans (Nat.lt_trans lt_b0_w0 lt_w0_w1) lt_w1_w2) lt_w2_w3) lt_w3_w4) lt_w4_w5) lt_w5_w7)) (ninS (Nat.ne_of_lt (Nat.lt_trans (Nat.lt_trans (Nat.lt_trans (Nat.lt_trans (Nat.lt_trans (Nat.lt_trans (Nat.lt_trans lt_b0_w0 lt_w0_w1) lt_w1_w2) lt_w2_w3) lt_w3_w4) lt_w4_w5) lt_w5_w7) lt_w7_w8)) nin0))))
  have F209 := F169.keep Kc195 (ninS (Nat.ne_of_lt (Nat.lt_trans lt_w2_w3 lt_w3_w4)) (ninS (Nat.ne_of_lt (Nat.lt_trans (Nat.lt_trans lt_w2_w3 lt_w3_w4) lt_w4_w5)) (ninS (Nat.ne_of_lt (Nat.lt_trans (Nat.lt_trans (Nat.lt_trans lt_w2_w3 lt_w3_w4) lt_w4_w5) lt_w5_w7)) (ninS (Nat.ne_of_lt (Nat.lt_trans (Nat.lt_trans (Nat.lt_trans (Nat.lt_trans lt_w2_w3 lt_w3_w4) lt_w4_w5) lt_w5_w7) lt_w7_w8)) nin0))))
  have F210 := F170.keep Kc195 (ninS (Nat.ne_of_lt (Nat.lt_trans (Nat.lt_trans (Nat.lt_trans (Nat.lt_trans lt_b0_w0 lt_w0_w1) lt_w1_w2) lt_w2_w3) lt_w3_w4)) (ninS (Nat.ne_of_lt (Nat.lt_trans (Nat.lt_trans (Nat.lt_trans (Nat.lt_trans (Nat.lt_trans lt_b0_w0 lt_w0_w1) lt_w1_w2) lt_w2_w3) lt_w3_w4) lt_w4_w5)) (ninS (Nat.ne_of_lt (Nat.lt_trans (Nat.lt_trans (Nat.lt_trans (Nat.lt_trans (Nat.lt_trans (Nat.lt_trans lt_b0_w0 lt_w0_w1) lt_w1_w2) lt_w2_w3) lt_w3_w4) lt_w4_w5) lt_w5_w7)) (ninS (Nat.ne_of_lt (Nat.lt_trans (Nat.lt_trans (Nat.lt_trans (Nat.lt_trans (Nat.lt_trans (Nat.lt_trans (Nat.lt_trans lt_b0_w0 lt_w0_w1) lt_w1_w2) lt_w2_w3) lt_w3_w4) lt_w4_w5) lt_w5_w7) lt_w7_w8)) nin0))))
  have F211 := B161.keep Kc195 (ninS (Nat.ne_of_lt lt_w3_w4) (ninS (Nat.ne_of_lt (Nat.lt_trans lt_w3_w4 lt_w4_w5)) (ninS (Nat.ne_of_lt (Nat.lt_trans (Nat.lt_trans lt_w3_w4 lt_w4_w5) lt_w5_w7)) (ninS (Nat.ne_of_lt (Nat.lt_trans (Nat.lt_trans (Nat.lt_trans lt_w3_w4 lt_w4_w5) lt_w5_w7) lt_w7_w8)) nin0))))
  have F212 := F171.keep Kc195 (ninS (Nat.ne_of_lt (Nat.lt_trans (Nat.lt_trans (Nat.lt_trans (Nat.lt_trans lt_b0_w0 lt_w0_w1) lt_w1_w2) lt_w2_w3) lt_w3_w4)) (ninS (Nat.ne_of_lt (Nat.lt_trans (Nat.lt_trans (Nat.lt_trans (Nat.lt_trans (Nat.lt_trans lt_b0_w0 lt_w0_w1) lt_w1_w2) lt_w2_w3) lt_w3_w4) lt_w4_w5)) (ninS (Nat.ne_of_lt (Nat.lt_trans (Nat.lt_trans (Nat.lt_trans (Nat.lt_trans (Nat.lt_trans (Nat.lt_trans lt_b0_w0 lt_w0_w1) lt_w1_w2) lt_w2_w3) lt_w3_w4) lt_w4_w5) lt_w5_w7)) (ninS (Nat.ne_of_lt (Nat.lt_trans (Nat.lt_trans (Nat.lt_trans (Nat.lt_trans (Nat.lt_trans (Nat.lt_trans (Nat.lt_trans lt_b0_w0 lt_w0_w1) lt_w1_w2) lt_w2_w3) lt_w3_w4) lt_w4_w5) lt_w5_w7) lt_w7_w8)) nin0))))
  have F213 := F173.keep Kc195 (ninS (Nat.ne_of_lt (Nat.lt_trans (Nat.lt_trans (Nat.lt_trans (Nat.lt_trans lt_b0_w0 lt_w0_w1) lt_w1_w2) lt_w2_w3) lt_w3_w4)) (ninS (Nat.ne_of_lt (Nat.lt_trans (Nat.lt_trans (Nat.lt_trans (Nat.lt_trans (Nat.lt_trans lt_b0_w0 lt_w0_w1) lt_w1_w2) lt_w2_w3) lt_w3_w4) lt_w4_w5)) (ninS (Nat.ne_of_lt (Nat.lt_trans (Nat.lt_trans (Nat.lt_trans (Nat.lt_trans (Nat.lt_trans (Nat.lt_trans lt_b0_w0 lt_w0_w1) lt_w1_w2) lt_w2_w3) lt_w3_w4) lt_w4_w5) lt_w5_w7)) (ninS (Nat.ne_of_lt (Nat.lt_trans (Nat.lt_trans (Nat.lt_trans (Nat.lt_trans (Nat.lt_trans (Nat.lt_trans (Nat.lt_trans lt_b0_w0 lt_w0_w1) lt_w1_w2) lt_w2_w3) lt_w3_w4) lt_w4_w5) lt_w5_w7) lt_w7_w8)) nin0))))
  have F214 := F175.keep Kc195 (ninS (Nat.ne_of_lt (Nat.lt_trans (Nat.lt_trans (Nat.lt_trans (Nat.lt_trans lt_b0_w0 lt_w0_w1) lt_w1_w2) lt_w2_w3) lt_w3_w4)) (ninS (Nat.ne_of_lt (Nat.lt_trans (Nat.lt_trans (Nat.lt_trans (Nat.lt_trans (Nat.lt_trans lt_b0_w0 lt_w0_w1) lt_w1_w2) lt_w2_w3) lt_w3_w4) lt_w4_w5)) (ninS (Nat.ne_of_lt (Nat.lt_trans (Nat.lt_trans (Nat.lt_trans (Nat.lt_trans (Nat.lt_trans (Nat.lt_trans lt_b0_w0 lt_w0_w1) lt_w1_w2) lt_w2_w3) lt_w3_w4) lt_w4_w5) lt_w5_w7)) (ninS (Nat.ne_of_lt (Nat.lt_trans (Nat.lt_trans (Nat.lt_trans (Nat.lt_trans (Nat.lt_trans (Nat.lt_trans (Nat.lt_trans lt_b0_w0 lt_w0_w1) lt_w1_w2) lt_w2_w3) lt_w3_w4) lt_w4_w5) lt_w5_w7) lt_w7_w8)) nin0))))
  have F215 := F177.keep Kc195 (ninS (Nat.ne_of_lt (Nat.lt_trans (Nat.lt_trans (Nat.lt_trans (Nat.lt_trans lt_b0_w0 lt_w0_w1) lt_w1_w2) lt_w2_w3) lt_w3_w4)) (ninS (Nat.ne_of_lt (Nat.lt_trans (Nat.lt_trans (Nat.lt_trans (Nat.lt_trans (Nat.lt_trans lt_b0_w0 lt_w0_w1) lt_w1_w2) lt_w2_w3) lt_w3_w4) lt_w4_w5)) (ninS (Nat.ne_of_lt (Nat.lt_trans (Nat.lt_trans (Nat.lt_trans (Nat.lt_trans (Nat.lt_trans (Nat.lt_trans lt_b0_w0 lt_w0_w1) lt_w1_w2) lt_w2_w3) lt_w3_w4) lt_w4_w5) lt_w5_w7)) (ninS (Nat.ne_of_lt (Nat.lt_trans (Nat.lt_trans (Nat.lt_trans (Nat.lt_trans (Nat.lt_trans (Nat.lt_trans (Nat.lt_trans lt_b0_w0 lt_w0_w1) lt_w1_w2) lt_w2_w3) lt_w3_w4) lt_w4_w5) lt_w5_w7) lt_w7_w8)) nin0))))
  have F216 := F179.keep Kc195 (ninS (Nat.ne_of_lt (Nat.lt_trans (Nat.lt_trans (Nat.lt_trans (Nat.lt_trans lt_b0_w0 lt_w0_w1) lt_w1_w2) lt_w2_w3) lt_w3_w4)) (ninS (Nat.ne_of_lt (Nat.lt_trans (Nat.lt_trans (Nat.lt_trans (Nat.lt_trans (Nat.lt_trans lt_b0_w0 lt_w0_w1) lt_w1_w2) lt_w2_w3) lt_w3_w4) lt_w4_w5)) (ninS (Nat.ne_of_lt (Nat.lt_trans (Nat.lt_trans (Nat.lt_trans (Nat.lt_trans (Nat.lt_trans (Nat.lt_trans lt_b0_w0 lt_w0_w1) lt_w1_w2) lt_w2_w3) lt_w3_w4) lt_w4_w5) lt_w5_w7)) (ninS (Nat.ne_of_lt (Nat.lt_trans (Nat.lt_trans (Nat.lt_trans (Nat.lt_trans (Nat.lt_trans (Nat.lt_trans (Nat.lt_trans lt_b0_w0 lt_w0_w1) lt_w1_w2) lt_w2_w3) lt_w3_w4) lt_w4_w5) lt_w5_w7) lt_w7_w8)) nin0))))
  have F217 := F180.keep Kc195 (ninS (Nat.ne_of_gt (Nat.lt_trans (Nat.lt_trans (Nat.lt_trans lt_w4_w5 lt_w5_w7) lt_w7_w8) lt_w8_w9)) (ninS (Nat.ne_of_gt (Nat.lt_trans (Nat.lt_trans lt_w5_w7 lt_w7_w8) lt_w8_w9)) (ninS (Nat.ne_of_gt (Nat.lt_trans lt_w7_w8 lt_w8_w9)) (ninS (Nat.ne_of_gt lt_w8_w9) nin0))))
  have F218 := F181.keep Kc195 (ninS (Nat.ne_of_lt (Nat.lt_trans (Nat.lt_trans (Nat.lt_trans (Nat.lt_trans lt_b0_w0 lt_w0_w1) lt_w1_w2) lt_w2_w3) lt_w3_w4)) (ninS (Nat.ne_of_lt (Nat.lt_trans (Nat.lt_trans (Nat.lt_trans (Nat.lt_trans (Nat.lt_trans lt_b0_w0 lt_w0_w1) lt_w1_w2) lt_w2_w3) lt_w3_w4) lt_w4_w5)) (ninS (Nat.ne_of_lt (Nat.lt_trans (Nat.lt_trans (Nat.lt_trans (Nat.lt_trans (Nat.lt_trans (Nat.lt_trans lt_b0_w0 lt_w0_w1) lt_w1_w2) lt_w2_w3) lt_w3_w4) lt_w4_w5) lt_w5_w7)) (ninS (Nat.ne_of_lt (Nat.lt_trans (Nat.lt_trans (Nat.lt_trans (Nat.lt_trans (Nat.lt_trans (Nat.lt_trans (Nat.lt_trans lt_b0_w0 lt_w0_w1) lt_w1_w2) lt_w2_w3) lt_w3_w4) lt_w4_w5) lt_w5_w7) lt_w7_w8)) nin0))))
  have F219 := F182.keep Kc195 (ninS (Nat.ne_of_lt (Nat.lt_trans (Nat.lt_trans (Nat.lt_trans (Nat.lt_trans lt_b0_w0 lt_w0_w1) lt_w1_w2) lt_w2_w3) lt_w3_w4)) (ninS (Nat.ne_of_lt (Nat.lt_trans (Nat.lt_trans (Nat.lt_trans (Nat.lt_trans (Nat.lt_trans lt_b0_w0 lt_w0_w1) lt_w1_w2) lt_w2_w3) lt_w3_w4) lt_w4_w5)) (ninS (Nat.ne_of_lt (Nat.lt_trans (Nat.lt_trans (Nat.lt_trans (Nat.lt_trans (Nat.lt_trans (Nat.lt_trans lt_b0_w0 lt_w0_w1) lt_w1_w2) lt_w2_w3) lt_w3_w4) lt_w4_w5) lt_w5_w7)) (ninS (Nat.ne_of_lt (Nat.lt_trans (Nat.lt_trans (Nat.lt_trans (Nat.lt_trans (Nat.lt_trans (Nat.lt_trans (Nat.lt_trans lt_b0_w0 lt_w0_w1) lt_w1_w2) lt_w2_w3) lt_w3_w4) lt_w4_w5) lt_w5_w7) lt_w7_w8)) nin0))))
  have F220 := F183.keep Kc195 (ninS (Nat.ne_of_lt (Nat.lt_trans (Nat.lt_trans (Nat.lt_trans (Nat.lt_trans lt_b0_w0 lt_w0_w1) lt_w1_w2) lt_w2_w3) lt_w3_w4)) (ninS (Nat.ne_of_lt (Nat.lt_trans (Nat.lt_trans (Nat.lt_trans (Nat.lt_trans (Nat.lt_trans lt_b0_w0 lt_w0_w1) lt_w1_w2) lt_w2_w3) lt_w3_w4) lt_w4_w5)) (ninS (Nat.ne_of_lt (Nat.lt_trans (Nat.lt_trans (Nat.lt_trans (Nat.lt_trans (Nat.lt_trans (Nat.lt_trans lt_b0_w0 lt_w0_w1) lt_w1_w2) lt_w2_w3) lt_w3_w4) lt_w4_w5) lt_w5_w7)) (ninS (Nat.ne_of_lt (Nat.lt_trans (Nat.lt_trans (Nat.lt_trans (Nat.lt_trans (Nat.lt_trans (Nat.lt_trans (Nat.lt_trans lt_b0_w0 lt_w0_w1) lt_w1_w2) lt_w2_w3) lt_w3_w4) lt_w4_w5) lt_w5_w7) lt_w7_w8)) nin0))))
  have F221 := F184.keep Kc195 (ninS (Nat.ne_of_lt (Nat.lt_trans (Nat.lt_trans (Nat.lt_trans (Nat.lt_trans lt_b0_w0 lt_w0_w1) lt_w1_w2) lt_w2_w3) lt_w3_w4)) (ninS (Nat.ne_of_lt (Nat.lt_trans (Nat.lt_trans (Nat.lt_trans (Nat.lt_trans (Nat.lt_trans lt_b0_w0 lt_w0_w1) lt_w1_w2) lt_w2_w3) lt_w3_w4) lt_w4_w5)) (ninS (Nat.ne_of_lt (Nat.lt_trans (Nat.lt_trans (Nat.lt_trans (Nat.lt_trans (Nat.lt_trans (Nat.lt_trans lt_b0_w0 lt_w0_w1) lt_w1_w2) lt_w2_w3) lt_w3_w4) lt_w4_w5) lt_w5_w7)) (ninS (Nat.ne_of_lt (Nat.lt_trans (Nat.lt_trans (Nat.lt_trans (Nat.lt_trans (Nat.lt_trans (Nat.lt_trans (Nat.lt_trans lt_b0_w0 lt_w0_w1) lt_w1_w2) lt_w2_w3) lt_w3_w4) lt_w4_w5) lt_w5_w7) lt_w7_w8)) nin0))))
  have F222 := F185.keep Kc195 (ninS (Nat.ne_of_lt (Nat.lt_trans (Nat.lt_trans (Nat.lt_trans (Nat.lt_trans lt_b0_w0 lt_w0_w1) lt_w1_w2) lt_w2_w3) lt_w3_w4)) (ninS (Nat.ne_of_lt (Nat.lt_trans (Nat.lt_trans (Nat.lt_trans (Nat.lt_trans (Nat.lt_trans lt_b0_w0 lt_w0_w1) lt_w1_w2) lt_w2_w3) lt_w3_w4) lt_w4_w5)) (ninS (Nat.ne_of_lt (Nat.lt_trans (Nat.lt_trans (Nat.lt_trans (Nat.lt_trans (Nat.lt_trans (Nat.lt_trans lt_b0_w0 lt_w0_w1) lt_w1_w2) lt_w2_w3) lt_w3_w4) lt_w4_w5) lt_w5_w7)) (ninS (Nat.ne_of_lt (Nat.lt_trans (Nat.lt_trans (Nat.lt_trans (Nat.lt_trans (Nat.lt_trans (Nat.lt_trans (Nat.lt_trans lt_b0_w0 lt_w0_w1) lt_w1_w2) lt_w2_w3) lt_w3_w4) lt_w4_w5) lt_w5_w7) lt_w7_w8)) nin0))))
  have F223 := F186.keep Kc195 (ninS (Nat.ne_of_lt (Nat.lt_trans (Nat.lt_trans (Nat.lt_trans (Nat.lt_trans lt_b0_w0 lt_w0_w1) lt_w1_w2) lt_w2_w3) lt_w3_w4)) (ninS (Nat.ne_of_lt (Nat.lt_trans (Nat.lt_trans (Nat.lt_trans (Nat.lt_trans (Nat.lt_trans lt_b0_w0 lt_w0_w1) lt_w1_w2) lt_w2_w3) lt_w3_w4) lt_w4_w5)) (ninS (Nat.ne_of_lt (Nat.lt_trans (Nat.lt_trans (Nat.lt_trans (Nat.lt_trans (Nat.lt_trans (Nat.lt_trans lt_b0_w0 lt_w0_w1) lt_w1_w2) lt_w2_w3) lt_w3_w4) lt_w4_w5) lt_w5_w7)) (ninS (Nat.ne_of_lt (Nat.lt_trans (Nat.lt_trans (Nat.lt_trans (Nat.lt_trans (Nat.lt_trans (Nat.lt_trans (Nat.lt_trans lt_b0_w0 lt_w0_w1) lt_w1_w2) lt_w2_w3) lt_w3_w4) lt_w4_w5) lt_w5_w7) lt_w7_w8)) nin0))))
  have Zs224 := Nat.le_trans Zs187 Kc195.1
  have Kp225 : Keep h0 T190.heap [b0, w0, w1, w2, w3, w4, w5, w7, w8, w9] := Keep.trans Kp188 Kc195 (allS (Or.inl (List.mem_of_getElem? (i := 5) rfl)) (allS (Or.inl (List.mem_of_getElem? (i := 6) rfl)) (allS (Or.inl (List.mem_of_getElem? (i := 7) rfl)) (allS (Or.inl (List.mem_of_getElem? (i := 8) rfl)) all0))))
  have N226 := Fr.app N162 Nq194
  show Goes _ _ _ _ _ _ 77 _ []
  refine g_aloadN 78 rfl C X192 d4_77 rfl rfl ?_
  refine g_getF 81 rfl C X192 (host := "") (Or.inl (hw _ (List.mem_of_getElem? (i := 28) rfl))) Via.refl rfl F216 d4_78 fun T227 X228 e229 => ?_
  refine g_iloadN 82 rfl C X228 d4_81 rfl ?_
  refine g_dup2 83 rfl C X228 d4_82 rfl rfl ?_
  refine g_iaload 84 rfl C X228 e229 F217 (nb) hnb (by omega) (f_exitCount nb) rfl d4_83 ?_
  refine g_iconst 85 rfl C X228 (1 : Int32) d4_84 rfl ?_
  refine g_iadd 86 rfl C X228 d4_85 ?_
  obtain ⟨w230, hw230⟩ : ∃ z : Int32, ((f_exitCount nb) + (1 : Int32)) = z := ⟨_, rfl⟩
  refine g_iastore 87 rfl C X228 e229 F217 (nb) hnb (by omega) w230 hw230 d4_86 N226 g_w9 fun T231 h232 ls233 X234 e235 W236 B237 N238 => ?_
  have F239 := F203.wr W236
  have F240 := F204.other W236 (Or.inl (Nat.ne_of_lt (Nat.lt_trans (Nat.lt_trans (Nat.lt_trans (Nat.lt_trans (Nat.lt_trans (Nat.lt_trans (Nat.lt_trans (Nat.lt_trans lt_b0_w0 lt_w0_w1) lt_w1_w2) lt_w2_w3) lt_w3_w4) lt_w4_w5) lt_w5_w7) lt_w7_w8) lt_w8_w9)))
  have F241 := F205.other W236 (Nat.ne_of_lt (Nat.lt_trans (Nat.lt_trans (Nat.lt_trans (Nat.lt_trans (Nat.lt_trans (Nat.lt_trans (Nat.lt_trans lt_w0_w1 lt_w1_w2) lt_w2_w3) lt_w3_w4) lt_w4_w5) lt_w5_w7) lt_w7_w8) lt_w8_w9))
  have F242 := F206.other W236 (Or.inl (Nat.ne_of_lt (Nat.lt_trans (Nat.lt_trans (Nat.lt_trans (Nat.lt_trans (Nat.lt_trans (Nat.lt_trans (Nat.lt_trans (Nat.lt_trans lt_b0_w0 lt_w0_w1) lt_w1_w2) lt_w2_w3) lt_w3_w4) lt_w4_w5) lt_w5_w7) lt_w7_w8) lt_w8_w9)))
  have F243 := F207.other W236 (Nat.ne_of_lt (Nat.lt_trans (Nat.lt_trans (Nat.lt_trans (Nat.lt_trans (Nat.lt_trans (Nat.lt_trans lt_w1_w2 lt_w2_w3) lt_w3_w4) lt_w4_w5) lt_w5_w7) lt_w7_w8) lt_w8_w9))
  have F244 := F208.other W236 (Or.inl (Nat.ne_of_lt (Nat.lt_trans (Nat.lt_trans (Nat.lt_trans (Nat.lt_trans (Nat.lt_trans (Nat.lt_trans (Nat.lt_trans (Nat.lt_trans lt_b0_w0 lt_w0_w1) lt_w1_w2) lt_w2_w3) lt_w3_w4) lt_w4_w5) lt_w5_w7) lt_w7_w8) lt_w8_w9)))
  have F245 := F209.other W236 (Nat.ne_of_lt (Nat.lt_trans (Nat.lt_trans (Nat.lt_trans (Nat.lt_trans (Nat.lt_trans lt_w2_w3 lt_w3_w4) lt_w4_w5) lt_w5_w7) lt_w7_w8) lt_w8_w9))
  have F246 := F210.other W236 (Or.inl (Nat.ne_of_lt (Nat.lt_trans (Nat.lt_trans (Nat.lt_trans (Nat.lt_trans (Nat.lt_trans (Nat.lt_trans (Nat.lt_trans (Nat.lt_trans lt_b0_w0 lt_w0_w1) lt_w1_w2) lt_w2_w3) lt_w3_w4) lt_w4_w5) lt_w5_w7) lt_w7_w8) lt_w8_w9)))
  have F247 := F211.other W236 (Nat.ne_of_lt (Nat.lt_trans (Nat.lt_trans (Nat.lt_trans (Nat.lt_trans lt_w3_w4 lt_w4_w5) lt_w5_w7) lt_w7_w8) lt_w8_w9))
  have F248 := F212.other W236 (Or.inl (Nat.ne_of_lt (Nat.lt_trans (Nat.lt_trans (Nat.lt_trans (Nat.lt_trans (Nat.lt_trans (Nat.lt_trans (Nat.lt_trans (Nat.lt_trans lt_b0_w0 lt_w0_w1) lt_w1_w2) lt_w2_w3) lt_w3_w4) lt_w4_w5) lt_w5_w7) lt_w7_w8) lt_w8_w9)))
  have F249 := F213.other W236 (Or.inl (Nat.ne_of_lt (Nat.lt_trans (Nat.lt_trans (Nat.lt_trans (Nat.lt_trans (Nat.lt_trans (Nat.lt_trans (Nat.lt_trans (Nat.lt_trans lt_b0_w0 lt_w0_w1) lt_w1_w2) lt_w2_w3) lt_w3_w4) lt_w4_w5) lt_w5_w7) lt_w7_w8) lt_w8_w9)))
  have F250 := F214.other W236 (Or.inl (Nat.ne_of_lt (Nat.lt_trans (Nat.lt_trans (Nat.lt_trans (Nat.lt_trans (Nat.lt_trans (Nat.lt_trans (Nat.lt_trans (Nat.lt_trans lt_b0_w0 lt_w0_w1) lt_w1_w2) lt_w2_w3) lt_w3_w4) lt_w4_w5) lt_w5_w7) lt_w7_w8) lt_w8_w9)))
  have F251 := F215.other W236 (Or.inl (Nat.ne_of_lt (Nat.lt_trans (Nat.lt_trans (Nat.lt_trans (Nat.lt_trans (Nat.lt_trans (Nat.lt_trans (Nat.lt_trans (Nat.lt_trans lt_b0_w0 lt_w0_w1) lt_w1_w2) lt_w2_w3) lt_w3_w4) lt_w4_w5) lt_w5_w7) lt_w7_w8) lt_w8_w9)))
  have F252 := F216.other W236 (Or.inl (Nat.ne_of_lt (Nat.lt_trans (Nat.lt_trans (Nat.lt_trans (Nat.lt_trans (Nat.lt_trans (Nat.lt_trans (Nat.lt_trans (Nat.lt_trans lt_b0_w0 lt_w0_w1) lt_w1_w2) lt_w2_w3) lt_w3_w4) lt_w4_w5) lt_w5_w7) lt_w7_w8) lt_w8_w9)))
  have F253 := F218.other W236 (Or.inl (Nat.ne_of_lt (Nat.lt_trans (Nat.lt_trans (Nat.lt_trans (Nat.lt_trans (Nat.lt_trans (Nat.lt_trans (Nat.lt_trans (Nat.lt_trans lt_b0_w0 lt_w0_w1) lt_w1_w2) lt_w2_w3) lt_w3_w4) lt_w4_w5) lt_w5_w7) lt_w7_w8) lt_w8_w9)))
  have F254 := F219.other W236 (Or.inl (Nat.ne_of_lt (Nat.lt_trans (Nat.lt_trans (Nat.lt_trans (Nat.lt_trans (Nat.lt_trans (Nat.lt_trans (Nat.lt_trans (Nat.lt_trans lt_b0_w0 lt_w0_w1) lt_w1_w2) lt_w2_w3) lt_w3_w4) lt_w4_w5) lt_w5_w7) lt_w7_w8) lt_w8_w9)))
  have F255 := F220.other W236 (Or.inl (Nat.ne_of_lt (Nat.lt_trans (Nat.lt_trans (Nat.lt_trans (Nat.lt_trans (Nat.lt_trans (Nat.lt_trans (Nat.lt_trans (Nat.lt_trans lt_b0_w0 lt_w0_w1) lt_w1_w2) lt_w2_w3) lt_w3_w4) lt_w4_w5) lt_w5_w7) lt_w7_w8) lt_w8_w9)))
  have F256 := F221.other W236 (Or.inl (Nat.ne_of_lt (Nat.lt_trans (Nat.lt_trans (Nat.lt_trans (Nat.lt_trans (Nat.lt_trans (Nat.lt_trans (Nat.lt_trans (Nat.lt_trans lt_b0_w0 lt_w0_w1) lt_w1_w2) lt_w2_w3) lt_w3_w4) lt_w4_w5) lt_w5_w7) lt_w7_w8) lt_w8_w9)))
  have F257 := F222.other W236 (Or.inl (Nat.ne_of_lt (Nat.lt_trans (Nat.lt_trans (Nat.lt_trans (Nat.lt_trans (Nat.lt_trans (Nat.lt_trans (Nat.lt_trans (Nat.lt_trans lt_b0_w0 lt_w0_w1) lt_w1_w2) lt_w2_w3) lt_w3_w4) lt_w4_w5) lt_w5_w7) lt_w7_w8) lt_w8_w9)))
  have F258 := F223.other W236 (Or.inl (Nat.ne_of_lt (Nat.lt_trans (Nat.lt_trans (Nat.lt_trans (Nat.lt_trans (Nat.lt_trans (Nat.lt_trans (Nat.lt_trans (Nat.lt_trans lt_b0_w0 lt_w0_w1) lt_w1_w2) lt_w2_w3) lt_w3_w4) lt_w4_w5) lt_w5_w7) lt_w7_w8) lt_w8_w9)))
  have F259 := B197.other W236 (Nat.ne_of_lt (Nat.lt_trans (Nat.lt_trans (Nat.lt_trans lt_w4_w5 lt_w5_w7) lt_w7_w8) lt_w8_w9))
  have F260 := B199.other W236 (Nat.ne_of_lt (Nat.lt_trans (Nat.lt_trans lt_w5_w7 lt_w7_w8) lt_w8_w9))
  have F261 := B201.other W236 (Nat.ne_of_lt (Nat.lt_trans lt_w7_w8 lt_w8_w9))
  have F262 := B202.other W236 (Nat.ne_of_lt lt_w8_w9)
  have Zs263 := Nat.le_trans Zs224 (Nat.le_of_eq W236.size.symm)
  have Kp264 : Keep h0 h232 [b0, w0, w1, w2, w3, w4, w5, w7, w8, w9] := Kp225.wr W236 (Or.inl (List.mem_of_getElem? (i := 9) rfl))
  refine g_iload 89 rfl C X234 d4_87 rfl ?_
  exact g_retI C X234 rfl d4_89 e235 (by decide) (by decide) ⟨rfl, N238, Kp264, F239, F240, F242, F244, F246, F248, F249, F253, F250, F251, F252, F254, F255, F256, F257, F258, ⟨_, F241⟩, ⟨_, F243⟩, ⟨_, F245⟩, ⟨_, F259⟩, ⟨_, F260⟩, ⟨_, F261⟩, ⟨_, B237⟩, F247, F262⟩
theorem d6_0 : decode prog_51_method_3_code 0 = .ok (.aload_n 0, 1) := by decide +kernel
theorem d6_1 : decode prog_51_method_3_code 1 = .ok (.getfield 19, 3) := by decide +kernel
theorem d6_4 : decode prog_51_method_3_code 4 = .ok (.iload_n 1, 1) := by decide +kernel
theorem d6_5 : decode prog_51_method_3_code 5 = .ok (.iaload, 1) := by decide +kernel
theorem d6_6 : decode prog_51_method_3_code 6 = .ok (.istore_n 3, 1) := by decide +kernel
theorem d6_7 : decode prog_51_method_3_code 7 = .ok (.aload_n 0, 1) := by decide +kernel
theorem d6_8 : decode prog_51_method_3_code 8 = .ok (.getfield 46, 3) := by decide +kernel
theorem d6_11 : decode prog_51_method_3_code 11 = .ok (.iload_n 2, 1) := by decide +kernel
theorem d6_12 : decode prog_51_method_3_code 12 = .ok (.iload_n 1, 1) := by decide +kernel
theorem d6_13 : decode prog_51_method_3_code 13 = .ok (.iastore, 1) := by decide +kernel
theorem d6_14 : decode prog_51_method_3_code 14 = .ok (.aload_n 0, 1) := by decide +kernel
theorem d6_15 : decode prog_51_method_3_code 15 = .ok (.getfield 49, 3) := by decide +kernel
theorem d6_18 : decode prog_51_method_3_code 18 = .ok (.iload_n 2, 1) := by decide +kernel
theorem d6_19 : decode prog_51_method_3_code 19 = .ok (.iload_n 3, 1) := by decide +kernel
theorem d6_20 : decode prog_51_method_3_code 20 = .ok (.iastore, 1) := by decide +kernel
theorem d6_21 : decode prog_51_method_3_code 21 = .ok (.aload_n 0, 1) := by decide +kernel
theorem d6_22 : decode prog_51_method_3_code 22 = .ok (.getfield 52, 3) := by decide +kernel
theorem d6_25 : decode prog_51_method_3_code 25 = .ok (.iload_n 2, 1) := by decide +kernel
theorem d6_26 : decode prog_51_method_3_code 26 = .ok (.iconst (-1), 1) := by decide +kernel
theorem d6_27 : decode prog_51_method_3_code 27 = .ok (.iastore, 1) := by decide +kernel
theorem d6_28 : decode prog_51_method_3_code 28 = .ok (.iload_n 3, 1) := by decide +kernel
theorem d6_29 : decode prog_51_method_3_code 29 = .ok (.iconst (-1), 1) := by decide +kernel
theorem d6_30 : decode prog_51_method_3_code 30 = .ok (.if_icmp .eq 10, 3) := by decide +kernel
theorem d6_40 : decode prog_51_method_3_code 40 = .ok (.aload_n 0, 1) := by decide +kernel
theorem d6_41 : decode prog_51_method_3_code 41 = .ok (.getfield 19, 3) := by decide +kernel
theorem d6_44 : decode prog_51_method_3_code 44 = .ok (.iload_n 1, 1) := by decide +kernel
theorem d6_45 : decode prog_51_method_3_code 45 = .ok (.iload_n 2, 1) := by decide +kernel
theorem d6_46 : decode prog_51_method_3_code 46 = .ok (.iastore, 1) := by decide +kernel
theorem d6_47 : decode prog_51_method_3_code 47 = .ok (.return_, 1) := by decide +kernel
theorem ef_6_0_0 (m : MethodId) (b0 : Addr) (p2 : Int32) : entryFrame m #[(.ref b0), (.int (0 : Int32)), (.int p2)] 4 = mkF m 0 #[.val (.ref b0), .val (.int (0 : Int32)), .val (.int p2), .unset] [] := by first | (simp [entryFrame, mkF, argsToLocals, Value.category]; done) | rfl
def Q6_0_0 (Z : State) (b0 : Addr) (p2 : Int32) (w3 : Addr) (f_firstMember : Nat → Int32) (w10 : Addr) (f_exitOfCounter : Nat → Int32) (w11 : Addr) (f_nextMember : Nat → Int32) (w12 : Addr) (f_previousMember : Nat → Int32) (i : Nat) (h0 : Heap) (n0 : Nat) (v : Option Value) (h : Heap) (L : List Loc) : Prop := v = none ∧ Fr n0 L ∧ Keep h0 h [w3, w10, w11, w12] ∧ Ba Z h w3 .int 4 (upd f_firstMember 0 p2) ∧ Ba Z h w10 .int 4 (upd f_exitOfCounter i (0 : Int32)) ∧ Ba Z h w11 .int 4 (upd f_nextMember i (-1 : Int32)) ∧ Ba Z h w12 .int 4 (upd f_previousMember i (-1 : Int32))
set_option maxRecDepth 65536 in
set_option maxHeartbeats 40000000 in
theorem rm6_0_0 (l : Launch) (Z : State) (a0 : Array Value) (hw : ∀ d ∈ tables_1, d.before a0 Z = true) (ws : List Jvm.Cond) (b0 : Addr) (p2 : Int32) (w3 : Addr) (f_firstMember : Nat → Int32) (w10 : Addr) (f_exitOfCounter : Nat → Int32) (w11 : Addr) (f_nextMember : Nat → Int32) (w12 : Addr) (f_previousMember : Nat → Int32) (i : Nat) (h0 : Heap) (n0 : Nat) (Z0 : n0 ≤ h0.size) (E_b0 : Exa Z h0 b0 "com/example/bisimulation/bisimulation/lts/Exits") (F_firstMember : Fld Z h0 b0 "com/example/bisimulation/bisimulation/lts/Exits" "firstMember" "[I" (.ref w3)) (B_firstMember : Ba Z h0 w3 .int 4 f_firstMember) (F_exitOfCounter : Fld Z h0 b0 "com/example/bisimulation/bisimulation/lts/Exits" "exitOfCounter" "[I" (.ref w10)) (B_exitOfCounter : Ba Z h0 w10 .int 4 f_exitOfCounter) (F_nextMember : Fld Z h0 b0 "com/example/bisimulation/bisimulation/lts/Exits" "nextMember" "[I" (.ref w11)) (B_nextMember : Ba Z h0 w11 .int 4 f_nextMember) (F_previousMember : Fld Z h0 b0 "com/example/bisimulation/bisimulation/lts/Exits" "previousMember" "[I" (.ref w12)) (B_previousMember : Ba Z h0 w12 .int 4 f_previousMember) (lt_b0_w3 : b0 < w3) (lt_w3_w10 : w3 < w10) (lt_w10_w11 : w10 < w11) (lt_w11_w12 : w11 < w12) (g_b0 : n0 ≤ b0) (hi : p2.toInt = i) (hi4 : i < 4) (hx : f_firstMember 0 = (-1 : Int32)) :
    MetFree l (⟨"com/example/bisimulation/bisimulation/lts/Exits", "join", "(II)V"⟩ : MethodName) (head1 (Jvm.Cond.code (⟨"com/example/bisimulation/bisimulation/lts/Exits", "join", "(II)V"⟩ : MethodName) prog_51_method_3_code 4 none :: ws) ({ frames := 0, cells := 0, slots := 0, locals := 0 } : Room)) (fun a U => a = #[(.ref b0), (.int (0 : Int32)), (.int p2)] ∧ Z.Warmed39 U.vm ∧ U.heap = h0) (fun _ _ _ _ _ => True) (fun _ U o U' => ∃ v L, o = .returned v ∧ Q6_0_0 Z b0 p2 w3 f_firstMember w10 f_exitOfCounter w11 f_nextMember w12 f_previousMember i h0 n0 v U'.heap L ∧ FrameEnd U o U' L ({ frames := 0, cells := 0, slots := 0, locals := 0 } : Room).cells ({ frames := 0, cells := 0, slots := 0, locals := 0 } : Room).slots) := by
  refine MetFree.of_bodySF (plainFor_of_name pn_90945715) hisR ?_
  intro p e s m args below meth c s₁ Bd hml0 hP hK
  obtain ⟨rfl, hZ, hh⟩ := hP
  have C : Ctx p s m meth c Z "com/example/bisimulation/bisimulation/lts/Exits" "join" prog_51_method_3_code 4 none := Ctx.of Bd hml0 hZ
  have X0 : Stand p l e ({ frames := 0, cells := 0, slots := 0, locals := 0 } : Room) s m #[(.ref b0), (.int (0 : Int32)), (.int p2)] below meth c s₁ [] 0 0 := Stand.of_body Bd
  have e0 : s₁.heap = h0 := by rw [← hh, Bd.state]; rfl
  have N0 := Fr.nil n0
  refine Goes.enter (ef_6_0_0 m b0 p2) ?_
  clear hK hml0 hh
  have g_w3 : n0 ≤ w3 := Nat.le_trans g_b0 (Nat.le_of_lt lt_b0_w3)
  have g_w10 : n0 ≤ w10 := Nat.le_trans g_b0 (Nat.le_of_lt (Nat.lt_trans lt_b0_w3 lt_w3_w10))
  have g_w11 : n0 ≤ w11 := Nat.le_trans g_b0 (Nat.le_of_lt (Nat.lt_trans (Nat.lt_trans lt_b0_w3 lt_w3_w10) lt_w10_w11))
  have g_w12 : n0 ≤ w12 := Nat.le_trans g_b0 (Nat.le_of_lt (Nat.lt_trans (Nat.lt_trans (Nat.lt_trans lt_b0_w3 lt_w3_w10) lt_w10_w11) lt_w11_w12))
  refine g_aloadN 1 rfl C X0 d6_0 rfl rfl ?_
  refine g_getF 4 rfl C X0 (host := "") (Or.inl (hw _ (List.mem_of_getElem? (i := 16) rfl))) Via.refl e0 F_firstMember d6_1 fun T1 X2 e3 => ?_
  refine g_iloadN 5 rfl C X2 d6_4 rfl ?_
  refine g_iaload 6 rfl C X2 e3 B_firstMember 0 (by decide) (by decide) (-1 : Int32) hx d6_5 ?_
  refine g_istoreN 7 rfl C X2 (-1 : Int32) rfl #[.val (.ref b0), .val (.int (0 : Int32)), .val (.int p2), .val (.int (-1 : Int32))] d6_6 rfl ?_
  refine g_aloadN 8 rfl C X2 d6_7 rfl rfl ?_
  refine g_getF 11 rfl C X2 (host := "") (Or.inl (hw _ (List.mem_of_getElem? (i := 34) rfl))) Via.refl e3 F_exitOfCounter d6_8 fun T4 X5 e6 => ?_
  refine g_iloadN 12 rfl C X5 d6_11 rfl ?_
  refine g_iloadN 13 rfl C X5 d6_12 rfl ?_
  refine g_iastore 14 rfl C X5 e6 B_exitOfCounter (i) hi (by omega) (0 : Int32) rfl d6_13 N0 g_w10 fun T7 h8 ls9 X10 e11 W12 B13 N14 => ?_
  have F15 := E_b0.wr W12
  have F16 := F_firstMember.other W12 (Or.inl (Nat.ne_of_lt (Nat.lt_trans lt_b0_w3 lt_w3_w10)))
  have F17 := B_firstMember.other W12 (Nat.ne_of_lt lt_w3_w10)
  have F18 := F_exitOfCounter.other W12 (Or.inl (Nat.ne_of_lt (Nat.lt_trans lt_b0_w3 lt_w3_w10)))
  have F19 := F_nextMember.other W12 (Or.inl (Nat.ne_of_lt (Nat.lt_trans lt_b0_w3 lt_w3_w10)))
  have F20 := B_nextMember.other W12 (Nat.ne_of_gt lt_w10_w11)
  have F21 := F_previousMember.other W12 (Or.inl (Nat.ne_of_lt (Nat.lt_trans lt_b0_w3 lt_w3_w10)))
  have F22 := B_previousMember.other W12 (Nat.ne_of_gt (Nat.lt_trans lt_w10_w11 lt_w11_w12))
  have Zs23 := Nat.le_trans Z0 (Nat.le_of_eq W12.size.symm)
  have Kp24 : Keep h0 h8 [w3, w10, w11, w12] := (Keep.refl h0 [w3, w10, w11, w12]).wr W12 (Or.inl (List.mem_of_getElem? (i := 1) rfl))
  refine g_aloadN 15 rfl C X10 d6_14 rfl rfl ?_
  refine g_getF 18 rfl C X10 (host := "") (Or.inl (hw _ (List.mem_of_getElem? (i := 36) rfl))) Via.refl e11 F19 d6_15 fun T25 X26 e27 => ?_
  refine g_iloadN 19 rfl C X26 d6_18 rfl ?_
  refine g_iloadN 20 rfl C X26 d6_19 rfl ?_
  refine g_iastore 21 rfl C X26 e27 F20 (i) hi (by omega) (-1 : Int32) rfl d6_20 N14 g_w11 fun T28 h29 ls30 X31 e32 W33 B34 N35 => ?_
  have F36 := F15.wr W33
  have F37 := F16.other W33 (Or.inl (Nat.ne_of_lt (Nat.lt_trans (Nat.lt_trans lt_b0_w3 lt_w3_w10) lt_w10_w11)))
  have F38 := F17.other W33 (Nat.ne_of_lt (Nat.lt_trans lt_w3_w10 lt_w10_w11))
  have F39 := F18.other W33 (Or.inl (Nat.ne_of_lt (Nat.lt_trans (Nat.lt_trans lt_b0_w3 lt_w3_w10) lt_w10_w11)))
  have F40 := B13.other W33 (Nat.ne_of_lt lt_w10_w11)
  have F41 := F19.other W33 (Or.inl (Nat.ne_of_lt (Nat.lt_trans (Nat.lt_trans lt_b0_w3 lt_w3_w10) lt_w10_w11)))
  have F42 := F21.other W33 (Or.inl (Nat.ne_of_lt (Nat.lt_trans (Nat.lt_trans lt_b0_w3 lt_w3_w10) lt_w10_w11)))
  have F43 := F22.other W33 (Nat.ne_of_gt lt_w11_w12)
  have Zs44 := Nat.le_trans Zs23 (Nat.le_of_eq W33.size.symm)
  have Kp45 : Keep h0 h29 [w3, w10, w11, w12] := Kp24.wr W33 (Or.inl (List.mem_of_getElem? (i := 2) rfl))
  refine g_aloadN 22 rfl C X31 d6_21 rfl rfl ?_
  refine g_getF 25 rfl C X31 (host := "") (Or.inl (hw _ (List.mem_of_getElem? (i := 38) rfl))) Via.refl e32 F42 d6_22 fun T46 X47 e48 => ?_
  refine g_iloadN 26 rfl C X47 d6_25 rfl ?_
  refine g_iconst 27 rfl C X47 (-1 : Int32) d6_26 rfl ?_
  refine g_iastore 28 rfl C X47 e48 F43 (i) hi (by omega) (-1 : Int32) rfl d6_27 N35 g_w12 fun T49 h50 ls51 X52 e53 W54 B55 N56 => ?_
  have F57 := F36.wr W54
  have F58 := F37.other W54 (Or.inl (Nat.ne_of_lt (Nat.lt_trans (Nat.lt_trans (Nat.lt_trans lt_b0_w3 lt_w3_w10) lt_w10_w11) lt_w11_w12)))
  have F59 := F38.other W54 (Nat.ne_of_lt (Nat.lt_trans (Nat.lt_trans lt_w3_w10 lt_w10_w11) lt_w11_w12))
  have F60 := F39.other W54 (Or.inl (Nat.ne_of_lt (Nat.lt_trans (Nat.lt_trans (Nat.lt_trans lt_b0_w3 lt_w3_w10) lt_w10_w11) lt_w11_w12)))
  have F61 := F40.other W54 (Nat.ne_of_lt (Nat.lt_trans lt_w10_w11 lt_w11_w12))
  have F62 := F41.other W54 (Or.inl (Nat.ne_of_lt (Nat.lt_trans (Nat.lt_trans (Nat.lt_trans lt_b0_w3 lt_w3_w10) lt_w10_w11) lt_w11_w12)))
  have F63 := B34.other W54 (Nat.ne_of_lt lt_w11_w12)
  have F64 := F42.other W54 (Or.inl (Nat.ne_of_lt (Nat.lt_trans (Nat.lt_trans (Nat.lt_trans lt_b0_w3 lt_w3_w10) lt_w10_w11) lt_w11_w12)))
  have Zs65 := Nat.le_trans Zs44 (Nat.le_of_eq W54.size.symm)
  have Kp66 : Keep h0 h50 [w3, w10, w11, w12] := Kp45.wr W54 (Or.inl (List.mem_of_getElem? (i := 3) rfl))
  refine g_iloadN 29 rfl C X52 d6_28 rfl ?_
  refine g_iconst 30 rfl C X52 (-1 : Int32) d6_29 rfl ?_
  refine g_icmp_eq_t 40 C X52 d6_30 (by decide) (by decide) (by decide) ?_
  refine g_aloadN 41 rfl C X52 d6_40 rfl rfl ?_
  refine g_getF 44 rfl C X52 (host := "") (Or.inl (hw _ (List.mem_of_getElem? (i := 16) rfl))) Via.refl e53 F58 d6_41 fun T67 X68 e69 => ?_
  refine g_iloadN 45 rfl C X68 d6_44 rfl ?_
  refine g_iloadN 46 rfl C X68 d6_45 rfl ?_
  refine g_iastore 47 rfl C X68 e69 F59 0 (by decide) (by decide) p2 rfl d6_46 N56 g_w3 fun T70 h71 ls72 X73 e74 W75 B76 N77 => ?_
  have F78 := F57.wr W75
  have F79 := F58.other W75 (Or.inl (Nat.ne_of_lt lt_b0_w3))
  have F80 := F60.other W75 (Or.inl (Nat.ne_of_lt lt_b0_w3))
  have F81 := F61.other W75 (Nat.ne_of_gt lt_w3_w10)
  have F82 := F62.other W75 (Or.inl (Nat.ne_of_lt lt_b0_w3))
  have F83 := F63.other W75 (Nat.ne_of_gt (Nat.lt_trans lt_w3_w10 lt_w10_w11))
  have F84 := F64.other W75 (Or.inl (Nat.ne_of_lt lt_b0_w3))
  have F85 := B55.other W75 (Nat.ne_of_gt (Nat.lt_trans (Nat.lt_trans lt_w3_w10 lt_w10_w11) lt_w11_w12))
  have Zs86 := Nat.le_trans Zs65 (Nat.le_of_eq W75.size.symm)
  have Kp87 : Keep h0 h71 [w3, w10, w11, w12] := Kp66.wr W75 (Or.inl (List.mem_of_getElem? (i := 0) rfl))
  exact g_retV C X73 rfl d6_47 e74 (by decide) (by decide) ⟨rfl, N77, Kp87, B76, F81, F83, F85⟩
theorem d6_33 : decode prog_51_method_3_code 33 = .ok (.aload_n 0, 1) := by decide +kernel
theorem d6_34 : decode prog_51_method_3_code 34 = .ok (.getfield 52, 3) := by decide +kernel
theorem d6_37 : decode prog_51_method_3_code 37 = .ok (.iload_n 3, 1) := by decide +kernel
theorem d6_38 : decode prog_51_method_3_code 38 = .ok (.iload_n 2, 1) := by decide +kernel
theorem d6_39 : decode prog_51_method_3_code 39 = .ok (.iastore, 1) := by decide +kernel
theorem ef_6_0_1 (m : MethodId) (b0 : Addr) (p2 : Int32) : entryFrame m #[(.ref b0), (.int (0 : Int32)), (.int p2)] 4 = mkF m 0 #[.val (.ref b0), .val (.int (0 : Int32)), .val (.int p2), .unset] [] := by first | (simp [entryFrame, mkF, argsToLocals, Value.category]; done) | rfl
def Q6_0_1 (Z : State) (b0 : Addr) (p2 : Int32) (w3 : Addr) (f_firstMember : Nat → Int32) (w10 : Addr) (f_exitOfCounter : Nat → Int32) (w11 : Addr) (f_nextMember : Nat → Int32) (w12 : Addr) (f_previousMember : Nat → Int32) (i : Nat) (x : Int32) (j : Nat) (h0 : Heap) (n0 : Nat) (v : Option Value) (h : Heap) (L : List Loc) : Prop := v = none ∧ Fr n0 L ∧ Keep h0 h [w3, w10, w11, w12] ∧ Ba Z h w3 .int 4 (upd f_firstMember 0 p2) ∧ Ba Z h w10 .int 4 (upd f_exitOfCounter i (0 : Int32)) ∧ Ba Z h w11 .int 4 (upd f_nextMember i x) ∧ Ba Z h w12 .int 4 (upd (upd f_previousMember i (-1 : Int32)) j p2)
set_option maxRecDepth 65536 in
set_option maxHeartbeats 40000000 in
theorem rm6_0_1 (l : Launch) (Z : State) (a0 : Array Value) (hw : ∀ d ∈ tables_1, d.before a0 Z = true) (ws : List Jvm.Cond) (b0 : Addr) (p2 : Int32) (w3 : Addr) (f_firstMember : Nat → Int32) (w10 : Addr) (f_exitOfCounter : Nat → Int32) (w11 : Addr) (f_nextMember : Nat → Int32) (w12 : Addr) (f_previousMember : Nat → Int32) (i : Nat) (x : Int32) (j : Nat) (h0 : Heap) (n0 : Nat) (Z0 : n0 ≤ h0.size) (E_b0 : Exa Z h0 b0 "com/example/bisimulation/bisimulation/lts/Exits") (F_firstMember : Fld Z h0 b0 "com/example/bisimulation/bisimulation/lts/Exits" "firstMember" "[I" (.ref w3)) (B_firstMember : Ba Z h0 w3 .int 4 f_firstMember) (F_exitOfCounter : Fld Z h0 b0 "com/example/bisimulation/bisimulation/lts/Exits" "exitOfCounter" "[I" (.ref w10)) (B_exitOfCounter : Ba Z h0 w10 .int 4 f_exitOfCounter) (F_nextMember : Fld Z h0 b0 "com/example/bisimulation/bisimulation/lts/Exits" "nextMember" "[I" (.ref w11)) (B_nextMember : Ba Z h0 w11 .int 4 f_nextMember) (F_previousMember : Fld Z h0 b0 "com/example/bisimulation/bisimulation/lts/Exits" "previousMember" "[I" (.ref w12)) (B_previousMember : Ba Z h0 w12 .int 4 f_previousMember) (lt_b0_w3 : b0 < w3) (lt_w3_w10 : w3 < w10) (lt_w10_w11 : w10 < w11) (lt_w11_w12 : w11 < w12) (g_b0 : n0 ≤ b0) (hi : p2.toInt = i) (hi4 : i < 4) (hx : f_firstMember 0 = x) (hj : x.toInt = j) (hj4 : j < 4) :
    MetFree l (⟨"com/example/bisimulation/bisimulation/lts/Exits", "join", "(II)V"⟩ : MethodName) (head1 (Jvm.Cond.code (⟨"com/example/bisimulation/bisimulation/lts/Exits", "join", "(II)V"⟩ : MethodName) prog_51_method_3_code 4 none :: ws) ({ frames := 0, cells := 0, slots := 0, locals := 0 } : Room)) (fun a U => a = #[(.ref b0), (.int (0 : Int32)), (.int p2)] ∧ Z.Warmed39 U.vm ∧ U.heap = h0) (fun _ _ _ _ _ => True) (fun _ U o U' => ∃ v L, o = .returned v ∧ Q6_0_1 Z b0 p2 w3 f_firstMember w10 f_exitOfCounter w11 f_nextMember w12 f_previousMember i x j h0 n0 v U'.heap L ∧ FrameEnd U o U' L ({ frames := 0, cells := 0, slots := 0, locals := 0 } : Room).cells ({ frames := 0, cells := 0, slots := 0, locals := 0 } : Room).slots) := by
  refine MetFree.of_bodySF (plainFor_of_name pn_90945715) hisR ?_
  intro p e s m args below meth c s₁ Bd hml0 hP hK
  obtain ⟨rfl, hZ, hh⟩ := hP
  have C : Ctx p s m meth c Z "com/example/bisimulation/bisimulation/lts/Exits" "join" prog_51_method_3_code 4 none := Ctx.of Bd hml0 hZ
  have X0 : Stand p l e ({ frames := 0, cells := 0, slots := 0, locals := 0 } : Room) s m #[(.ref b0), (.int (0 : Int32)), (.int p2)] below meth c s₁ [] 0 0 := Stand.of_body Bd
  have e0 : s₁.heap = h0 := by rw [← hh, Bd.state]; rfl
  have N0 := Fr.nil n0
  refine Goes.enter (ef_6_0_1 m b0 p2) ?_
  clear hK hml0 hh
  have g_w3 : n0 ≤ w3 := Nat.le_trans g_b0 (Nat.le_of_lt lt_b0_w3)
  have g_w10 : n0 ≤ w10 := Nat.le_trans g_b0 (Nat.le_of_lt (Nat.lt_trans lt_b0_w3 lt_w3_w10))
  have g_w11 : n0 ≤ w11 := Nat.le_trans g_b0 (Nat.le_of_lt (Nat.lt_trans (Nat.lt_trans lt_b0_w3 lt_w3_w10) lt_w10_w11))
  have g_w12 : n0 ≤ w12 := Nat.le_trans g_b0 (Nat.le_of_lt (Nat.lt_trans (Nat.lt_trans (Nat.lt_trans lt_b0_w3 lt_w3_w10) lt_w10_w11) lt_w11_w12))
  refine g_aloadN 1 rfl C X0 d6_0 rfl rfl ?_
  refine g_getF 4 rfl C X0 (host := "") (Or.inl (hw _ (List.mem_of_getElem? (i := 16) rfl))) Via.refl e0 F_firstMember d6_1 fun T1 X2 e3 => ?_
  refine g_iloadN 5 rfl C X2 d6_4 rfl ?_
  refine g_iaload 6 rfl C X2 e3 B_firstMember 0 (by decide) (by decide) x hx d6_5 ?_
  refine g_istoreN 7 rfl C X2 x rfl #[.val (.ref b0), .val (.int (0 : Int32)), .val (.int p2), .val (.int x)] d6_6 rfl ?_
  refine g_aloadN 8 rfl C X2 d6_7 rfl rfl ?_
  refine g_getF 11 rfl C X2 (host := "") (Or.inl (hw _ (List.mem_of_getElem? (i := 34) rfl))) Via.refl e3 F_exitOfCounter d6_8 fun T4 X5 e6 => ?_
  refine g_iloadN 12 rfl C X5 d6_11 rfl ?_
  refine g_iloadN 13 rfl C X5 d6_12 rfl ?_
  refine g_iastore 14 rfl C X5 e6 B_exitOfCounter (i) hi (by omega) (0 : Int32) rfl d6_13 N0 g_w10 fun T7 h8 ls9 X10 e11 W12 B13 N14 => ?_
  have F15 := E_b0.wr W12
  have F16 := F_firstMember.other W12 (Or.inl (Nat.ne_of_lt (Nat.lt_trans lt_b0_w3 lt_w3_w10)))
  have F17 := B_firstMember.other W12 (Nat.ne_of_lt lt_w3_w10)
  have F18 := F_exitOfCounter.other W12 (Or.inl (Nat.ne_of_lt (Nat.lt_trans lt_b0_w3 lt_w3_w10)))
  have F19 := F_nextMember.other W12 (Or.inl (Nat.ne_of_lt (Nat.lt_trans lt_b0_w3 lt_w3_w10)))
  have F20 := B_nextMember.other W12 (Nat.ne_of_gt lt_w10_w11)
  have F21 := F_previousMember.other W12 (Or.inl (Nat.ne_of_lt (Nat.lt_trans lt_b0_w3 lt_w3_w10)))
  have F22 := B_previousMember.other W12 (Nat.ne_of_gt (Nat.lt_trans lt_w10_w11 lt_w11_w12))
  have Zs23 := Nat.le_trans Z0 (Nat.le_of_eq W12.size.symm)
  have Kp24 : Keep h0 h8 [w3, w10, w11, w12] := (Keep.refl h0 [w3, w10, w11, w12]).wr W12 (Or.inl (List.mem_of_getElem? (i := 1) rfl))
  refine g_aloadN 15 rfl C X10 d6_14 rfl rfl ?_
  refine g_getF 18 rfl C X10 (host := "") (Or.inl (hw _ (List.mem_of_getElem? (i := 36) rfl))) Via.refl e11 F19 d6_15 fun T25 X26 e27 => ?_
  refine g_iloadN 19 rfl C X26 d6_18 rfl ?_
  refine g_iloadN 20 rfl C X26 d6_19 rfl ?_
  refine g_iastore 21 rfl C X26 e27 F20 (i) hi (by omega) x rfl d6_20 N14 g_w11 fun T28 h29 ls30 X31 e32 W33 B34 N35 => ?_
  have F36 := F15.wr W33
  have F37 := F16.other W33 (Or.inl (Nat.ne_of_lt (Nat.lt_trans (Nat.lt_trans lt_b0_w3 lt_w3_w10) lt_w10_w11)))
  have F38 := F17.other W33 (Nat.ne_of_lt (Nat.lt_trans lt_w3_w10 lt_w10_w11))
  have F39 := F18.other W33 (Or.inl (Nat.ne_of_lt (Nat.lt_trans (Nat.lt_trans lt_b0_w3 lt_w3_w10) lt_w10_w11)))
  have F40 := B13.other W33 (Nat.ne_of_lt lt_w10_w11)
  have F41 := F19.other W33 (Or.inl (Nat.ne_of_lt (Nat.lt_trans (Nat.lt_trans lt_b0_w3 lt_w3_w10) lt_w10_w11)))
  have F42 := F21.other W33 (Or.inl (Nat.ne_of_lt (Nat.lt_trans (Nat.lt_trans lt_b0_w3 lt_w3_w10) lt_w10_w11)))
  have F43 := F22.other W33 (Nat.ne_of_gt lt_w11_w12)
  have Zs44 := Nat.le_trans Zs23 (Nat.le_of_eq W33.size.symm)
  have Kp45 : Keep h0 h29 [w3, w10, w11, w12] := Kp24.wr W33 (Or.inl (List.mem_of_getElem? (i := 2) rfl))
  refine g_aloadN 22 rfl C X31 d6_21 rfl rfl ?_
  refine g_getF 25 rfl C X31 (host := "") (Or.inl (hw _ (List.mem_of_getElem? (i := 38) rfl))) Via.refl e32 F42 d6_22 fun T46 X47 e48 => ?_
  refine g_iloadN 26 rfl C X47 d6_25 rfl ?_
  refine g_iconst 27 rfl C X47 (-1 : Int32) d6_26 rfl ?_
  refine g_iastore 28 rfl C X47 e48 F43 (i) hi (by omega) (-1 : Int32) rfl d6_27 N35 g_w12 fun T49 h50 ls51 X52 e53 W54 B55 N56 => ?_
  have F57 := F36.wr W54
  have F58 := F37.other W54 (Or.inl (Nat.ne_of_lt (Nat.lt_trans (Nat.lt_trans (Nat.lt_trans lt_b0_w3 lt_w3_w10) lt_w10_w11) lt_w11_w12)))
  have F59 := F38.other W54 (Nat.ne_of_lt (Nat.lt_trans (Nat.lt_trans lt_w3_w10 lt_w10_w11) lt_w11_w12))
  have F60 := F39.other W54 (Or.inl (Nat.ne_of_lt (Nat.lt_trans (Nat.lt_trans (Nat.lt_trans lt_b0_w3 lt_w3_w10) lt_w10_w11) lt_w11_w12)))
  have F61 := F40.other W54 (Nat.ne_of_lt (Nat.lt_trans lt_w10_w11 lt_w11_w12))
  have F62 := F41.other W54 (Or.inl (Nat.ne_of_lt (Nat.lt_trans (Nat.lt_trans (Nat.lt_trans lt_b0_w3 lt_w3_w10) lt_w10_w11) lt_w11_w12)))
  have F63 := B34.other W54 (Nat.ne_of_lt lt_w11_w12)
  have F64 := F42.other W54 (Or.inl (Nat.ne_of_lt (Nat.lt_trans (Nat.lt_trans (Nat.lt_trans lt_b0_w3 lt_w3_w10) lt_w10_w11) lt_w11_w12)))
  have Zs65 := Nat.le_trans Zs44 (Nat.le_of_eq W54.size.symm)
  have Kp66 : Keep h0 h50 [w3, w10, w11, w12] := Kp45.wr W54 (Or.inl (List.mem_of_getElem? (i := 3) rfl))
  refine g_iloadN 29 rfl C X52 d6_28 rfl ?_
  refine g_iconst 30 rfl C X52 (-1 : Int32) d6_29 rfl ?_
  have hq68 : ¬ (x.toInt = (-1 : Int32).toInt) := by
    have fr69 := rng32 x
    have fc70 : (-1 : Int32).toInt = -1 := rfl
    omega
  refine g_icmp_eq_f 33 rfl C X52 d6_30 hq68 ?_
  refine g_aloadN 34 rfl C X52 d6_33 rfl rfl ?_
  refine g_getF 37 rfl C X52 (host := "") (Or.inl (hw _ (List.mem_of_getElem? (i := 38) rfl))) Via.refl e53 F64 d6_34 fun T71 X72 e73 => ?_
  refine g_iloadN 38 rfl C X72 d6_37 rfl ?_
  refine g_iloadN 39 rfl C X72 d6_38 rfl ?_
  refine g_iastore 40 rfl C X72 e73 B55 (j) hj (by omega) p2 rfl d6_39 N56 g_w12 fun T74 h75 ls76 X77 e78 W79 B80 N81 => ?_
  have F82 := F57.wr W79
  have F83 := F58.other W79 (Or.inl (Nat.ne_of_lt (Nat.lt_trans (Nat.lt_trans (Nat.lt_trans lt_b0_w3 lt_w3_w10) lt_w10_w11) lt_w11_w12)))
  have F84 := F59.other W79 (Nat.ne_of_lt (Nat.lt_trans (Nat.lt_trans lt_w3_w10 lt_w10_w11) lt_w11_w12))
  have F85 := F60.other W79 (Or.inl (Nat.ne_of_lt (Nat.lt_trans (Nat.lt_trans (Nat.lt_trans lt_b0_w3 lt_w3_w10) lt_w10_w11) lt_w11_w12)))
  have F86 := F61.other W79 (Nat.ne_of_lt (Nat.lt_trans lt_w10_w11 lt_w11_w12))
  have F87 := F62.other W79 (Or.inl (Nat.ne_of_lt (Nat.lt_trans (Nat.lt_trans (Nat.lt_trans lt_b0_w3 lt_w3_w10) lt_w10_w11) lt_w11_w12)))
  have F88 := F63.other W79 (Nat.ne_of_lt lt_w11_w12)
  have F89 := F64.other W79 (Or.inl (Nat.ne_of_lt (Nat.lt_trans (Nat.lt_trans (Nat.lt_trans lt_b0_w3 lt_w3_w10) lt_w10_w11) lt_w11_w12)))
  have Zs90 := Nat.le_trans Zs65 (Nat.le_of_eq W79.size.symm)
  have Kp91 : Keep h0 h75 [w3, w10, w11, w12] := Kp66.wr W79 (Or.inl (List.mem_of_getElem? (i := 3) rfl))
  refine g_aloadN 41 rfl C X77 d6_40 rfl rfl ?_
  refine g_getF 44 rfl C X77 (host := "") (Or.inl (hw _ (List.mem_of_getElem? (i := 16) rfl))) Via.refl e78 F83 d6_41 fun T92 X93 e94 => ?_
  refine g_iloadN 45 rfl C X93 d6_44 rfl ?_
  refine g_iloadN 46 rfl C X93 d6_45 rfl ?_
  refine g_iastore 47 rfl C X93 e94 F84 0 (by decide) (by decide) p2 rfl d6_46 N81 g_w3 fun T95 h96 ls97 X98 e99 W100 B101 N102 => ?_
  have F103 := F82.wr W100
  have F104 := F83.other W100 (Or.inl (Nat.ne_of_lt lt_b0_w3))
  have F105 := F85.other W100 (Or.inl (Nat.ne_of_lt lt_b0_w3))
  have F106 := F86.other W100 (Nat.ne_of_gt lt_w3_w10)
  have F107 := F87.other W100 (Or.inl (Nat.ne_of_lt lt_b0_w3))
  have F108 := F88.other W100 (Nat.ne_of_gt (Nat.lt_trans lt_w3_w10 lt_w10_w11))
  have F109 := F89.other W100 (Or.inl (Nat.ne_of_lt lt_b0_w3))
  have F110 := B80.other W100 (Nat.ne_of_gt (Nat.lt_trans (Nat.lt_trans lt_w3_w10 lt_w10_w11) lt_w11_w12))
  have Zs111 := Nat.le_trans Zs90 (Nat.le_of_eq W100.size.symm)
  have Kp112 : Keep h0 h96 [w3, w10, w11, w12] := Kp91.wr W100 (Or.inl (List.mem_of_getElem? (i := 0) rfl))
  exact g_retV C X98 rfl d6_47 e99 (by decide) (by decide) ⟨rfl, N102, Kp112, B101, F106, F108, F110⟩
theorem ef_6_1_0 (m : MethodId) (b0 : Addr) (p2 : Int32) : entryFrame m #[(.ref b0), (.int (1 : Int32)), (.int p2)] 4 = mkF m 0 #[.val (.ref b0), .val (.int (1 : Int32)), .val (.int p2), .unset] [] := by first | (simp [entryFrame, mkF, argsToLocals, Value.category]; done) | rfl
def Q6_1_0 (Z : State) (b0 : Addr) (p2 : Int32) (w3 : Addr) (f_firstMember : Nat → Int32) (w10 : Addr) (f_exitOfCounter : Nat → Int32) (w11 : Addr) (f_nextMember : Nat → Int32) (w12 : Addr) (f_previousMember : Nat → Int32) (i : Nat) (h0 : Heap) (n0 : Nat) (v : Option Value) (h : Heap) (L : List Loc) : Prop := v = none ∧ Fr n0 L ∧ Keep h0 h [w3, w10, w11, w12] ∧ Ba Z h w3 .int 4 (upd f_firstMember 1 p2) ∧ Ba Z h w10 .int 4 (upd f_exitOfCounter i (1 : Int32)) ∧ Ba Z h w11 .int 4 (upd f_nextMember i (-1 : Int32)) ∧ Ba Z h w12 .int 4 (upd f_previousMember i (-1 : Int32))
set_option maxRecDepth 65536 in
set_option maxHeartbeats 40000000 in
theorem rm6_1_0 (l : Launch) (Z : State) (a0 : Array Value) (hw : ∀ d ∈ tables_1, d.before a0 Z = true) (ws : List Jvm.Cond) (b0 : Addr) (p2 : Int32) (w3 : Addr) (f_firstMember : Nat → Int32) (w10 : Addr) (f_exitOfCounter : Nat → Int32) (w11 : Addr) (f_nextMember : Nat → Int32) (w12 : Addr) (f_previousMember : Nat → Int32) (i : Nat) (h0 : Heap) (n0 : Nat) (Z0 : n0 ≤ h0.size) (E_b0 : Exa Z h0 b0 "com/example/bisimulation/bisimulation/lts/Exits") (F_firstMember : Fld Z h0 b0 "com/example/bisimulation/bisimulation/lts/Exits" "firstMember" "[I" (.ref w3)) (B_firstMember : Ba Z h0 w3 .int 4 f_firstMember) (F_exitOfCounter : Fld Z h0 b0 "com/example/bisimulation/bisimulation/lts/Exits" "exitOfCounter" "[I" (.ref w10)) (B_exitOfCounter : Ba Z h0 w10 .int 4 f_exitOfCounter) (F_nextMember : Fld Z h0 b0 "com/example/bisimulation/bisimulation/lts/Exits" "nextMember" "[I" (.ref w11)) (B_nextMember : Ba Z h0 w11 .int 4 f_nextMember) (F_previousMember : Fld Z h0 b0 "com/example/bisimulation/bisimulation/lts/Exits" "previousMember" "[I" (.ref w12)) (B_previousMember : Ba Z h0 w12 .int 4 f_previousMember) (lt_b0_w3 : b0 < w3) (lt_w3_w10 : w3 < w10) (lt_w10_w11 : w10 < w11) (lt_w11_w12 : w11 < w12) (g_b0 : n0 ≤ b0) (hi : p2.toInt = i) (hi4 : i < 4) (hx : f_firstMember 1 = (-1 : Int32)) :
    MetFree l (⟨"com/example/bisimulation/bisimulation/lts/Exits", "join", "(II)V"⟩ : MethodName) (head1 (Jvm.Cond.code (⟨"com/example/bisimulation/bisimulation/lts/Exits", "join", "(II)V"⟩ : MethodName) prog_51_method_3_code 4 none :: ws) ({ frames := 0, cells := 0, slots := 0, locals := 0 } : Room)) (fun a U => a = #[(.ref b0), (.int (1 : Int32)), (.int p2)] ∧ Z.Warmed39 U.vm ∧ U.heap = h0) (fun _ _ _ _ _ => True) (fun _ U o U' => ∃ v L, o = .returned v ∧ Q6_1_0 Z b0 p2 w3 f_firstMember w10 f_exitOfCounter w11 f_nextMember w12 f_previousMember i h0 n0 v U'.heap L ∧ FrameEnd U o U' L ({ frames := 0, cells := 0, slots := 0, locals := 0 } : Room).cells ({ frames := 0, cells := 0, slots := 0, locals := 0 } : Room).slots) := by
  refine MetFree.of_bodySF (plainFor_of_name pn_90945715) hisR ?_
  intro p e s m args below meth c s₁ Bd hml0 hP hK
  obtain ⟨rfl, hZ, hh⟩ := hP
  have C : Ctx p s m meth c Z "com/example/bisimulation/bisimulation/lts/Exits" "join" prog_51_method_3_code 4 none := Ctx.of Bd hml0 hZ
  have X0 : Stand p l e ({ frames := 0, cells := 0, slots := 0, locals := 0 } : Room) s m #[(.ref b0), (.int (1 : Int32)), (.int p2)] below meth c s₁ [] 0 0 := Stand.of_body Bd
  have e0 : s₁.heap = h0 := by rw [← hh, Bd.state]; rfl
  have N0 := Fr.nil n0
  refine Goes.enter (ef_6_1_0 m b0 p2) ?_
  clear hK hml0 hh
  have g_w3 : n0 ≤ w3 := Nat.le_trans g_b0 (Nat.le_of_lt lt_b0_w3)
  have g_w10 : n0 ≤ w10 := Nat.le_trans g_b0 (Nat.le_of_lt (Nat.lt_trans lt_b0_w3 lt_w3_w10))
  have g_w11 : n0 ≤ w11 := Nat.le_trans g_b0 (Nat.le_of_lt (Nat.lt_trans (Nat.lt_trans lt_b0_w3 lt_w3_w10) lt_w10_w11))
  have g_w12 : n0 ≤ w12 := Nat.le_trans g_b0 (Nat.le_of_lt (Nat.lt_trans (Nat.lt_trans (Nat.lt_trans lt_b0_w3 lt_w3_w10) lt_w10_w11) lt_w11_w12))
  refine g_aloadN 1 rfl C X0 d6_0 rfl rfl ?_
  refine g_getF 4 rfl C X0 (host := "") (Or.inl (hw _ (List.mem_of_getElem? (i := 16) rfl))) Via.refl e0 F_firstMember d6_1 fun T1 X2 e3 => ?_
  refine g_iloadN 5 rfl C X2 d6_4 rfl ?_
  refine g_iaload 6 rfl C X2 e3 B_firstMember 1 (by decide) (by decide) (-1 : Int32) hx d6_5 ?_
  refine g_istoreN 7 rfl C X2 (-1 : Int32) rfl #[.val (.ref b0), .val (.int (1 : Int32)), .val (.int p2), .val (.int (-1 : Int32))] d6_6 rfl ?_
  refine g_aloadN 8 rfl C X2 d6_7 rfl rfl ?_
  refine g_getF 11 rfl C X2 (host := "") (Or.inl (hw _ (List.mem_of_getElem? (i := 34) rfl))) Via.refl e3 F_exitOfCounter d6_8 fun T4 X5 e6 => ?_
  refine g_iloadN 12 rfl C X5 d6_11 rfl ?_
  refine g_iloadN 13 rfl C X5 d6_12 rfl ?_
  refine g_iastore 14 rfl C X5 e6 B_exitOfCounter (i) hi (by omega) (1 : Int32) rfl d6_13 N0 g_w10 fun T7 h8 ls9 X10 e11 W12 B13 N14 => ?_
  have F15 := E_b0.wr W12
  have F16 := F_firstMember.other W12 (Or.inl (Nat.ne_of_lt (Nat.lt_trans lt_b0_w3 lt_w3_w10)))
  have F17 := B_firstMember.other W12 (Nat.ne_of_lt lt_w3_w10)
  have F18 := F_exitOfCounter.other W12 (Or.inl (Nat.ne_of_lt (Nat.lt_trans lt_b0_w3 lt_w3_w10)))
  have F19 := F_nextMember.other W12 (Or.inl (Nat.ne_of_lt (Nat.lt_trans lt_b0_w3 lt_w3_w10)))
  have F20 := B_nextMember.other W12 (Nat.ne_of_gt lt_w10_w11)
  have F21 := F_previousMember.other W12 (Or.inl (Nat.ne_of_lt (Nat.lt_trans lt_b0_w3 lt_w3_w10)))
  have F22 := B_previousMember.other W12 (Nat.ne_of_gt (Nat.lt_trans lt_w10_w11 lt_w11_w12))
  have Zs23 := Nat.le_trans Z0 (Nat.le_of_eq W12.size.symm)
  have Kp24 : Keep h0 h8 [w3, w10, w11, w12] := (Keep.refl h0 [w3, w10, w11, w12]).wr W12 (Or.inl (List.mem_of_getElem? (i := 1) rfl))
  refine g_aloadN 15 rfl C X10 d6_14 rfl rfl ?_
  refine g_getF 18 rfl C X10 (host := "") (Or.inl (hw _ (List.mem_of_getElem? (i := 36) rfl))) Via.refl e11 F19 d6_15 fun T25 X26 e27 => ?_
  refine g_iloadN 19 rfl C X26 d6_18 rfl ?_
  refine g_iloadN 20 rfl C X26 d6_19 rfl ?_
  refine g_iastore 21 rfl C X26 e27 F20 (i) hi (by omega) (-1 : Int32) rfl d6_20 N14 g_w11 fun T28 h29 ls30 X31 e32 W33 B34 N35 => ?_
  have F36 := F15.wr W33
  have F37 := F16.other W33 (Or.inl (Nat.ne_of_lt (Nat.lt_trans (Nat.lt_trans lt_b0_w3 lt_w3_w10) lt_w10_w11)))
  have F38 := F17.other W33 (Nat.ne_of_lt (Nat.lt_trans lt_w3_w10 lt_w10_w11))
  have F39 := F18.other W33 (Or.inl (Nat.ne_of_lt (Nat.lt_trans (Nat.lt_trans lt_b0_w3 lt_w3_w10) lt_w10_w11)))
  have F40 := B13.other W33 (Nat.ne_of_lt lt_w10_w11)
  have F41 := F19.other W33 (Or.inl (Nat.ne_of_lt (Nat.lt_trans (Nat.lt_trans lt_b0_w3 lt_w3_w10) lt_w10_w11)))
  have F42 := F21.other W33 (Or.inl (Nat.ne_of_lt (Nat.lt_trans (Nat.lt_trans lt_b0_w3 lt_w3_w10) lt_w10_w11)))
  have F43 := F22.other W33 (Nat.ne_of_gt lt_w11_w12)
  have Zs44 := Nat.le_trans Zs23 (Nat.le_of_eq W33.size.symm)
  have Kp45 : Keep h0 h29 [w3, w10, w11, w12] := Kp24.wr W33 (Or.inl (List.mem_of_getElem? (i := 2) rfl))
  refine g_aloadN 22 rfl C X31 d6_21 rfl rfl ?_
  refine g_getF 25 rfl C X31 (host := "") (Or.inl (hw _ (List.mem_of_getElem? (i := 38) rfl))) Via.refl e32 F42 d6_22 fun T46 X47 e48 => ?_
  refine g_iloadN 26 rfl C X47 d6_25 rfl ?_
  refine g_iconst 27 rfl C X47 (-1 : Int32) d6_26 rfl ?_
  refine g_iastore 28 rfl C X47 e48 F43 (i) hi (by omega) (-1 : Int32) rfl d6_27 N35 g_w12 fun T49 h50 ls51 X52 e53 W54 B55 N56 => ?_
  have F57 := F36.wr W54
  have F58 := F37.other W54 (Or.inl (Nat.ne_of_lt (Nat.lt_trans (Nat.lt_trans (Nat.lt_trans lt_b0_w3 lt_w3_w10) lt_w10_w11) lt_w11_w12)))
  have F59 := F38.other W54 (Nat.ne_of_lt (Nat.lt_trans (Nat.lt_trans lt_w3_w10 lt_w10_w11) lt_w11_w12))
  have F60 := F39.other W54 (Or.inl (Nat.ne_of_lt (Nat.lt_trans (Nat.lt_trans (Nat.lt_trans lt_b0_w3 lt_w3_w10) lt_w10_w11) lt_w11_w12)))
  have F61 := F40.other W54 (Nat.ne_of_lt (Nat.lt_trans lt_w10_w11 lt_w11_w12))
  have F62 := F41.other W54 (Or.inl (Nat.ne_of_lt (Nat.lt_trans (Nat.lt_trans (Nat.lt_trans lt_b0_w3 lt_w3_w10) lt_w10_w11) lt_w11_w12)))
  have F63 := B34.other W54 (Nat.ne_of_lt lt_w11_w12)
  have F64 := F42.other W54 (Or.inl (Nat.ne_of_lt (Nat.lt_trans (Nat.lt_trans (Nat.lt_trans lt_b0_w3 lt_w3_w10) lt_w10_w11) lt_w11_w12)))
  have Zs65 := Nat.le_trans Zs44 (Nat.le_of_eq W54.size.symm)
  have Kp66 : Keep h0 h50 [w3, w10, w11, w12] := Kp45.wr W54 (Or.inl (List.mem_of_getElem? (i := 3) rfl))
  refine g_iloadN 29 rfl C X52 d6_28 rfl ?_
  refine g_iconst 30 rfl C X52 (-1 : Int32) d6_29 rfl ?_
  refine g_icmp_eq_t 40 C X52 d6_30 (by decide) (by decide) (by decide) ?_
  refine g_aloadN 41 rfl C X52 d6_40 rfl rfl ?_
  refine g_getF 44 rfl C X52 (host := "") (Or.inl (hw _ (List.mem_of_getElem? (i := 16) rfl))) Via.refl e53 F58 d6_41 fun T67 X68 e69 => ?_
  refine g_iloadN 45 rfl C X68 d6_44 rfl ?_
  refine g_iloadN 46 rfl C X68 d6_45 rfl ?_
  refine g_iastore 47 rfl C X68 e69 F59 1 (by decide) (by decide) p2 rfl d6_46 N56 g_w3 fun T70 h71 ls72 X73 e74 W75 B76 N77 => ?_
  have F78 := F57.wr W75
  have F79 := F58.other W75 (Or.inl (Nat.ne_of_lt lt_b0_w3))
  have F80 := F60.other W75 (Or.inl (Nat.ne_of_lt lt_b0_w3))
  have F81 := F61.other W75 (Nat.ne_of_gt lt_w3_w10)
  have F82 := F62.other W75 (Or.inl (Nat.ne_of_lt lt_b0_w3))
  have F83 := F63.other W75 (Nat.ne_of_gt (Nat.lt_trans lt_w3_w10 lt_w10_w11))
  have F84 := F64.other W75 (Or.inl (Nat.ne_of_lt lt_b0_w3))
  have F85 := B55.other W75 (Nat.ne_of_gt (Nat.lt_trans (Nat.lt_trans lt_w3_w10 lt_w10_w11) lt_w11_w12))
  have Zs86 := Nat.le_trans Zs65 (Nat.le_of_eq W75.size.symm)
  have Kp87 : Keep h0 h71 [w3, w10, w11, w12] := Kp66.wr W75 (Or.inl (List.mem_of_getElem? (i := 0) rfl))
  exact g_retV C X73 rfl d6_47 e74 (by decide) (by decide) ⟨rfl, N77, Kp87, B76, F81, F83, F85⟩
theorem ef_6_1_1 (m : MethodId) (b0 : Addr) (p2 : Int32) : entryFrame m #[(.ref b0), (.int (1 : Int32)), (.int p2)] 4 = mkF m 0 #[.val (.ref b0), .val (.int (1 : Int32)), .val (.int p2), .unset] [] := by first | (simp [entryFrame, mkF, argsToLocals, Value.category]; done) | rfl
def Q6_1_1 (Z : State) (b0 : Addr) (p2 : Int32) (w3 : Addr) (f_firstMember : Nat → Int32) (w10 : Addr) (f_exitOfCounter : Nat → Int32) (w11 : Addr) (f_nextMember : Nat → Int32) (w12 : Addr) (f_previousMember : Nat → Int32) (i : Nat) (x : Int32) (j : Nat) (h0 : Heap) (n0 : Nat) (v : Option Value) (h : Heap) (L : List Loc) : Prop := v = none ∧ Fr n0 L ∧ Keep h0 h [w3, w10, w11, w12] ∧ Ba Z h w3 .int 4 (upd f_firstMember 1 p2) ∧ Ba Z h w10 .int 4 (upd f_exitOfCounter i (1 : Int32)) ∧ Ba Z h w11 .int 4 (upd f_nextMember i x) ∧ Ba Z h w12 .int 4 (upd (upd f_previousMember i (-1 : Int32)) j p2)
set_option maxRecDepth 65536 in
set_option maxHeartbeats 40000000 in
theorem rm6_1_1 (l : Launch) (Z : State) (a0 : Array Value) (hw : ∀ d ∈ tables_1, d.before a0 Z = true) (ws : List Jvm.Cond) (b0 : Addr) (p2 : Int32) (w3 : Addr) (f_firstMember : Nat → Int32) (w10 : Addr) (f_exitOfCounter : Nat → Int32) (w11 : Addr) (f_nextMember : Nat → Int32) (w12 : Addr) (f_previousMember : Nat → Int32) (i : Nat) (x : Int32) (j : Nat) (h0 : Heap) (n0 : Nat) (Z0 : n0 ≤ h0.size) (E_b0 : Exa Z h0 b0 "com/example/bisimulation/bisimulation/lts/Exits") (F_firstMember : Fld Z h0 b0 "com/example/bisimulation/bisimulation/lts/Exits" "firstMember" "[I" (.ref w3)) (B_firstMember : Ba Z h0 w3 .int 4 f_firstMember) (F_exitOfCounter : Fld Z h0 b0 "com/example/bisimulation/bisimulation/lts/Exits" "exitOfCounter" "[I" (.ref w10)) (B_exitOfCounter : Ba Z h0 w10 .int 4 f_exitOfCounter) (F_nextMember : Fld Z h0 b0 "com/example/bisimulation/bisimulation/lts/Exits" "nextMember" "[I" (.ref w11)) (B_nextMember : Ba Z h0 w11 .int 4 f_nextMember) (F_previousMember : Fld Z h0 b0 "com/example/bisimulation/bisimulation/lts/Exits" "previousMember" "[I" (.ref w12)) (B_previousMember : Ba Z h0 w12 .int 4 f_previousMember) (lt_b0_w3 : b0 < w3) (lt_w3_w10 : w3 < w10) (lt_w10_w11 : w10 < w11) (lt_w11_w12 : w11 < w12) (g_b0 : n0 ≤ b0) (hi : p2.toInt = i) (hi4 : i < 4) (hx : f_firstMember 1 = x) (hj : x.toInt = j) (hj4 : j < 4) :
    MetFree l (⟨"com/example/bisimulation/bisimulation/lts/Exits", "join", "(II)V"⟩ : MethodName) (head1 (Jvm.Cond.code (⟨"com/example/bisimulation/bisimulation/lts/Exits", "join", "(II)V"⟩ : MethodName) prog_51_method_3_code 4 none :: ws) ({ frames := 0, cells := 0, slots := 0, locals := 0 } : Room)) (fun a U => a = #[(.ref b0), (.int (1 : Int32)), (.int p2)] ∧ Z.Warmed39 U.vm ∧ U.heap = h0) (fun _ _ _ _ _ => True) (fun _ U o U' => ∃ v L, o = .returned v ∧ Q6_1_1 Z b0 p2 w3 f_firstMember w10 f_exitOfCounter w11 f_nextMember w12 f_previousMember i x j h0 n0 v U'.heap L ∧ FrameEnd U o U' L ({ frames := 0, cells := 0, slots := 0, locals := 0 } : Room).cells ({ frames := 0, cells := 0, slots := 0, locals := 0 } : Room).slots) := by
  refine MetFree.of_bodySF (plainFor_of_name pn_90945715) hisR ?_
  intro p e s m args below meth c s₁ Bd hml0 hP hK
  obtain ⟨rfl, hZ, hh⟩ := hP
  have C : Ctx p s m meth c Z "com/example/bisimulation/bisimulation/lts/Exits" "join" prog_51_method_3_code 4 none := Ctx.of Bd hml0 hZ
  have X0 : Stand p l e ({ frames := 0, cells := 0, slots := 0, locals := 0 } : Room) s m #[(.ref b0), (.int (1 : Int32)), (.int p2)] below meth c s₁ [] 0 0 := Stand.of_body Bd
  have e0 : s₁.heap = h0 := by rw [← hh, Bd.state]; rfl
  have N0 := Fr.nil n0
  refine Goes.enter (ef_6_1_1 m b0 p2) ?_
  clear hK hml0 hh
  have g_w3 : n0 ≤ w3 := Nat.le_trans g_b0 (Nat.le_of_lt lt_b0_w3)
  have g_w10 : n0 ≤ w10 := Nat.le_trans g_b0 (Nat.le_of_lt (Nat.lt_trans lt_b0_w3 lt_w3_w10))
  have g_w11 : n0 ≤ w11 := Nat.le_trans g_b0 (Nat.le_of_lt (Nat.lt_trans (Nat.lt_trans lt_b0_w3 lt_w3_w10) lt_w10_w11))
  have g_w12 : n0 ≤ w12 := Nat.le_trans g_b0 (Nat.le_of_lt (Nat.lt_trans (Nat.lt_trans (Nat.lt_trans lt_b0_w3 lt_w3_w10) lt_w10_w11) lt_w11_w12))
  refine g_aloadN 1 rfl C X0 d6_0 rfl rfl ?_
  refine g_getF 4 rfl C X0 (host := "") (Or.inl (hw _ (List.mem_of_getElem? (i := 16) rfl))) Via.refl e0 F_firstMember d6_1 fun T1 X2 e3 => ?_
  refine g_iloadN 5 rfl C X2 d6_4 rfl ?_
  refine g_iaload 6 rfl C X2 e3 B_firstMember 1 (by decide) (by decide) x hx d6_5 ?_
  refine g_istoreN 7 rfl C X2 x rfl #[.val (.ref b0), .val (.int (1 : Int32)), .val (.int p2), .val (.int x)] d6_6 rfl ?_
  refine g_aloadN 8 rfl C X2 d6_7 rfl rfl ?_
  refine g_getF 11 rfl C X2 (host := "") (Or.inl (hw _ (List.mem_of_getElem? (i := 34) rfl))) Via.refl e3 F_exitOfCounter d6_8 fun T4 X5 e6 => ?_
  refine g_iloadN 12 rfl C X5 d6_11 rfl ?_
  refine g_iloadN 13 rfl C X5 d6_12 rfl ?_
  refine g_iastore 14 rfl C X5 e6 B_exitOfCounter (i) hi (by omega) (1 : Int32) rfl d6_13 N0 g_w10 fun T7 h8 ls9 X10 e11 W12 B13 N14 => ?_
  have F15 := E_b0.wr W12
  have F16 := F_firstMember.other W12 (Or.inl (Nat.ne_of_lt (Nat.lt_trans lt_b0_w3 lt_w3_w10)))
  have F17 := B_firstMember.other W12 (Nat.ne_of_lt lt_w3_w10)
  have F18 := F_exitOfCounter.other W12 (Or.inl (Nat.ne_of_lt (Nat.lt_trans lt_b0_w3 lt_w3_w10)))
  have F19 := F_nextMember.other W12 (Or.inl (Nat.ne_of_lt (Nat.lt_trans lt_b0_w3 lt_w3_w10)))
  have F20 := B_nextMember.other W12 (Nat.ne_of_gt lt_w10_w11)
  have F21 := F_previousMember.other W12 (Or.inl (Nat.ne_of_lt (Nat.lt_trans lt_b0_w3 lt_w3_w10)))
  have F22 := B_previousMember.other W12 (Nat.ne_of_gt (Nat.lt_trans lt_w10_w11 lt_w11_w12))
  have Zs23 := Nat.le_trans Z0 (Nat.le_of_eq W12.size.symm)
  have Kp24 : Keep h0 h8 [w3, w10, w11, w12] := (Keep.refl h0 [w3, w10, w11, w12]).wr W12 (Or.inl (List.mem_of_getElem? (i := 1) rfl))
  refine g_aloadN 15 rfl C X10 d6_14 rfl rfl ?_
  refine g_getF 18 rfl C X10 (host := "") (Or.inl (hw _ (List.mem_of_getElem? (i := 36) rfl))) Via.refl e11 F19 d6_15 fun T25 X26 e27 => ?_
  refine g_iloadN 19 rfl C X26 d6_18 rfl ?_
  refine g_iloadN 20 rfl C X26 d6_19 rfl ?_
  refine g_iastore 21 rfl C X26 e27 F20 (i) hi (by omega) x rfl d6_20 N14 g_w11 fun T28 h29 ls30 X31 e32 W33 B34 N35 => ?_
  have F36 := F15.wr W33
  have F37 := F16.other W33 (Or.inl (Nat.ne_of_lt (Nat.lt_trans (Nat.lt_trans lt_b0_w3 lt_w3_w10) lt_w10_w11)))
  have F38 := F17.other W33 (Nat.ne_of_lt (Nat.lt_trans lt_w3_w10 lt_w10_w11))
  have F39 := F18.other W33 (Or.inl (Nat.ne_of_lt (Nat.lt_trans (Nat.lt_trans lt_b0_w3 lt_w3_w10) lt_w10_w11)))
  have F40 := B13.other W33 (Nat.ne_of_lt lt_w10_w11)
  have F41 := F19.other W33 (Or.inl (Nat.ne_of_lt (Nat.lt_trans (Nat.lt_trans lt_b0_w3 lt_w3_w10) lt_w10_w11)))
  have F42 := F21.other W33 (Or.inl (Nat.ne_of_lt (Nat.lt_trans (Nat.lt_trans lt_b0_w3 lt_w3_w10) lt_w10_w11)))
  have F43 := F22.other W33 (Nat.ne_of_gt lt_w11_w12)
  have Zs44 := Nat.le_trans Zs23 (Nat.le_of_eq W33.size.symm)
  have Kp45 : Keep h0 h29 [w3, w10, w11, w12] := Kp24.wr W33 (Or.inl (List.mem_of_getElem? (i := 2) rfl))
  refine g_aloadN 22 rfl C X31 d6_21 rfl rfl ?_
  refine g_getF 25 rfl C X31 (host := "") (Or.inl (hw _ (List.mem_of_getElem? (i := 38) rfl))) Via.refl e32 F42 d6_22 fun T46 X47 e48 => ?_
  refine g_iloadN 26 rfl C X47 d6_25 rfl ?_
  refine g_iconst 27 rfl C X47 (-1 : Int32) d6_26 rfl ?_
  refine g_iastore 28 rfl C X47 e48 F43 (i) hi (by omega) (-1 : Int32) rfl d6_27 N35 g_w12 fun T49 h50 ls51 X52 e53 W54 B55 N56 => ?_
  have F57 := F36.wr W54
  have F58 := F37.other W54 (Or.inl (Nat.ne_of_lt (Nat.lt_trans (Nat.lt_trans (Nat.lt_trans lt_b0_w3 lt_w3_w10) lt_w10_w11) lt_w11_w12)))
  have F59 := F38.other W54 (Nat.ne_of_lt (Nat.lt_trans (Nat.lt_trans lt_w3_w10 lt_w10_w11) lt_w11_w12))
  have F60 := F39.other W54 (Or.inl (Nat.ne_of_lt (Nat.lt_trans (Nat.lt_trans (Nat.lt_trans lt_b0_w3 lt_w3_w10) lt_w10_w11) lt_w11_w12)))
  have F61 := F40.other W54 (Nat.ne_of_lt (Nat.lt_trans lt_w10_w11 lt_w11_w12))
  have F62 := F41.other W54 (Or.inl (Nat.ne_of_lt (Nat.lt_trans (Nat.lt_trans (Nat.lt_trans lt_b0_w3 lt_w3_w10) lt_w10_w11) lt_w11_w12)))
  have F63 := B34.other W54 (Nat.ne_of_lt lt_w11_w12)
  have F64 := F42.other W54 (Or.inl (Nat.ne_of_lt (Nat.lt_trans (Nat.lt_trans (Nat.lt_trans lt_b0_w3 lt_w3_w10) lt_w10_w11) lt_w11_w12)))
  have Zs65 := Nat.le_trans Zs44 (Nat.le_of_eq W54.size.symm)
  have Kp66 : Keep h0 h50 [w3, w10, w11, w12] := Kp45.wr W54 (Or.inl (List.mem_of_getElem? (i := 3) rfl))
  refine g_iloadN 29 rfl C X52 d6_28 rfl ?_
  refine g_iconst 30 rfl C X52 (-1 : Int32) d6_29 rfl ?_
  have hq68 : ¬ (x.toInt = (-1 : Int32).toInt) := by
    have fr69 := rng32 x
    have fc70 : (-1 : Int32).toInt = -1 := rfl
    omega
  refine g_icmp_eq_f 33 rfl C X52 d6_30 hq68 ?_
  refine g_aloadN 34 rfl C X52 d6_33 rfl rfl ?_
  refine g_getF 37 rfl C X52 (host := "") (Or.inl (hw _ (List.mem_of_getElem? (i := 38) rfl))) Via.refl e53 F64 d6_34 fun T71 X72 e73 => ?_
  refine g_iloadN 38 rfl C X72 d6_37 rfl ?_
  refine g_iloadN 39 rfl C X72 d6_38 rfl ?_
  refine g_iastore 40 rfl C X72 e73 B55 (j) hj (by omega) p2 rfl d6_39 N56 g_w12 fun T74 h75 ls76 X77 e78 W79 B80 N81 => ?_
  have F82 := F57.wr W79
  have F83 := F58.other W79 (Or.inl (Nat.ne_of_lt (Nat.lt_trans (Nat.lt_trans (Nat.lt_trans lt_b0_w3 lt_w3_w10) lt_w10_w11) lt_w11_w12)))
  have F84 := F59.other W79 (Nat.ne_of_lt (Nat.lt_trans (Nat.lt_trans lt_w3_w10 lt_w10_w11) lt_w11_w12))
  have F85 := F60.other W79 (Or.inl (Nat.ne_of_lt (Nat.lt_trans (Nat.lt_trans (Nat.lt_trans lt_b0_w3 lt_w3_w10) lt_w10_w11) lt_w11_w12)))
  have F86 := F61.other W79 (Nat.ne_of_lt (Nat.lt_trans lt_w10_w11 lt_w11_w12))
  have F87 := F62.other W79 (Or.inl (Nat.ne_of_lt (Nat.lt_trans (Nat.lt_trans (Nat.lt_trans lt_b0_w3 lt_w3_w10) lt_w10_w11) lt_w11_w12)))
  have F88 := F63.other W79 (Nat.ne_of_lt lt_w11_w12)
  have F89 := F64.other W79 (Or.inl (Nat.ne_of_lt (Nat.lt_trans (Nat.lt_trans (Nat.lt_trans lt_b0_w3 lt_w3_w10) lt_w10_w11) lt_w11_w12)))
  have Zs90 := Nat.le_trans Zs65 (Nat.le_of_eq W79.size.symm)
  have Kp91 : Keep h0 h75 [w3, w10, w11, w12] := Kp66.wr W79 (Or.inl (List.mem_of_getElem? (i := 3) rfl))
  refine g_aloadN 41 rfl C X77 d6_40 rfl rfl ?_
  refine g_getF 44 rfl C X77 (host := "") (Or.inl (hw _ (List.mem_of_getElem? (i := 16) rfl))) Via.refl e78 F83 d6_41 fun T92 X93 e94 => ?_
  refine g_iloadN 45 rfl C X93 d6_44 rfl ?_
  refine g_iloadN 46 rfl C X93 d6_45 rfl ?_
  refine g_iastore 47 rfl C X93 e94 F84 1 (by decide) (by decide) p2 rfl d6_46 N81 g_w3 fun T95 h96 ls97 X98 e99 W100 B101 N102 => ?_
  have F103 := F82.wr W100
  have F104 := F83.other W100 (Or.inl (Nat.ne_of_lt lt_b0_w3))
  have F105 := F85.other W100 (Or.inl (Nat.ne_of_lt lt_b0_w3))
  have F106 := F86.other W100 (Nat.ne_of_gt lt_w3_w10)
  have F107 := F87.other W100 (Or.inl (Nat.ne_of_lt lt_b0_w3))
  have F108 := F88.other W100 (Nat.ne_of_gt (Nat.lt_trans lt_w3_w10 lt_w10_w11))
  have F109 := F89.other W100 (Or.inl (Nat.ne_of_lt lt_b0_w3))
  have F110 := B80.other W100 (Nat.ne_of_gt (Nat.lt_trans (Nat.lt_trans lt_w3_w10 lt_w10_w11) lt_w11_w12))
  have Zs111 := Nat.le_trans Zs90 (Nat.le_of_eq W100.size.symm)
  have Kp112 : Keep h0 h96 [w3, w10, w11, w12] := Kp91.wr W100 (Or.inl (List.mem_of_getElem? (i := 0) rfl))
  exact g_retV C X98 rfl d6_47 e99 (by decide) (by decide) ⟨rfl, N102, Kp112, B101, F106, F108, F110⟩
theorem d10_0 : decode prog_51_method_4_code 0 = .ok (.aload_n 0, 1) := by decide +kernel
theorem d10_1 : decode prog_51_method_4_code 1 = .ok (.getfield 46, 3) := by decide +kernel
theorem d10_4 : decode prog_51_method_4_code 4 = .ok (.iload_n 1, 1) := by decide +kernel
theorem d10_5 : decode prog_51_method_4_code 5 = .ok (.iaload, 1) := by decide +kernel
theorem d10_6 : decode prog_51_method_4_code 6 = .ok (.istore_n 2, 1) := by decide +kernel
theorem d10_7 : decode prog_51_method_4_code 7 = .ok (.aload_n 0, 1) := by decide +kernel
theorem d10_8 : decode prog_51_method_4_code 8 = .ok (.getfield 52, 3) := by decide +kernel
theorem d10_11 : decode prog_51_method_4_code 11 = .ok (.iload_n 1, 1) := by decide +kernel
theorem d10_12 : decode prog_51_method_4_code 12 = .ok (.iaload, 1) := by decide +kernel
theorem d10_13 : decode prog_51_method_4_code 13 = .ok (.istore_n 3, 1) := by decide +kernel
theorem d10_14 : decode prog_51_method_4_code 14 = .ok (.aload_n 0, 1) := by decide +kernel
theorem d10_15 : decode prog_51_method_4_code 15 = .ok (.getfield 49, 3) := by decide +kernel
theorem d10_18 : decode prog_51_method_4_code 18 = .ok (.iload_n 1, 1) := by decide +kernel
theorem d10_19 : decode prog_51_method_4_code 19 = .ok (.iaload, 1) := by decide +kernel
theorem d10_20 : decode prog_51_method_4_code 20 = .ok (.istore 4, 2) := by decide +kernel
theorem d10_22 : decode prog_51_method_4_code 22 = .ok (.iload_n 3, 1) := by decide +kernel
theorem d10_23 : decode prog_51_method_4_code 23 = .ok (.iconst (-1), 1) := by decide +kernel
theorem d10_24 : decode prog_51_method_4_code 24 = .ok (.if_icmp .ne 14, 3) := by decide +kernel
theorem d10_38 : decode prog_51_method_4_code 38 = .ok (.aload_n 0, 1) := by decide +kernel
theorem d10_39 : decode prog_51_method_4_code 39 = .ok (.getfield 49, 3) := by decide +kernel
theorem d10_42 : decode prog_51_method_4_code 42 = .ok (.iload_n 3, 1) := by decide +kernel
theorem d10_43 : decode prog_51_method_4_code 43 = .ok (.iload 4, 2) := by decide +kernel
theorem d10_45 : decode prog_51_method_4_code 45 = .ok (.iastore, 1) := by decide +kernel
theorem d10_46 : decode prog_51_method_4_code 46 = .ok (.iload 4, 2) := by decide +kernel
theorem d10_48 : decode prog_51_method_4_code 48 = .ok (.iconst (-1), 1) := by decide +kernel
theorem d10_49 : decode prog_51_method_4_code 49 = .ok (.if_icmp .eq 11, 3) := by decide +kernel
theorem d10_60 : decode prog_51_method_4_code 60 = .ok (.aload_n 0, 1) := by decide +kernel
theorem d10_61 : decode prog_51_method_4_code 61 = .ok (.getfield 46, 3) := by decide +kernel
theorem d10_64 : decode prog_51_method_4_code 64 = .ok (.iload_n 1, 1) := by decide +kernel
theorem d10_65 : decode prog_51_method_4_code 65 = .ok (.iconst (-1), 1) := by decide +kernel
theorem d10_66 : decode prog_51_method_4_code 66 = .ok (.iastore, 1) := by decide +kernel
theorem d10_67 : decode prog_51_method_4_code 67 = .ok (.aload_n 0, 1) := by decide +kernel
theorem d10_68 : decode prog_51_method_4_code 68 = .ok (.getfield 19, 3) := by decide +kernel
theorem d10_71 : decode prog_51_method_4_code 71 = .ok (.iload_n 2, 1) := by decide +kernel
theorem d10_72 : decode prog_51_method_4_code 72 = .ok (.iaload, 1) := by decide +kernel
theorem d10_73 : decode prog_51_method_4_code 73 = .ok (.iconst (-1), 1) := by decide +kernel
theorem d10_74 : decode prog_51_method_4_code 74 = .ok (.if_icmp .ne 47, 3) := by decide +kernel
theorem d10_121 : decode prog_51_method_4_code 121 = .ok (.return_, 1) := by decide +kernel
theorem ef_10_0 (m : MethodId) (b0 : Addr) (p1 : Int32) : entryFrame m #[(.ref b0), (.int p1)] 5 = mkF m 0 #[.val (.ref b0), .val (.int p1), .unset, .unset, .unset] [] := by first | (simp [entryFrame, mkF, argsToLocals, Value.category]; done) | rfl
def Q10_0 (Z : State) (b0 : Addr) (p1 : Int32) (w3 : Addr) (f_firstMember : Nat → Int32) (w10 : Addr) (f_exitOfCounter : Nat → Int32) (w11 : Addr) (f_nextMember : Nat → Int32) (w12 : Addr) (f_previousMember : Nat → Int32) (i : Nat) (x : Int32) (j : Nat) (h0 : Heap) (n0 : Nat) (v : Option Value) (h : Heap) (L : List Loc) : Prop := v = none ∧ Fr n0 L ∧ Keep h0 h [w10, w11] ∧ Ba Z h w11 .int 4 (upd f_nextMember j (-1 : Int32)) ∧ ∃ g, Ba Z h w10 .int 4 g
set_option maxRecDepth 65536 in
set_option maxHeartbeats 40000000 in
theorem rm10_0 (l : Launch) (Z : State) (a0 : Array Value) (hw : ∀ d ∈ tables_1, d.before a0 Z = true) (ws : List Jvm.Cond) (b0 : Addr) (p1 : Int32) (w3 : Addr) (f_firstMember : Nat → Int32) (w10 : Addr) (f_exitOfCounter : Nat → Int32) (w11 : Addr) (f_nextMember : Nat → Int32) (w12 : Addr) (f_previousMember : Nat → Int32) (i : Nat) (x : Int32) (j : Nat) (h0 : Heap) (n0 : Nat) (Z0 : n0 ≤ h0.size) (E_b0 : Exa Z h0 b0 "com/example/bisimulation/bisimulation/lts/Exits") (F_firstMember : Fld Z h0 b0 "com/example/bisimulation/bisimulation/lts/Exits" "firstMember" "[I" (.ref w3)) (B_firstMember : Ba Z h0 w3 .int 4 f_firstMember) (F_exitOfCounter : Fld Z h0 b0 "com/example/bisimulation/bisimulation/lts/Exits" "exitOfCounter" "[I" (.ref w10)) (B_exitOfCounter : Ba Z h0 w10 .int 4 f_exitOfCounter) (F_nextMember : Fld Z h0 b0 "com/example/bisimulation/bisimulation/lts/Exits" "nextMember" "[I" (.ref w11)) (B_nextMember : Ba Z h0 w11 .int 4 f_nextMember) (F_previousMember : Fld Z h0 b0 "com/example/bisimulation/bisimulation/lts/Exits" "previousMember" "[I" (.ref w12)) (B_previousMember : Ba Z h0 w12 .int 4 f_previousMember) (lt_b0_w3 : b0 < w3) (lt_w3_w10 : w3 < w10) (lt_w10_w11 : w10 < w11) (lt_w11_w12 : w11 < w12) (g_b0 : n0 ≤ b0) (hi : p1.toInt = i) (hi4 : i < 4) (hEO : f_exitOfCounter i = (0 : Int32)) (hPM : f_previousMember i = x) (hNM : f_nextMember i = (-1 : Int32)) (hFM : f_firstMember 0 = x) (hj : x.toInt = j) (hj4 : j < 4) :
    MetFree l (⟨"com/example/bisimulation/bisimulation/lts/Exits", "leave", "(I)V"⟩ : MethodName) (head1 (Jvm.Cond.code (⟨"com/example/bisimulation/bisimulation/lts/Exits", "leave", "(I)V"⟩ : MethodName) prog_51_method_4_code 5 none :: ws) ({ frames := 0, cells := 0, slots := 0, locals := 0 } : Room)) (fun a U => a = #[(.ref b0), (.int p1)] ∧ Z.Warmed39 U.vm ∧ U.heap = h0) (fun _ _ _ _ _ => True) (fun _ U o U' => ∃ v L, o = .returned v ∧ Q10_0 Z b0 p1 w3 f_firstMember w10 f_exitOfCounter w11 f_nextMember w12 f_previousMember i x j h0 n0 v U'.heap L ∧ FrameEnd U o U' L ({ frames := 0, cells := 0, slots := 0, locals := 0 } : Room).cells ({ frames := 0, cells := 0, slots := 0, locals := 0 } : Room).slots) := by
  refine MetFree.of_bodySF (plainFor_of_name pn_90945715) hisR ?_
  intro p e s m args below meth c s₁ Bd hml0 hP hK
  obtain ⟨rfl, hZ, hh⟩ := hP
  have C : Ctx p s m meth c Z "com/example/bisimulation/bisimulation/lts/Exits" "leave" prog_51_method_4_code 5 none := Ctx.of Bd hml0 hZ
  have X0 : Stand p l e ({ frames := 0, cells := 0, slots := 0, locals := 0 } : Room) s m #[(.ref b0), (.int p1)] below meth c s₁ [] 0 0 := Stand.of_body Bd
  have e0 : s₁.heap = h0 := by rw [← hh, Bd.state]; rfl
  have N0 := Fr.nil n0
  refine Goes.enter (ef_10_0 m b0 p1) ?_
  clear hK hml0 hh
  have g_w3 : n0 ≤ w3 := Nat.le_trans g_b0 (Nat.le_of_lt lt_b0_w3)
  have g_w10 : n0 ≤ w10 := Nat.le_trans g_b0 (Nat.le_of_lt (Nat.lt_trans lt_b0_w3 lt_w3_w10))
  have g_w11 : n0 ≤ w11 := Nat.le_trans g_b0 (Nat.le_of_lt (Nat.lt_trans (Nat.lt_trans lt_b0_w3 lt_w3_w10) lt_w10_w11))
  have g_w12 : n0 ≤ w12 := Nat.le_trans g_b0 (Nat.le_of_lt (Nat.lt_trans (Nat.lt_trans (Nat.lt_trans lt_b0_w3 lt_w3_w10) lt_w10_w11) lt_w11_w12))
  refine g_aloadN 1 rfl C X0 d10_0 rfl rfl ?_
  refine g_getF 4 rfl C X0 (host := "") (Or.inl (hw _ (List.mem_of_getElem? (i := 34) rfl))) Via.refl e0 F_exitOfCounter d10_1 fun T1 X2 e3 => ?_
  refine g_iloadN 5 rfl C X2 d10_4 rfl ?_
  refine g_iaload 6 rfl C X2 e3 B_exitOfCounter (i) hi (by omega) (0 : Int32) hEO d10_5 ?_
  refine g_istoreN 7 rfl C X2 (0 : Int32) rfl #[.val (.ref b0), .val (.int p1), .val (.int (0 : Int32)), .unset, .unset] d10_6 rfl ?_
  refine g_aloadN 8 rfl C X2 d10_7 rfl rfl ?_
  refine g_getF 11 rfl C X2 (host := "") (Or.inl (hw _ (List.mem_of_getElem? (i := 38) rfl))) Via.refl e3 F_previousMember d10_8 fun T4 X5 e6 => ?_
  refine g_iloadN 12 rfl C X5 d10_11 rfl ?_
  refine g_iaload 13 rfl C X5 e6 B_previousMember (i) hi (by omega) x hPM d10_12 ?_
  refine g_istoreN 14 rfl C X5 x rfl #[.val (.ref b0), .val (.int p1), .val (.int (0 : Int32)), .val (.int x), .unset] d10_13 rfl ?_
  refine g_aloadN 15 rfl C X5 d10_14 rfl rfl ?_
  refine g_getF 18 rfl C X5 (host := "") (Or.inl (hw _ (List.mem_of_getElem? (i := 36) rfl))) Via.refl e6 F_nextMember d10_15 fun T7 X8 e9 => ?_
  refine g_iloadN 19 rfl C X8 d10_18 rfl ?_
  refine g_iaload 20 rfl C X8 e9 B_nextMember (i) hi (by omega) (-1 : Int32) hNM d10_19 ?_
  refine g_istore 22 rfl C X8 (-1 : Int32) rfl #[.val (.ref b0), .val (.int p1), .val (.int (0 : Int32)), .val (.int x), .val (.int (-1 : Int32))] d10_20 rfl ?_
  refine g_iloadN 23 rfl C X8 d10_22 rfl ?_
  refine g_iconst 24 rfl C X8 (-1 : Int32) d10_23 rfl ?_
  have hq11 : ¬ (x.toInt = (-1 : Int32).toInt) := by
    have fr12 := rng32 x
    have fc13 : (-1 : Int32).toInt = -1 := rfl
    omega
  refine g_icmp_ne_t 38 C X8 d10_24 (by decide) (by decide) hq11 ?_
  refine g_aloadN 39 rfl C X8 d10_38 rfl rfl ?_
  refine g_getF 42 rfl C X8 (host := "") (Or.inl (hw _ (List.mem_of_getElem? (i := 36) rfl))) Via.refl e9 F_nextMember d10_39 fun T14 X15 e16 => ?_
  refine g_iloadN 43 rfl C X15 d10_42 rfl ?_
  refine g_iload 45 rfl C X15 d10_43 rfl ?_
  refine g_iastore 46 rfl C X15 e16 B_nextMember (j) hj (by omega) (-1 : Int32) rfl d10_45 N0 g_w11 fun T17 h18 ls19 X20 e21 W22 B23 N24 => ?_
  have F25 := E_b0.wr W22
  have F26 := F_firstMember.other W22 (Or.inl (Nat.ne_of_lt (Nat.lt_trans (Nat.lt_trans lt_b0_w3 lt_w3_w10) lt_w10_w11)))
  have F27 := B_firstMember.other W22 (Nat.ne_of_lt (Nat.lt_trans lt_w3_w10 lt_w10_w11))
  have F28 := F_exitOfCounter.other W22 (Or.inl (Nat.ne_of_lt (Nat.lt_trans (Nat.lt_trans lt_b0_w3 lt_w3_w10) lt_w10_w11)))
  have F29 := B_exitOfCounter.other W22 (Nat.ne_of_lt lt_w10_w11)
  have F30 := F_nextMember.other W22 (Or.inl (Nat.ne_of_lt (Nat.lt_trans (Nat.lt_trans lt_b0_w3 lt_w3_w10) lt_w10_w11)))
  have F31 := F_previousMember.other W22 (Or.inl (Nat.ne_of_lt (Nat.lt_trans (Nat.lt_trans lt_b0_w3 lt_w3_w10) lt_w10_w11)))
  have F32 := B_previousMember.other W22 (Nat.ne_of_gt lt_w11_w12)
  have Zs33 := Nat.le_trans Z0 (Nat.le_of_eq W22.size.symm)
  have Kp34 : Keep h0 h18 [w10, w11] := (Keep.refl h0 [w10, w11]).wr W22 (Or.inl (List.mem_of_getElem? (i := 1) rfl))
  refine g_iload 48 rfl C X20 d10_46 rfl ?_
  refine g_iconst 49 rfl C X20 (-1 : Int32) d10_48 rfl ?_
  refine g_icmp_eq_t 60 C X20 d10_49 (by decide) (by decide) (by decide) ?_
  refine g_aloadN 61 rfl C X20 d10_60 rfl rfl ?_
  refine g_getF 64 rfl C X20 (host := "") (Or.inl (hw _ (List.mem_of_getElem? (i := 34) rfl))) Via.refl e21 F28 d10_61 fun T35 X36 e37 => ?_
  refine g_iloadN 65 rfl C X36 d10_64 rfl ?_
  refine g_iconst 66 rfl C X36 (-1 : Int32) d10_65 rfl ?_
  refine g_iastore 67 rfl C X36 e37 F29 (i) hi (by omega) (-1 : Int32) rfl d10_66 N24 g_w10 fun T38 h39 ls40 X41 e42 W43 B44 N45 => ?_
  have F46 := F25.wr W43
  have F47 := F26.other W43 (Or.inl (Nat.ne_of_lt (Nat.lt_trans lt_b0_w3 lt_w3_w10)))
  have F48 := F27.other W43 (Nat.ne_of_lt lt_w3_w10)
  have F49 := F28.other W43 (Or.inl (Nat.ne_of_lt (Nat.lt_trans lt_b0_w3 lt_w3_w10)))
  have F50 := F30.other W43 (Or.inl (Nat.ne_of_lt (Nat.lt_trans lt_b0_w3 lt_w3_w10)))
  have F51 := B23.other W43 (Nat.ne_of_gt lt_w10_w11)
  have F52 := F31.other W43 (Or.inl (Nat.ne_of_lt (Nat.lt_trans lt_b0_w3 lt_w3_w10)))
  have F53 := F32.other W43 (Nat.ne_of_gt (Nat.lt_trans lt_w10_w11 lt_w11_w12))
  have Zs54 := Nat.le_trans Zs33 (Nat.le_of_eq W43.size.symm)
  have Kp55 : Keep h0 h39 [w10, w11] := Kp34.wr W43 (Or.inl (List.mem_of_getElem? (i := 0) rfl))
  refine g_aloadN 68 rfl C X41 d10_67 rfl rfl ?_
  refine g_getF 71 rfl C X41 (host := "") (Or.inl (hw _ (List.mem_of_getElem? (i := 16) rfl))) Via.refl e42 F47 d10_68 fun T56 X57 e58 => ?_
  refine g_iloadN 72 rfl C X57 d10_71 rfl ?_
  refine g_iaload 73 rfl C X57 e58 F48 0 (by decide) (by decide) x hFM d10_72 ?_
  refine g_iconst 74 rfl C X57 (-1 : Int32) d10_73 rfl ?_
  refine g_icmp_ne_t 121 C X57 d10_74 (by decide) (by decide) hq11 ?_
  exact g_retV C X57 rfl d10_121 e58 (by decide) (by decide) ⟨rfl, N45, Kp55, F51, ⟨_, B44⟩⟩
theorem ef_10_1 (m : MethodId) (b0 : Addr) (p1 : Int32) : entryFrame m #[(.ref b0), (.int p1)] 5 = mkF m 0 #[.val (.ref b0), .val (.int p1), .unset, .unset, .unset] [] := by first | (simp [entryFrame, mkF, argsToLocals, Value.category]; done) | rfl
def Q10_1 (Z : State) (b0 : Addr) (p1 : Int32) (w3 : Addr) (f_firstMember : Nat → Int32) (w10 : Addr) (f_exitOfCounter : Nat → Int32) (w11 : Addr) (f_nextMember : Nat → Int32) (w12 : Addr) (f_previousMember : Nat → Int32) (i : Nat) (x : Int32) (j : Nat) (h0 : Heap) (n0 : Nat) (v : Option Value) (h : Heap) (L : List Loc) : Prop := v = none ∧ Fr n0 L ∧ Keep h0 h [w10, w11] ∧ Ba Z h w11 .int 4 (upd f_nextMember j (-1 : Int32)) ∧ ∃ g, Ba Z h w10 .int 4 g
set_option maxRecDepth 65536 in
set_option maxHeartbeats 40000000 in
theorem rm10_1 (l : Launch) (Z : State) (a0 : Array Value) (hw : ∀ d ∈ tables_1, d.before a0 Z = true) (ws : List Jvm.Cond) (b0 : Addr) (p1 : Int32) (w3 : Addr) (f_firstMember : Nat → Int32) (w10 : Addr) (f_exitOfCounter : Nat → Int32) (w11 : Addr) (f_nextMember : Nat → Int32) (w12 : Addr) (f_previousMember : Nat → Int32) (i : Nat) (x : Int32) (j : Nat) (h0 : Heap) (n0 : Nat) (Z0 : n0 ≤ h0.size) (E_b0 : Exa Z h0 b0 "com/example/bisimulation/bisimulation/lts/Exits") (F_firstMember : Fld Z h0 b0 "com/example/bisimulation/bisimulation/lts/Exits" "firstMember" "[I" (.ref w3)) (B_firstMember : Ba Z h0 w3 .int 4 f_firstMember) (F_exitOfCounter : Fld Z h0 b0 "com/example/bisimulation/bisimulation/lts/Exits" "exitOfCounter" "[I" (.ref w10)) (B_exitOfCounter : Ba Z h0 w10 .int 4 f_exitOfCounter) (F_nextMember : Fld Z h0 b0 "com/example/bisimulation/bisimulation/lts/Exits" "nextMember" "[I" (.ref w11)) (B_nextMember : Ba Z h0 w11 .int 4 f_nextMember) (F_previousMember : Fld Z h0 b0 "com/example/bisimulation/bisimulation/lts/Exits" "previousMember" "[I" (.ref w12)) (B_previousMember : Ba Z h0 w12 .int 4 f_previousMember) (lt_b0_w3 : b0 < w3) (lt_w3_w10 : w3 < w10) (lt_w10_w11 : w10 < w11) (lt_w11_w12 : w11 < w12) (g_b0 : n0 ≤ b0) (hi : p1.toInt = i) (hi4 : i < 4) (hEO : f_exitOfCounter i = (1 : Int32)) (hPM : f_previousMember i = x) (hNM : f_nextMember i = (-1 : Int32)) (hFM : f_firstMember 1 = x) (hj : x.toInt = j) (hj4 : j < 4) :
    MetFree l (⟨"com/example/bisimulation/bisimulation/lts/Exits", "leave", "(I)V"⟩ : MethodName) (head1 (Jvm.Cond.code (⟨"com/example/bisimulation/bisimulation/lts/Exits", "leave", "(I)V"⟩ : MethodName) prog_51_method_4_code 5 none :: ws) ({ frames := 0, cells := 0, slots := 0, locals := 0 } : Room)) (fun a U => a = #[(.ref b0), (.int p1)] ∧ Z.Warmed39 U.vm ∧ U.heap = h0) (fun _ _ _ _ _ => True) (fun _ U o U' => ∃ v L, o = .returned v ∧ Q10_1 Z b0 p1 w3 f_firstMember w10 f_exitOfCounter w11 f_nextMember w12 f_previousMember i x j h0 n0 v U'.heap L ∧ FrameEnd U o U' L ({ frames := 0, cells := 0, slots := 0, locals := 0 } : Room).cells ({ frames := 0, cells := 0, slots := 0, locals := 0 } : Room).slots) := by
  refine MetFree.of_bodySF (plainFor_of_name pn_90945715) hisR ?_
  intro p e s m args below meth c s₁ Bd hml0 hP hK
  obtain ⟨rfl, hZ, hh⟩ := hP
  have C : Ctx p s m meth c Z "com/example/bisimulation/bisimulation/lts/Exits" "leave" prog_51_method_4_code 5 none := Ctx.of Bd hml0 hZ
  have X0 : Stand p l e ({ frames := 0, cells := 0, slots := 0, locals := 0 } : Room) s m #[(.ref b0), (.int p1)] below meth c s₁ [] 0 0 := Stand.of_body Bd
  have e0 : s₁.heap = h0 := by rw [← hh, Bd.state]; rfl
  have N0 := Fr.nil n0
  refine Goes.enter (ef_10_1 m b0 p1) ?_
  clear hK hml0 hh
  have g_w3 : n0 ≤ w3 := Nat.le_trans g_b0 (Nat.le_of_lt lt_b0_w3)
  have g_w10 : n0 ≤ w10 := Nat.le_trans g_b0 (Nat.le_of_lt (Nat.lt_trans lt_b0_w3 lt_w3_w10))
  have g_w11 : n0 ≤ w11 := Nat.le_trans g_b0 (Nat.le_of_lt (Nat.lt_trans (Nat.lt_trans lt_b0_w3 lt_w3_w10) lt_w10_w11))
  have g_w12 : n0 ≤ w12 := Nat.le_trans g_b0 (Nat.le_of_lt (Nat.lt_trans (Nat.lt_trans (Nat.lt_trans lt_b0_w3 lt_w3_w10) lt_w10_w11) lt_w11_w12))
  refine g_aloadN 1 rfl C X0 d10_0 rfl rfl ?_
  refine g_getF 4 rfl C X0 (host := "") (Or.inl (hw _ (List.mem_of_getElem? (i := 34) rfl))) Via.refl e0 F_exitOfCounter d10_1 fun T1 X2 e3 => ?_
  refine g_iloadN 5 rfl C X2 d10_4 rfl ?_
  refine g_iaload 6 rfl C X2 e3 B_exitOfCounter (i) hi (by omega) (1 : Int32) hEO d10_5 ?_
  refine g_istoreN 7 rfl C X2 (1 : Int32) rfl #[.val (.ref b0), .val (.int p1), .val (.int (1 : Int32)), .unset, .unset] d10_6 rfl ?_
  refine g_aloadN 8 rfl C X2 d10_7 rfl rfl ?_
  refine g_getF 11 rfl C X2 (host := "") (Or.inl (hw _ (List.mem_of_getElem? (i := 38) rfl))) Via.refl e3 F_previousMember d10_8 fun T4 X5 e6 => ?_
  refine g_iloadN 12 rfl C X5 d10_11 rfl ?_
  refine g_iaload 13 rfl C X5 e6 B_previousMember (i) hi (by omega) x hPM d10_12 ?_
  refine g_istoreN 14 rfl C X5 x rfl #[.val (.ref b0), .val (.int p1), .val (.int (1 : Int32)), .val (.int x), .unset] d10_13 rfl ?_
  refine g_aloadN 15 rfl C X5 d10_14 rfl rfl ?_
  refine g_getF 18 rfl C X5 (host := "") (Or.inl (hw _ (List.mem_of_getElem? (i := 36) rfl))) Via.refl e6 F_nextMember d10_15 fun T7 X8 e9 => ?_
  refine g_iloadN 19 rfl C X8 d10_18 rfl ?_
  refine g_iaload 20 rfl C X8 e9 B_nextMember (i) hi (by omega) (-1 : Int32) hNM d10_19 ?_
  refine g_istore 22 rfl C X8 (-1 : Int32) rfl #[.val (.ref b0), .val (.int p1), .val (.int (1 : Int32)), .val (.int x), .val (.int (-1 : Int32))] d10_20 rfl ?_
  refine g_iloadN 23 rfl C X8 d10_22 rfl ?_
  refine g_iconst 24 rfl C X8 (-1 : Int32) d10_23 rfl ?_
  have hq11 : ¬ (x.toInt = (-1 : Int32).toInt) := by
    have fr12 := rng32 x
    have fc13 : (-1 : Int32).toInt = -1 := rfl
    omega
  refine g_icmp_ne_t 38 C X8 d10_24 (by decide) (by decide) hq11 ?_
  refine g_aloadN 39 rfl C X8 d10_38 rfl rfl ?_
  refine g_getF 42 rfl C X8 (host := "") (Or.inl (hw _ (List.mem_of_getElem? (i := 36) rfl))) Via.refl e9 F_nextMember d10_39 fun T14 X15 e16 => ?_
  refine g_iloadN 43 rfl C X15 d10_42 rfl ?_
  refine g_iload 45 rfl C X15 d10_43 rfl ?_
  refine g_iastore 46 rfl C X15 e16 B_nextMember (j) hj (by omega) (-1 : Int32) rfl d10_45 N0 g_w11 fun T17 h18 ls19 X20 e21 W22 B23 N24 => ?_
  have F25 := E_b0.wr W22
  have F26 := F_firstMember.other W22 (Or.inl (Nat.ne_of_lt (Nat.lt_trans (Nat.lt_trans lt_b0_w3 lt_w3_w10) lt_w10_w11)))
  have F27 := B_firstMember.other W22 (Nat.ne_of_lt (Nat.lt_trans lt_w3_w10 lt_w10_w11))
  have F28 := F_exitOfCounter.other W22 (Or.inl (Nat.ne_of_lt (Nat.lt_trans (Nat.lt_trans lt_b0_w3 lt_w3_w10) lt_w10_w11)))
  have F29 := B_exitOfCounter.other W22 (Nat.ne_of_lt lt_w10_w11)
  have F30 := F_nextMember.other W22 (Or.inl (Nat.ne_of_lt (Nat.lt_trans (Nat.lt_trans lt_b0_w3 lt_w3_w10) lt_w10_w11)))
  have F31 := F_previousMember.other W22 (Or.inl (Nat.ne_of_lt (Nat.lt_trans (Nat.lt_trans lt_b0_w3 lt_w3_w10) lt_w10_w11)))
  have F32 := B_previousMember.other W22 (Nat.ne_of_gt lt_w11_w12)
  have Zs33 := Nat.le_trans Z0 (Nat.le_of_eq W22.size.symm)
  have Kp34 : Keep h0 h18 [w10, w11] := (Keep.refl h0 [w10, w11]).wr W22 (Or.inl (List.mem_of_getElem? (i := 1) rfl))
  refine g_iload 48 rfl C X20 d10_46 rfl ?_
  refine g_iconst 49 rfl C X20 (-1 : Int32) d10_48 rfl ?_
  refine g_icmp_eq_t 60 C X20 d10_49 (by decide) (by decide) (by decide) ?_
  refine g_aloadN 61 rfl C X20 d10_60 rfl rfl ?_
  refine g_getF 64 rfl C X20 (host := "") (Or.inl (hw _ (List.mem_of_getElem? (i := 34) rfl))) Via.refl e21 F28 d10_61 fun T35 X36 e37 => ?_
  refine g_iloadN 65 rfl C X36 d10_64 rfl ?_
  refine g_iconst 66 rfl C X36 (-1 : Int32) d10_65 rfl ?_
  refine g_iastore 67 rfl C X36 e37 F29 (i) hi (by omega) (-1 : Int32) rfl d10_66 N24 g_w10 fun T38 h39 ls40 X41 e42 W43 B44 N45 => ?_
  have F46 := F25.wr W43
  have F47 := F26.other W43 (Or.inl (Nat.ne_of_lt (Nat.lt_trans lt_b0_w3 lt_w3_w10)))
  have F48 := F27.other W43 (Nat.ne_of_lt lt_w3_w10)
  have F49 := F28.other W43 (Or.inl (Nat.ne_of_lt (Nat.lt_trans lt_b0_w3 lt_w3_w10)))
  have F50 := F30.other W43 (Or.inl (Nat.ne_of_lt (Nat.lt_trans lt_b0_w3 lt_w3_w10)))
  have F51 := B23.other W43 (Nat.ne_of_gt lt_w10_w11)
  have F52 := F31.other W43 (Or.inl (Nat.ne_of_lt (Nat.lt_trans lt_b0_w3 lt_w3_w10)))
  have F53 := F32.other W43 (Nat.ne_of_gt (Nat.lt_trans lt_w10_w11 lt_w11_w12))
  have Zs54 := Nat.le_trans Zs33 (Nat.le_of_eq W43.size.symm)
  have Kp55 : Keep h0 h39 [w10, w11] := Kp34.wr W43 (Or.inl (List.mem_of_getElem? (i := 0) rfl))
  refine g_aloadN 68 rfl C X41 d10_67 rfl rfl ?_
  refine g_getF 71 rfl C X41 (host := "") (Or.inl (hw _ (List.mem_of_getElem? (i := 16) rfl))) Via.refl e42 F47 d10_68 fun T56 X57 e58 => ?_
  refine g_iloadN 72 rfl C X57 d10_71 rfl ?_
  refine g_iaload 73 rfl C X57 e58 F48 1 (by decide) (by decide) x hFM d10_72 ?_
  refine g_iconst 74 rfl C X57 (-1 : Int32) d10_73 rfl ?_
  refine g_icmp_ne_t 121 C X57 d10_74 (by decide) (by decide) hq11 ?_
  exact g_retV C X57 rfl d10_121 e58 (by decide) (by decide) ⟨rfl, N45, Kp55, F51, ⟨_, B44⟩⟩
theorem pd_1793250 : parseMethodDescriptor "(II)V" = some ⟨[.int, .int], none⟩ := by decide +kernel
theorem pd_35459080 : parseMethodDescriptor "(III)I" = some ⟨[.int, .int, .int], some .int⟩ := by decide +kernel
theorem pd_52681284 : parseMethodDescriptor "(I)I" = some ⟨[.int], some .int⟩ := by decide +kernel
theorem pn_764386 : plainName "com/example/bisimulation/bisimulation/lts/ExitsJoinPinLaw" = true := by first | (simp [plainName, overriddenIn]; done) | decide +kernel
theorem ef_0 (m : MethodId) (p0 : Int32) (p1 : Int32) (p2 : Int32) (p3 : Int32) : entryFrame m #[(.int p0), (.int p1), (.int p2), (.int p3)] maxLocals = mkF m 0 #[.val (.int p0), .val (.int p1), .val (.int p2), .val (.int p3), .unset, .unset, .unset, .unset, .unset, .unset, .unset, .unset] [] := by first | (simp [entryFrame, mkF, argsToLocals, Value.category, maxLocals]; done) | rfl
def Q0 (Z : State) (p0 : Int32) (p1 : Int32) (p2 : Int32) (p3 : Int32) (h0 : Heap) (n0 : Nat) (v : Option Value) (h : Heap) (L : List Loc) : Prop := v = some (.int 1) ∧ Fr n0 L
set_option maxRecDepth 65536 in
set_option maxHeartbeats 40000000 in
theorem rm0 (l : Launch) (Z : State) (a0 : Array Value) (hw : ∀ d ∈ tables_1, d.before a0 Z = true) (ws : List Jvm.Cond) (p0 : Int32) (p1 : Int32) (p2 : Int32) (p3 : Int32) (h0 : Heap) (n0 : Nat) (Z0 : n0 ≤ h0.size) :
    MetFree l x (head1 (Jvm.Cond.code x code maxLocals ret :: ws) room_1) (fun a U => a = #[(.int p0), (.int p1), (.int p2), (.int p3)] ∧ Z.Warmed39 U.vm ∧ U.heap = h0) (fun _ _ _ _ _ => True) (fun _ U o U' => ∃ v L, o = .returned v ∧ Q0 Z p0 p1 p2 p3 h0 n0 v U'.heap L ∧ FrameEnd U o U' L 40 192) := by
  refine MetFree.of_bodySF (plainFor_of_name pn_764386) hisR ?_
  intro p e s m args below meth c s₁ Bd hml0 hP hK
  obtain ⟨rfl, hZ, hh⟩ := hP
  have C : Ctx p s m meth c Z "com/example/bisimulation/bisimulation/lts/ExitsJoinPinLaw" "law" code maxLocals ret := Ctx.of Bd hml0 hZ
  have X0 : Stand p l e room_1 s m #[(.int p0), (.int p1), (.int p2), (.int p3)] below meth c s₁ [] 0 0 := Stand.of_body Bd
  have e0 : s₁.heap = h0 := by rw [← hh, Bd.state]; rfl
  have N0 := Fr.nil n0
  refine Goes.enter (ef_0 m p0 p1 p2 p3) ?_
  clear hK hml0 hh
  refine g_new 3 rfl C X0 (hw _ (List.mem_of_getElem? (i := 0) rfl)) (hw _ (List.mem_of_getElem? (i := 1) rfl)) (hw _ (List.mem_of_getElem? (i := 2) rfl)) e0 at_0 (by decide) (by decide) fun T1 h2 o3 g4 X5 e6 E7 A8 D9 => ?_
  have gn10 : n0 ≤ o3 := by rw [g4]; exact Z0
  have Zs11 := Nat.le_trans Z0 E7.1
  have F12 : Fld Z h2 o3 "com/example/bisimulation/bisimulation/lts/Exits" "blockOf" "[I" .null := D9 (Or.inr (hw _ (List.mem_of_getElem? (i := 11) rfl))) (ty := (.array .int)) (by decide)
  have F13 : Fld Z h2 o3 "com/example/bisimulation/bisimulation/lts/Exits" "labelOf" "[I" .null := D9 (Or.inr (hw _ (List.mem_of_getElem? (i := 13) rfl))) (ty := (.array .int)) (by decide)
  have F14 : Fld Z h2 o3 "com/example/bisimulation/bisimulation/lts/Exits" "coarseOf" "[I" .null := D9 (Or.inr (hw _ (List.mem_of_getElem? (i := 15) rfl))) (ty := (.array .int)) (by decide)
  have F15 : Fld Z h2 o3 "com/example/bisimulation/bisimulation/lts/Exits" "firstMember" "[I" .null := D9 (Or.inr (hw _ (List.mem_of_getElem? (i := 17) rfl))) (ty := (.array .int)) (by decide)
  have F16 : Fld Z h2 o3 "com/example/bisimulation/bisimulation/lts/Exits" "nextExit" "[I" .null := D9 (Or.inr (hw _ (List.mem_of_getElem? (i := 19) rfl))) (ty := (.array .int)) (by decide)
  have F17 : Fld Z h2 o3 "com/example/bisimulation/bisimulation/lts/Exits" "previousExit" "[I" .null := D9 (Or.inr (hw _ (List.mem_of_getElem? (i := 21) rfl))) (ty := (.array .int)) (by decide)
  have F18 : Fld Z h2 o3 "com/example/bisimulation/bisimulation/lts/Exits" "freeExits" "[I" .null := D9 (Or.inr (hw _ (List.mem_of_getElem? (i := 23) rfl))) (ty := (.array .int)) (by decide)
  have F19 : Fld Z h2 o3 "com/example/bisimulation/bisimulation/lts/Exits" "firstExit" "[I" .null := D9 (Or.inr (hw _ (List.mem_of_getElem? (i := 25) rfl))) (ty := (.array .int)) (by decide)
  have F20 : Fld Z h2 o3 "com/example/bisimulation/bisimulation/lts/Exits" "lastExit" "[I" .null := D9 (Or.inr (hw _ (List.mem_of_getElem? (i := 27) rfl))) (ty := (.array .int)) (by decide)
  have F21 : Fld Z h2 o3 "com/example/bisimulation/bisimulation/lts/Exits" "exitCount" "[I" .null := D9 (Or.inr (hw _ (List.mem_of_getElem? (i := 29) rfl))) (ty := (.array .int)) (by decide)
  have F22 : Fld Z h2 o3 "com/example/bisimulation/bisimulation/lts/Exits" "exitOfCounter" "[I" .null := D9 (Or.inr (hw _ (List.mem_of_getElem? (i := 35) rfl))) (ty := (.array .int)) (by decide)
  have F23 : Fld Z h2 o3 "com/example/bisimulation/bisimulation/lts/Exits" "nextMember" "[I" .null := D9 (Or.inr (hw _ (List.mem_of_getElem? (i := 37) rfl))) (ty := (.array .int)) (by decide)
  have F24 : Fld Z h2 o3 "com/example/bisimulation/bisimulation/lts/Exits" "previousMember" "[I" .null := D9 (Or.inr (hw _ (List.mem_of_getElem? (i := 39) rfl))) (ty := (.array .int)) (by decide)
  have F25 : Fld Z h2 o3 "com/example/bisimulation/bisimulation/lts/Exits" "freeCount" "I" (.int (0 : Int32)) := D9 (Or.inl (hw _ (List.mem_of_getElem? (i := 46) rfl))) (ty := .int) (by decide)
  have F26 : Fld Z h2 o3 "com/example/bisimulation/bisimulation/lts/Exits" "limit" "I" (.int (0 : Int32)) := D9 (Or.inl (hw _ (List.mem_of_getElem? (i := 48) rfl))) (ty := .int) (by decide)
  refine g_dup 4 rfl C X5 at_3 rfl ?_
  refine g_iconst 5 rfl C X5 (2 : Int32) at_4 rfl ?_
  refine g_iconst 6 rfl C X5 (4 : Int32) at_5 rfl ?_
  refine g_callN 9 rfl C X5 (argsL := [(.int (2 : Int32)), (.int (4 : Int32))]) rfl rfl (hw _ (List.mem_of_getElem? (i := 3) rfl)) (hw _ (List.mem_of_getElem? (i := 4) rfl)) (hw _ (List.mem_of_getElem? (i := 5) rfl)) (hw _ (List.mem_of_getElem? (i := 2) rfl)) e6 (rm1 l Z a0 hw [] o3 h2 n0 Zs11 A8 F12 F13 F14 F15 F16 F17 F18 F19 F20 F21 F22 F23 F24 F25 F26 gn10) (lenOf pd_1793250 rfl) (by decide) (by decide) (by decide) (by decide) rfl (W := 1) (Nat.le_of_eq rfl) (by decide) at_6 rfl fun r27 T28 Lc29 X30 hQ31 => ?_
  have lt89 := A8.lt
  obtain ⟨y32, y33, y34, y35, y36, y37, y38, y39, y40, y41, y42, y43, y44, rfl, Nq45, Kc46, F47, F48, F49, F50, F51, F52, F53, F54, F55, F56, F57, F58, F59, F60, F61, F62, B63, B64, B65, B66, B67, B68, B69, B70, B71, B72, B73, B74, B75, sz76, lt77, lt78, lt79, lt80, lt81, lt82, lt83, lt84, lt85, lt86, lt87, lt88⟩ := hQ31
  have lt90 : o3 < y32 := Nat.lt_of_lt_of_le lt89 sz76
  have gn91 : n0 ≤ y32 := Nat.le_trans gn10 (Nat.le_of_lt lt90)
  have gn92 : n0 ≤ y33 := Nat.le_trans gn10 (Nat.le_of_lt (Nat.lt_trans lt90 lt77))
  have gn93 : n0 ≤ y34 := Nat.le_trans gn10 (Nat.le_of_lt (Nat.lt_trans (Nat.lt_trans lt90 lt77) lt78))
  have gn94 : n0 ≤ y35 := Nat.le_trans gn10 (Nat.le_of_lt (Nat.lt_trans (Nat.lt_trans (Nat.lt_trans lt90 lt77) lt78) lt79))
  have gn95 : n0 ≤ y36 := Nat.le_trans gn10 (Nat.le_of_lt (Nat.lt_trans (Nat.lt_trans (Nat.lt_trans (Nat.lt_trans lt90 lt77) lt78) lt79) lt80))
  have gn96 : n0 ≤ y37 := Nat.le_trans gn10 (Nat.le_of_lt (Nat.lt_trans (Nat.lt_trans (Nat.lt_trans (Nat.lt_trans (Nat.lt_trans lt90 lt77) lt78) lt79) lt80) lt81))
  have gn97 : n0 ≤ y38 := Nat.le_trans gn10 (Nat.le_of_lt (Nat.lt_trans (Nat.lt_trans (Nat.lt_trans (Nat.lt_trans (Nat.lt_trans (Nat.lt_trans lt90 lt77) lt78) lt79) lt80) lt81) lt82))
  have gn98 : n0 ≤ y39 := Nat.le_trans gn10 (Nat.le_of_lt (Nat.lt_trans (Nat.lt_trans (Nat.lt_trans (Nat.lt_trans (Nat.lt_trans (Nat.lt_trans (Nat.lt_trans lt90 lt77) lt78) lt79) lt80) lt81) lt82) lt83))
  have gn99 : n0 ≤ y40 := Nat.le_trans gn10 (Nat.le_of_lt (Nat.lt_trans (Nat.lt_trans (Nat.lt_trans (Nat.lt_trans (Nat.lt_trans (Nat.lt_trans (Nat.lt_trans (Nat.lt_trans lt90 lt77) lt78) lt79) lt80) lt81) lt82) lt83) lt84))
  have gn100 : n0 ≤ y41 := Nat.le_trans gn10 (Nat.le_of_lt (Nat.lt_trans (Nat.lt_trans (Nat.lt_trans (Nat.lt_trans (Nat.lt_trans (Nat.lt_trans (Nat.lt_trans (Nat.lt_trans (Nat.lt_trans lt90 lt77) lt78) lt79) lt80) lt81) lt82) lt83) lt84) lt85))
  have gn101 : n0 ≤ y42 := Nat.le_trans gn10 (Nat.le_of_lt (Nat.lt_trans (Nat.lt_trans (Nat.lt_trans (Nat.lt_trans (Nat.lt_trans (Nat.lt_trans (Nat.lt_trans (Nat.lt_trans (Nat.lt_trans (Nat.lt_trans lt90 lt77) lt78) lt79) lt80) lt81) lt82) lt83) lt84) lt85) lt86))
  have gn102 : n0 ≤ y43 := Nat.le_trans gn10 (Nat.le_of_lt (Nat.lt_trans (Nat.lt_trans (Nat.lt_trans (Nat.lt_trans (Nat.lt_trans (Nat.lt_trans (Nat.lt_trans (Nat.lt_trans (Nat.lt_trans (Nat.lt_trans (Nat.lt_trans lt90 lt77) lt78) lt79) lt80) lt81) lt82) lt83) lt84) lt85) lt86) lt87))
  have gn103 : n0 ≤ y44 := Nat.le_trans gn10 (Nat.le_of_lt (Nat.lt_trans (Nat.lt_trans (Nat.lt_trans (Nat.lt_trans (Nat.lt_trans (Nat.lt_trans (Nat.lt_trans (Nat.lt_trans (Nat.lt_trans (Nat.lt_trans (Nat.lt_trans (Nat.lt_trans lt90 lt77) lt78) lt79) lt80) lt81) lt82) lt83) lt84) lt85) lt86) lt87) lt88))
  have F104 := A8.keep Kc46
  have Zs105 := Nat.le_trans Zs11 Kc46.1
  have N106 := Fr.app N0 Nq45
  show Goes _ _ _ _ _ _ 9 _ [(.ref o3)]
  refine g_astore 11 rfl C X30 #[.val (.int p0), .val (.int p1), .val (.int p2), .val (.int p3), .val (.ref o3), .unset, .unset, .unset, .unset, .unset, .unset, .unset] at_9 rfl rfl ?_
  refine g_aload 13 rfl C X30 at_11 rfl rfl ?_
  refine g_iloadN 14 rfl C X30 at_13 rfl ?_
  refine g_iconst 15 rfl C X30 (1 : Int32) at_14 rfl ?_
  refine g_iand 16 rfl C X30 at_15 ?_
  refine g_iloadN 17 rfl C X30 at_16 rfl ?_
  refine g_iloadN 18 rfl C X30 at_17 rfl ?_
  have hq108 : 0 ≤ (p2 &&& (1 : Int32)).toInt ∧ (p2 &&& (1 : Int32)).toInt ≤ 1 := by
    have fr109 := rng32 p2
    have fc110 : (1 : Int32).toInt = 1 := rfl
    have fo111 : (p2 &&& (1 : Int32)).toInt = p2.toInt % 2 := c_mask p2 (1 : Int32) 1 (by decide) (by decide)
    omega
  obtain ⟨n107, hn107⟩ : ∃ n : Nat, (p2 &&& (1 : Int32)).toInt = n := ⟨(p2 &&& (1 : Int32)).toInt.toNat, by omega⟩
  have hn107m : n107 ≤ 1 := by omega
  have hl112 : ∀ k, k < 2 → -1 ≤ ((fun _ => (-1 : Int32)) k).toInt ∧ ((fun _ => (-1 : Int32)) k).toInt < 4 := fun k hk => by
    have c0 : (0 : Int32).toInt = 0 := rfl
    have c1 : (-1 : Int32).toInt = -1 := rfl
    show (-1 : Int) ≤ (-1 : Int32).toInt ∧ (-1 : Int32).toInt < (4 : Int)
    omega
  refine g_callV 21 rfl C X30 (argsL := [(.int (p2 &&& (1 : Int32))), (.int p2), (.int p1)]) (hw _ (List.mem_of_getElem? (i := 40) rfl)) (hw _ (List.mem_of_getElem? (i := 41) rfl)) (hw _ (List.mem_of_getElem? (i := 43) rfl)) (hw _ (List.mem_of_getElem? (i := 42) rfl)) (hw _ (List.mem_of_getElem? (i := 44) rfl)) (hw _ (List.mem_of_getElem? (i := 2) rfl)) rfl F47 (rm4_0 l Z a0 hw [] o3 (p2 &&& (1 : Int32)) p2 p1 y32 (fun _ => 0) y33 (fun _ => 0) y34 (fun _ => 0) y35 (fun _ => 0) y36 (fun _ => 0) y37 (fun _ => 0) y39 (fun _ => (-1 : Int32)) y40 (fun _ => (-1 : Int32)) y41 (fun _ => 0) y38 y42 y43 y44 n107 (T28.heap) n0 Zs105 F47 F48 B63 F49 B64 F50 B65 F51 B66 F52 B67 F53 B68 F55 B70 F56 B71 F57 B72 lt90 lt77 lt78 lt79 lt80 lt81 (Nat.lt_trans lt82 lt83) lt84 lt85 gn10 F54 F58 F59 F60 F61 F62 hn107 (by omega) hl112) (lenOf pd_35459080 rfl) (by decide) (by decide) (by decide) (by decide) rfl (W := 0) (Nat.le_of_eq rfl) (by decide) at_18 rfl fun r113 T114 Lc115 X116 hQ117 => ?_
  obtain ⟨rfl, Nq118, Kc119, F120, F121, F122, F123, F124, F125, F126, F127, F128, F129, F130, F131, F132, F133, F134, F135, ⟨f136, B143⟩, ⟨f137, B144⟩, ⟨f138, B145⟩, ⟨f139, B146⟩, ⟨f140, B147⟩, ⟨f141, B148⟩, ⟨f142, B149⟩, B150, B151⟩ := hQ117
  have F152 := F47.keep Kc119
  have F153 := B69.keep Kc119 (ninS (Nat.ne_of_gt (Nat.lt_trans (Nat.lt_trans (Nat.lt_trans (Nat.lt_trans (Nat.lt_trans (Nat.lt_trans lt90 lt77) lt78) lt79) lt80) lt81) lt82)) (ninS (Nat.ne_of_gt (Nat.lt_trans (Nat.lt_trans (Nat.lt_trans (Nat.lt_trans (Nat.lt_trans lt77 lt78) lt79) lt80) lt81) lt82)) (ninS (Nat.ne_of_gt (Nat.lt_trans (Nat.lt_trans (Nat.lt_trans (Nat.lt_trans lt78 lt79) lt80) lt81) lt82)) (ninS (Nat.ne_of_gt (Nat.lt_trans (Nat.lt_trans (Nat.lt_trans lt79 lt80) lt81) lt82)) (ninS (Nat.ne_of_gt (Nat.lt_trans (Nat.lt_trans lt80 lt81) lt82)) (ninS (Nat.ne_of_gt (Nat.lt_trans lt81 lt82)) (ninS (Nat.ne_of_gt lt82) (ninS (Nat.ne_of_lt lt83) (ninS (Nat.ne_of_lt (Nat.lt_trans lt83 lt84)) (ninS (Nat.ne_of_lt (Nat.lt_trans (Nat.lt_trans lt83 lt84) lt85)) nin0))))))))))
  have F154 := B73.keep Kc119 (ninS (Nat.ne_of_gt (Nat.lt_trans (Nat.lt_trans (Nat.lt_trans (Nat.lt_trans (Nat.lt_trans (Nat.lt_trans (Nat.lt_trans (Nat.lt_trans (Nat.lt_trans (Nat.lt_trans lt90 lt77) lt78) lt79) lt80) lt81) lt82) lt83) lt84) lt85) lt86)) (ninS (Nat.ne_of_gt (Nat.lt_trans (Nat.lt_trans (Nat.lt_trans (Nat.lt_trans (Nat.lt_trans (Nat.lt_trans (Nat.lt_trans (Nat.lt_trans (Nat.lt_trans lt77 lt78) lt79) lt80) lt81) lt82) lt83) lt84) lt85) lt86)) (ninS (Nat.ne_of_gt (Nat.lt_trans (Nat.lt_trans (Nat.lt_trans (Nat.lt_trans (Nat.lt_trans (Nat.lt_trans (Nat.lt_trans (Nat.lt_trans lt78 lt79) lt80) lt81) lt82) lt83) lt84) lt85) lt86)) (ninS (Nat.ne_of_gt (Nat.lt_trans (Nat.lt_trans (Nat.lt_trans (Nat.lt_trans (Nat.lt_trans (Nat.lt_trans (Nat.lt_trans lt79 lt80) lt81) lt82) lt83) lt84) lt85) lt86)) (ninS (Nat.ne_of_gt (Nat.lt_trans (Nat.lt_trans (Nat.lt_trans (Nat.lt_trans (Nat.lt_trans (Nat.lt_trans lt80 lt81) lt82) lt83) lt84) lt85) lt86)) (ninS (Nat.ne_of_gt (Nat.lt_trans (Nat.lt_trans (Nat.lt_trans (Nat.lt_trans (Nat.lt_trans lt81 lt82) lt83) lt84) lt85) lt86)) (ninS (Nat.ne_of_gt (Nat.lt_trans (Nat.lt_trans (Nat.lt_trans (Nat.lt_trans lt82 lt83) lt84) lt85) lt86)) (ninS (Nat.ne_of_gt (Nat.lt_trans (Nat.lt_trans lt84 lt85) lt86)) (ninS (Nat.ne_of_gt (Nat.lt_trans lt85 lt86)) (ninS (Nat.ne_of_gt lt86) nin0))))))))))
  have F155 := B74.keep Kc119 (ninS (Nat.ne_of_gt (Nat.lt_trans (Nat.lt_trans (Nat.lt_trans (Nat.lt_trans (Nat.lt_trans (Nat.lt_trans (Nat.lt_trans (Nat.lt_trans (Nat.lt_trans (Nat.lt_trans (Nat.lt_trans lt90 lt77) lt78) lt79) lt80) lt81) lt82) lt83) lt84) lt85) lt86) lt87)) (ninS (Nat.ne_of_gt (Nat.lt_trans (Nat.lt_trans (Nat.lt_trans (Nat.lt_trans (Nat.lt_trans (Nat.lt_trans (Nat.lt_trans (Nat.lt_trans (Nat.lt_trans (Nat.lt_trans lt77 lt78) lt79) lt80) lt81) lt82) lt83) lt84) lt85) lt86) lt87)) (ninS (Nat.ne_of_gt (Nat.lt_trans (Nat.lt_trans (Nat.lt_trans (Nat.lt_trans (Nat.lt_trans (Nat.lt_trans (Nat.lt_trans (Nat.lt_trans (Nat.lt_trans lt78 lt79) lt80) lt81) lt82) lt83) lt84) lt85) lt86) lt87)) (ninS (Nat.ne_of_gt (Nat.lt_trans (Nat.lt_trans (Nat.lt_trans (Nat.lt_trans (Nat.lt_trans (Nat.lt_trans (Nat.lt_trans (Nat.lt_trans lt79 lt80) lt81) lt82) lt83) lt84) lt85) lt86) lt87)) (ninS (Nat.ne_of_gt (Nat.lt_trans (Nat.lt_trans (Nat.lt_trans (Nat.lt_trans (Nat.lt_trans (Nat.lt_trans (Nat.lt_trans lt80 lt81) lt82) lt83) lt84) lt85) lt86) lt87)) (ninS (Nat.ne_of_gt (Nat.lt_trans (Nat.lt_trans (Nat.lt_trans (Nat.lt_trans (Nat.lt_trans (Nat.lt_trans lt81 lt82) lt83) lt84) lt85) lt86) lt87)) (ninS (Nat.ne_of_gt (Nat.lt_trans (Nat.lt_trans (Nat.lt_trans (Nat.lt_trans (Nat.lt_trans lt82 lt83) lt84) lt85) lt86) lt87)) (ninS (Nat.ne_of_gt (Nat.lt_trans (Nat.lt_trans (Nat.lt_trans lt84 lt85) lt86) lt87)) (ninS (Nat.ne_of_gt (Nat.lt_trans (Nat.lt_trans lt85 lt86) lt87)) (ninS (Nat.ne_of_gt (Nat.lt_trans lt86 lt87)) nin0))))))))))
  have F156 := B75.keep Kc119 (ninS (Nat.ne_of_gt (Nat.lt_trans (Nat.lt_trans (Nat.lt_trans (Nat.lt_trans (Nat.lt_trans (Nat.lt_trans (Nat.lt_trans (Nat.lt_trans (Nat.lt_trans (Nat.lt_trans (Nat.lt_trans (Nat.lt_trans lt90 lt77) lt78) lt79) lt80) lt81) lt82) lt83) lt84) lt85) lt86) lt87) lt88)) (ninS (Nat.ne_of_gt (Nat.lt_trans (Nat.lt_trans (Nat.lt_trans (Nat.lt_trans (Nat.lt_trans (Nat.lt_trans (Nat.lt_trans (Nat.lt_trans (Nat.lt_trans (Nat.lt_trans (Nat.lt_trans lt77 lt78) lt79) lt80) lt81) lt82) lt83) lt84) lt85) lt86) lt87) lt88)) (ninS (Nat.ne_of_gt (Nat.lt_trans (Nat.lt_trans (Nat.lt_trans (Nat.lt_trans (Nat.lt_trans (Nat.lt_trans (Nat.lt_trans (Nat.lt_trans (Nat.lt_trans (Nat.lt_trans lt78 lt79) lt80) lt81) lt82) lt83) lt84) lt85) lt86) lt87) lt88)) (ninS (Nat.ne_of_gt (Nat.lt_trans (Nat.lt_trans (Nat.lt_trans (Nat.lt_trans (Nat.lt_trans (Nat.lt_trans (Nat.lt_trans (Nat.lt_trans (Nat.lt_trans lt79 lt80) lt81) lt82) lt83) lt84) lt85) lt86) lt87) lt88)) (ninS (Nat.ne_of_gt (Nat.lt_trans (Nat.lt_trans (Nat.lt_trans (Nat.lt_trans (Nat.lt_trans (Nat.lt_trans (Nat.lt_trans (Nat.lt_trans lt80 lt81) lt82) lt83) lt84) lt85) lt86) lt87) lt88)) (ninS (Nat.ne_of_gt (Nat.lt_trans (Nat.lt_trans (Nat.lt_trans (Nat.lt_trans (Nat.lt_trans (Nat.lt_trans (Nat.lt_trans lt81 lt82) lt83) lt84) lt85) lt86) lt87) lt88)) (ninS (Nat.ne_of_gt (Nat.lt_trans (Nat.lt_trans (Nat.lt_trans (Nat.lt_trans (Nat.lt_trans (Nat.lt_trans lt82 lt83) lt84) lt85) lt86) lt87) lt88)) (ninS (Nat.ne_of_gt (Nat.lt_trans (Nat.lt_trans (Nat.lt_trans (Nat.lt_trans lt84 lt85) lt86) lt87) lt88)) (ninS (Nat.ne_of_gt (Nat.lt_trans (Nat.lt_trans (Nat.lt_trans lt85 lt86) lt87) lt88)) (ninS (Nat.ne_of_gt (Nat.lt_trans (Nat.lt_trans lt86 lt87) lt88)) nin0))))))))))
  have Zs157 := Nat.le_trans Zs105 Kc119.1
  have N158 := Fr.app N106 Nq118
  show Goes _ _ _ _ _ _ 21 _ [(.int (0 : Int32))]
  refine g_istore 23 rfl C X116 (0 : Int32) rfl #[.val (.int p0), .val (.int p1), .val (.int p2), .val (.int p3), .val (.ref o3), .val (.int (0 : Int32)), .unset, .unset, .unset, .unset, .unset, .unset] at_21 rfl ?_
  refine g_iloadN 24 rfl C X116 at_23 rfl ?_
  refine g_iconst 25 rfl C X116 (1 : Int32) at_24 rfl ?_
  refine g_iand 26 rfl C X116 at_25 ?_
  by_cases hb159 : (p3 &&& (1 : Int32)).toInt = 0
  · skip
    refine g_if_eq_t 33 C X116 at_26 (by decide) (by decide) hb159 ?_
    refine g_iconst 34 rfl C X116 (0 : Int32) at_33 rfl ?_
    refine g_istore 36 rfl C X116 (0 : Int32) rfl #[.val (.int p0), .val (.int p1), .val (.int p2), .val (.int p3), .val (.ref o3), .val (.int (0 : Int32)), .val (.int (0 : Int32)), .unset, .unset, .unset, .unset, .unset] at_34 rfl ?_
    refine g_iload 38 rfl C X116 at_36 rfl ?_
    refine g_istore 40 rfl C X116 (0 : Int32) rfl #[.val (.int p0), .val (.int p1), .val (.int p2), .val (.int p3), .val (.ref o3), .val (.int (0 : Int32)), .val (.int (0 : Int32)), .val (.int (0 : Int32)), .unset, .unset, .unset, .unset] at_38 rfl ?_
    refine g_iconst 41 rfl C X116 (-1 : Int32) at_40 rfl ?_
    refine g_istore 43 rfl C X116 (-1 : Int32) rfl #[.val (.int p0), .val (.int p1), .val (.int p2), .val (.int p3), .val (.ref o3), .val (.int (0 : Int32)), .val (.int (0 : Int32)), .val (.int (0 : Int32)), .val (.int (-1 : Int32)), .unset, .unset, .unset] at_41 rfl ?_
    refine g_iload 45 rfl C X116 at_43 rfl ?_
    refine g_if_eq_t 70 C X116 at_45 (by decide) (by decide) (by decide) ?_
    refine g_iloadN 71 rfl C X116 at_70 rfl ?_
    refine g_iconst 72 rfl C X116 (3 : Int32) at_71 rfl ?_
    refine g_iand 73 rfl C X116 at_72 ?_
    obtain ⟨v160, hv160⟩ : ∃ z : Int32, (p0 &&& (3 : Int32)) = z := ⟨_, rfl⟩
    refine g_istore 75 rfl C X116 v160 hv160 #[.val (.int p0), .val (.int p1), .val (.int p2), .val (.int p3), .val (.ref o3), .val (.int (0 : Int32)), .val (.int (0 : Int32)), .val (.int (0 : Int32)), .val (.int (-1 : Int32)), .val (.int v160), .unset, .unset] at_73 rfl ?_
    refine g_iload 77 rfl C X116 at_75 rfl ?_
    refine g_iconst 78 rfl C X116 (1 : Int32) at_77 rfl ?_
    refine g_iadd 79 rfl C X116 at_78 ?_
    refine g_iloadN 80 rfl C X116 at_79 rfl ?_
    refine g_ldc 82 rfl C X116 (hw _ (List.mem_of_getElem? (i := 53) rfl)) at_80 ?_
    refine g_iand 83 rfl C X116 at_82 ?_
    refine g_iconst 84 rfl C X116 (3 : Int32) at_83 rfl ?_
    refine g_irem 85 rfl C X116 at_84 (by decide) ?_
    refine g_iadd 86 rfl C X116 at_85 ?_
    refine g_iconst 87 rfl C X116 (3 : Int32) at_86 rfl ?_
    refine g_iand 88 rfl C X116 at_87 ?_
    obtain ⟨v161, hv161⟩ : ∃ z : Int32, (((v160 + (1 : Int32)) + ((p1 &&& (2147483647 : Int32)) % (3 : Int32))) &&& (3 : Int32)) = z := ⟨_, rfl⟩
    refine g_istore 90 rfl C X116 v161 hv161 #[.val (.int p0), .val (.int p1), .val (.int p2), .val (.int p3), .val (.ref o3), .val (.int (0 : Int32)), .val (.int (0 : Int32)), .val (.int (0 : Int32)), .val (.int (-1 : Int32)), .val (.int v160), .val (.int v161), .unset] at_88 rfl ?_
    refine g_aload 92 rfl C X116 at_90 rfl rfl ?_
    refine g_iload 94 rfl C X116 at_92 rfl ?_
    refine g_iload 96 rfl C X116 at_94 rfl ?_
    have hq163 : 0 ≤ v160.toInt ∧ v160.toInt ≤ 3 := by
      have fr164 := rng32 v160
      have fr165 := rng32 p0
      have fc166 : (3 : Int32).toInt = 3 := rfl
      have fo167 : (p0 &&& (3 : Int32)).toInt = p0.toInt % 4 := c_mask p0 (3 : Int32) 2 (by decide) (by decide)
      have fe168 : (p0 &&& (3 : Int32)).toInt = v160.toInt := congrArg Int32.toInt hv160
      omega
    obtain ⟨n162, hn162⟩ : ∃ n : Nat, v160.toInt = n := ⟨v160.toInt.toNat, by omega⟩
    have hn162m : n162 ≤ 3 := by omega
    refine g_callV 99 rfl C X116 (argsL := [(.int (0 : Int32)), (.int v160)]) (hw _ (List.mem_of_getElem? (i := 54) rfl)) (hw _ (List.mem_of_getElem? (i := 55) rfl)) (hw _ (List.mem_of_getElem? (i := 57) rfl)) (hw _ (List.mem_of_getElem? (i := 56) rfl)) (hw _ (List.mem_of_getElem? (i := 58) rfl)) (hw _ (List.mem_of_getElem? (i := 2) rfl)) rfl F120 (rm6_0_0 l Z a0 hw [] o3 v160 y35 (upd (fun _ => 0) 0 (-1 : Int32)) y42 (fun _ => (-1 : Int32)) y43 (fun _ => 0) y44 (fun _ => 0) n162 (T114.heap) n0 Zs157 F120 F124 B150 F131 F154 F132 F155 F133 F156 (Nat.lt_trans (Nat.lt_trans (Nat.lt_trans lt90 lt77) lt78) lt79) (Nat.lt_trans (Nat.lt_trans (Nat.lt_trans (Nat.lt_trans (Nat.lt_trans (Nat.lt_trans lt80 lt81) lt82) lt83) lt84) lt85) lt86) lt87 lt88 gn10 hn162 (by omega) (upd_same rfl)) (lenOf pd_1793250 rfl) (by decide) (by decide) (by decide) (by decide) rfl (W := 0) (Nat.le_of_eq rfl) (by decide) at_96 rfl fun r169 T170 Lc171 X172 hQ173 => ?_
    obtain ⟨rfl, Nq174, Kc175, F176, F177, F178, F179⟩ := hQ173
    have F180 := F120.keep Kc175
    have F181 := F153.keep Kc175 (ninS (Nat.ne_of_gt (Nat.lt_trans (Nat.lt_trans lt80 lt81) lt82)) (ninS (Nat.ne_of_lt (Nat.lt_trans (Nat.lt_trans (Nat.lt_trans lt83 lt84) lt85) lt86)) (ninS (Nat.ne_of_lt (Nat.lt_trans (Nat.lt_trans (Nat.lt_trans (Nat.lt_trans lt83 lt84) lt85) lt86) lt87)) (ninS (Nat.ne_of_lt (Nat.lt_trans (Nat.lt_trans (Nat.lt_trans (Nat.lt_trans (Nat.lt_trans lt83 lt84) lt85) lt86) lt87) lt88)) nin0))))
    have F182 := F121.keep Kc175 (ninS (Nat.ne_of_lt (Nat.lt_trans (Nat.lt_trans (Nat.lt_trans lt90 lt77) lt78) lt79)) (ninS (Nat.ne_of_lt (Nat.lt_trans (Nat.lt_trans (Nat.lt_trans (Nat.lt_trans (Nat.lt_trans (Nat.lt_trans (Nat.lt_trans (Nat.lt_trans (Nat.lt_trans (Nat.lt_trans lt90 lt77) lt78) lt79) lt80) lt81) lt82) lt83) lt84) lt85) lt86)) (ninS (Nat.ne_of_lt (Nat.lt_trans (Nat.lt_trans (Nat.lt_trans (Nat.lt_trans (Nat.lt_trans (Nat.lt_trans (Nat.lt_trans (Nat.lt_trans (Nat.lt_trans (Nat.lt_trans (Nat.lt_trans lt90 lt77) lt78) lt79) lt80) lt81) lt82) lt83) lt84) lt85) lt86) lt87)) (ninS (Nat.ne_of_lt (Nat.lt_trans (Nat.lt_trans (Nat.lt_trans (Nat.lt_trans (Nat.lt_trans (Nat.lt_trans (Nat.lt_trans (Nat.lt_trans (Nat.lt_trans (Nat.lt_trans (Nat.lt_trans (Nat.lt_trans lt90 lt77) lt78) lt79) lt80) lt81) lt82) lt83) lt84) lt85) lt86) lt87) lt88)) nin0))))
    have F183 := F122.keep Kc175 (ninS (Nat.ne_of_lt (Nat.lt_trans (Nat.lt_trans (Nat.lt_trans lt90 lt77) lt78) lt79)) (ninS (Nat.ne_of_lt (Nat.lt_trans (Nat.lt_trans (Nat.lt_trans (Nat.lt_trans (Nat.lt_trans (Nat.lt_trans (Nat.lt_trans (Nat.lt_trans (Nat.lt_trans (Nat.lt_trans lt90 lt77) lt78) lt79) lt80) lt81) lt82) lt83) lt84) lt85) lt86)) (ninS (Nat.ne_of_lt (Nat.lt_trans (Nat.lt_trans (Nat.lt_trans (Nat.lt_trans (Nat.lt_trans (Nat.lt_trans (Nat.lt_trans (Nat.lt_trans (Nat.lt_trans (Nat.lt_trans (Nat.lt_trans lt90 lt77) lt78) lt79) lt80) lt81) lt82) lt83) lt84) lt85) lt86) lt87)) (ninS (Nat.ne_of_lt (Nat.lt_trans (Nat.lt_trans (Nat.lt_trans (Nat.lt_trans (Nat.lt_trans (Nat.lt_trans (Nat.lt_trans (Nat.lt_trans (Nat.lt_trans (Nat.lt_trans (Nat.lt_trans (Nat.lt_trans lt90 lt77) lt78) lt79) lt80) lt81) lt82) lt83) lt84) lt85) lt86) lt87) lt88)) nin0))))
    have F184 := F123.keep Kc175 (ninS (Nat.ne_of_lt (Nat.lt_trans (Nat.lt_trans (Nat.lt_trans lt90 lt77) lt78) lt79)) (ninS (Nat.ne_of_lt (Nat.lt_trans (Nat.lt_trans (Nat.lt_trans (Nat.lt_trans (Nat.lt_trans (Nat.lt_trans (Nat.lt_trans (Nat.lt_trans (Nat.lt_trans (Nat.lt_trans lt90 lt77) lt78) lt79) lt80) lt81) lt82) lt83) lt84) lt85) lt86)) (ninS (Nat.ne_of_lt (Nat.lt_trans (Nat.lt_trans (Nat.lt_trans (Nat.lt_trans (Nat.lt_trans (Nat.lt_trans (Nat.lt_trans (Nat.lt_trans (Nat.lt_trans (Nat.lt_trans (Nat.lt_trans lt90 lt77) lt78) lt79) lt80) lt81) lt82) lt83) lt84) lt85) lt86) lt87)) (ninS (Nat.ne_of_lt (Nat.lt_trans (Nat.lt_trans (Nat.lt_trans (Nat.lt_trans (Nat.lt_trans (Nat.lt_trans (Nat.lt_trans (Nat.lt_trans (Nat.lt_trans (Nat.lt_trans (Nat.lt_trans (Nat.lt_trans lt90 lt77) lt78) lt79) lt80) lt81) lt82) lt83) lt84) lt85) lt86) lt87) lt88)) nin0))))
    have F185 := F124.keep Kc175 (ninS (Nat.ne_of_lt (Nat.lt_trans (Nat.lt_trans (Nat.lt_trans lt90 lt77) lt78) lt79)) (ninS (Nat.ne_of_lt (Nat.lt_trans (Nat.lt_trans (Nat.lt_trans (Nat.lt_trans (Nat.lt_trans (Nat.lt_trans (Nat.lt_trans (Nat.lt_trans (Nat.lt_trans (Nat.lt_trans lt90 lt77) lt78) lt79) lt80) lt81) lt82) lt83) lt84) lt85) lt86)) (ninS (Nat.ne_of_lt (Nat.lt_trans (Nat.lt_trans (Nat.lt_trans (Nat.lt_trans (Nat.lt_trans (Nat.lt_trans (Nat.lt_trans (Nat.lt_trans (Nat.lt_trans (Nat.lt_trans (Nat.lt_trans lt90 lt77) lt78) lt79) lt80) lt81) lt82) lt83) lt84) lt85) lt86) lt87)) (ninS (Nat.ne_of_lt (Nat.lt_trans (Nat.lt_trans (Nat.lt_trans (Nat.lt_trans (Nat.lt_trans (Nat.lt_trans (Nat.lt_trans (Nat.lt_trans (Nat.lt_trans (Nat.lt_trans (Nat.lt_trans (Nat.lt_trans lt90 lt77) lt78) lt79) lt80) lt81) lt82) lt83) lt84) lt85) lt86) lt87) lt88)) nin0))))
    have F186 := F125.keep Kc175 (ninS (Nat.ne_of_lt (Nat.lt_trans (Nat.lt_trans (Nat.lt_trans lt90 lt77) lt78) lt79)) (ninS (Nat.ne_of_lt (Nat.lt_trans (Nat.lt_trans (Nat.lt_trans (Nat.lt_trans (Nat.lt_trans (Nat.lt_trans (Nat.lt_trans (Nat.lt_trans (Nat.lt_trans (Nat.lt_trans lt90 lt77) lt78) lt79) lt80) lt81) lt82) lt83) lt84) lt85) lt86)) (ninS (Nat.ne_of_lt (Nat.lt_trans (Nat.lt_trans (Nat.lt_trans (Nat.lt_trans (Nat.lt_trans (Nat.lt_trans (Nat.lt_trans (Nat.lt_trans (Nat.lt_trans (Nat.lt_trans (Nat.lt_trans lt90 lt77) lt78) lt79) lt80) lt81) lt82) lt83) lt84) lt85) lt86) lt87)) (ninS (Nat.ne_of_lt (Nat.lt_trans (Nat.lt_trans (Nat.lt_trans (Nat.lt_trans (Nat.lt_trans (Nat.lt_trans (Nat.lt_trans (Nat.lt_trans (Nat.lt_trans (Nat.lt_trans (Nat.lt_trans (Nat.lt_trans lt90 lt77) lt78) lt79) lt80) lt81) lt82) lt83) lt84) lt85) lt86) lt87) lt88)) nin0))))
    have F187 := F126.keep Kc175 (ninS (Nat.ne_of_lt (Nat.lt_trans (Nat.lt_trans (Nat.lt_trans lt90 lt77) lt78) lt79)) (ninS (Nat.ne_of_lt (Nat.lt_trans (Nat.lt_trans (Nat.lt_trans (Nat.lt_trans (Nat.lt_trans (Nat.lt_trans (Nat.lt_trans (Nat.lt_trans (Nat.lt_trans (Nat.lt_trans lt90 lt77) lt78) lt79) lt80) lt81) lt82) lt83) lt84) lt85) lt86)) (ninS (Nat.ne_of_lt (Nat.lt_trans (Nat.lt_trans (Nat.lt_trans (Nat.lt_trans (Nat.lt_trans (Nat.lt_trans (Nat.lt_trans (Nat.lt_trans (Nat.lt_trans (Nat.lt_trans (Nat.lt_trans lt90 lt77) lt78) lt79) lt80) lt81) lt82) lt83) lt84) lt85) lt86) lt87)) (ninS (Nat.ne_of_lt (Nat.lt_trans (Nat.lt_trans (Nat.lt_trans (Nat.lt_trans (Nat.lt_trans (Nat.lt_trans (Nat.lt_trans (Nat.lt_trans (Nat.lt_trans (Nat.lt_trans (Nat.lt_trans (Nat.lt_trans lt90 lt77) lt78) lt79) lt80) lt81) lt82) lt83) lt84) lt85) lt86) lt87) lt88)) nin0))))
    have F188 := F127.keep Kc175 (ninS (Nat.ne_of_lt (Nat.lt_trans (Nat.lt_trans (Nat.lt_trans lt90 lt77) lt78) lt79)) (ninS (Nat.ne_of_lt (Nat.lt_trans (Nat.lt_trans (Nat.lt_trans (Nat.lt_trans (Nat.lt_trans (Nat.lt_trans (Nat.lt_trans (Nat.lt_trans (Nat.lt_trans (Nat.lt_trans lt90 lt77) lt78) lt79) lt80) lt81) lt82) lt83) lt84) lt85) lt86)) (ninS (Nat.ne_of_lt (Nat.lt_trans (Nat.lt_trans (Nat.lt_trans (Nat.lt_trans (Nat.lt_trans (Nat.lt_trans (Nat.lt_trans (Nat.lt_trans (Nat.lt_trans (Nat.lt_trans (Nat.lt_trans lt90 lt77) lt78) lt79) lt80) lt81) lt82) lt83) lt84) lt85) lt86) lt87)) (ninS (Nat.ne_of_lt (Nat.lt_trans (Nat.lt_trans (Nat.lt_trans (Nat.lt_trans (Nat.lt_trans (Nat.lt_trans (Nat.lt_trans (Nat.lt_trans (Nat.lt_trans (Nat.lt_trans (Nat.lt_trans (Nat.lt_trans lt90 lt77) lt78) lt79) lt80) lt81) lt82) lt83) lt84) lt85) lt86) lt87) lt88)) nin0))))
    have F189 := F128.keep Kc175 (ninS (Nat.ne_of_lt (Nat.lt_trans (Nat.lt_trans (Nat.lt_trans lt90 lt77) lt78) lt79)) (ninS (Nat.ne_of_lt (Nat.lt_trans (Nat.lt_trans (Nat.lt_trans (Nat.lt_trans (Nat.lt_trans (Nat.lt_trans (Nat.lt_trans (Nat.lt_trans (Nat.lt_trans (Nat.lt_trans lt90 lt77) lt78) lt79) lt80) lt81) lt82) lt83) lt84) lt85) lt86)) (ninS (Nat.ne_of_lt (Nat.lt_trans (Nat.lt_trans (Nat.lt_trans (Nat.lt_trans (Nat.lt_trans (Nat.lt_trans (Nat.lt_trans (Nat.lt_trans (Nat.lt_trans (Nat.lt_trans (Nat.lt_trans lt90 lt77) lt78) lt79) lt80) lt81) lt82) lt83) lt84) lt85) lt86) lt87)) (ninS (Nat.ne_of_lt (Nat.lt_trans (Nat.lt_trans (Nat.lt_trans (Nat.lt_trans (Nat.lt_trans (Nat.lt_trans (Nat.lt_trans (Nat.lt_trans (Nat.lt_trans (Nat.lt_trans (Nat.lt_trans (Nat.lt_trans lt90 lt77) lt78) lt79) lt80) lt81) lt82) lt83) lt84) lt85) lt86) lt87) lt88)) nin0))))
    have F190 := F129.keep Kc175 (ninS (Nat.ne_of_lt (Nat.lt_trans (Nat.lt_trans (Nat.lt_trans lt90 lt77) lt78) lt79)) (ninS (Nat.ne_of_lt (Nat.lt_trans (Nat.lt_trans (Nat.lt_trans (Nat.lt_trans (Nat.lt_trans (Nat.lt_trans (Nat.lt_trans (Nat.lt_trans (Nat.lt_trans (Nat.lt_trans lt90 lt77) lt78) lt79) lt80) lt81) lt82) lt83) lt84) lt85) lt86)) (ninS (Nat.ne_of_lt (Nat.lt_trans (Nat.lt_trans (Nat.lt_trans (Nat.lt_trans (Nat.lt_trans (Nat.lt_trans (Nat.lt_trans (Nat.lt_trans (Nat.lt_trans (Nat.lt_trans (Nat.lt_trans lt90 lt77) lt78) lt79) lt80) lt81) lt82) lt83) lt84) lt85) lt86) lt87)) (ninS (Nat.ne_of_lt (Nat.lt_trans (Nat.lt_trans (Nat.lt_trans (Nat.lt_trans (Nat.lt_trans (Nat.lt_trans (Nat.lt_trans (Nat.lt_trans (Nat.lt_trans (Nat.lt_trans (Nat.lt_trans (Nat.lt_trans lt90 lt77) lt78) lt79) lt80) lt81) lt82) lt83) lt84) lt85) lt86) lt87) lt88)) nin0))))
    have F191 := F130.keep Kc175 (ninS (Nat.ne_of_lt (Nat.lt_trans (Nat.lt_trans (Nat.lt_trans lt90 lt77) lt78) lt79)) (ninS (Nat.ne_of_lt (Nat.lt_trans (Nat.lt_trans (Nat.lt_trans (Nat.lt_trans (Nat.lt_trans (Nat.lt_trans (Nat.lt_trans (Nat.lt_trans (Nat.lt_trans (Nat.lt_trans lt90 lt77) lt78) lt79) lt80) lt81) lt82) lt83) lt84) lt85) lt86)) (ninS (Nat.ne_of_lt (Nat.lt_trans (Nat.lt_trans (Nat.lt_trans (Nat.lt_trans (Nat.lt_trans (Nat.lt_trans (Nat.lt_trans (Nat.lt_trans (Nat.lt_trans (Nat.lt_trans (Nat.lt_trans lt90 lt77) lt78) lt79) lt80) lt81) lt82) lt83) lt84) lt85) lt86) lt87)) (ninS (Nat.ne_of_lt (Nat.lt_trans (Nat.lt_trans (Nat.lt_trans (Nat.lt_trans (Nat.lt_trans (Nat.lt_trans (Nat.lt_trans (Nat.lt_trans (Nat.lt_trans (Nat.lt_trans (Nat.lt_trans (Nat.lt_trans lt90 lt77) lt78) lt79) lt80) lt81) lt82) lt83) lt84) lt85) lt86) lt87) lt88)) nin0))))
    have F192 := F131.keep Kc175 (ninS (Nat.ne_of_lt (Nat.lt_trans (Nat.lt_trans (Nat.lt_trans lt90 lt77) lt78) lt79)) (ninS (Nat.ne_of_lt (Nat.lt_trans (Nat.lt_trans (Nat.lt_trans (Nat.lt_trans (Nat.lt_trans (Nat.lt_trans (Nat.lt_trans (Nat.lt_trans (Nat.lt_trans (Nat.lt_trans lt90 lt77) lt78) lt79) lt80) lt81) lt82) lt83) lt84) lt85) lt86)) (ninS (Nat.ne_of_lt (Nat.lt_trans (Nat.lt_trans (Nat.lt_trans (Nat.lt_trans (Nat.lt_trans (Nat.lt_trans (Nat.lt_trans (Nat.lt_trans (Nat.lt_trans (Nat.lt_trans (Nat.lt_trans lt90 lt77) lt78) lt79) lt80) lt81) lt82) lt83) lt84) lt85) lt86) lt87)) (ninS (Nat.ne_of_lt (Nat.lt_trans (Nat.lt_trans (Nat.lt_trans (Nat.lt_trans (Nat.lt_trans (Nat.lt_trans (Nat.lt_trans (Nat.lt_trans (Nat.lt_trans (Nat.lt_trans (Nat.lt_trans (Nat.lt_trans lt90 lt77) lt78) lt79) lt80) lt81) lt82) lt83) lt84) lt85) lt86) lt87) lt88)) nin0))))
    have F193 := F132.keep Kc175 (ninS (Nat.ne_of_lt (Nat.lt_trans (Nat.lt_trans (Nat.lt_trans lt90 lt77) lt78) lt79)) (ninS (Nat.ne_of_lt (Nat.lt_trans (Nat.lt_trans (Nat.lt_trans (Nat.lt_trans (Nat.lt_trans (Nat.lt_trans (Nat.lt_trans (Nat.lt_trans (Nat.lt_trans (Nat.lt_trans lt90 lt77) lt78) lt79) lt80) lt81) lt82) lt83) lt84) lt85) lt86)) (ninS (Nat.ne_of_lt (Nat.lt_trans (Nat.lt_trans (Nat.lt_trans (Nat.lt_trans (Nat.lt_trans (Nat.lt_trans (Nat.lt_trans (Nat.lt_trans (Nat.lt_trans (Nat.lt_trans (Nat.lt_trans lt90 lt77) lt78) lt79) lt80) lt81) lt82) lt83) lt84) lt85) lt86) lt87)) (ninS (Nat.ne_of_lt (Nat.lt_trans (Nat.lt_trans (Nat.lt_trans (Nat.lt_trans (Nat.lt_trans (Nat.lt_trans (Nat.lt_trans (Nat.lt_trans (Nat.lt_trans (Nat.lt_trans (Nat.lt_trans (Nat.lt_trans lt90 lt77) lt78) lt79) lt80) lt81) lt82) lt83) lt84) lt85) lt86) lt87) lt88)) nin0))))
    have F194 := F133.keep Kc175 (ninS (Nat.ne_of_lt (Nat.lt_trans (Nat.lt_trans (Nat.lt_trans lt90 lt77) lt78) lt79)) (ninS (Nat.ne_of_lt (Nat.lt_trans (Nat.lt_trans (Nat.lt_trans (Nat.lt_trans (Nat.lt_trans (Nat.lt_trans (Nat.lt_trans (Nat.lt_trans (Nat.lt_trans (Nat.lt_trans lt90 lt77) lt78) lt79) lt80) lt81) lt82) lt83) lt84) lt85) lt86)) (ninS (Nat.ne_of_lt (Nat.lt_trans (Nat.lt_trans (Nat.lt_trans (Nat.lt_trans (Nat.lt_trans (Nat.lt_trans (Nat.lt_trans (Nat.lt_trans (Nat.lt_trans (Nat.lt_trans (Nat.lt_trans lt90 lt77) lt78) lt79) lt80) lt81) lt82) lt83) lt84) lt85) lt86) lt87)) (ninS (Nat.ne_of_lt (Nat.lt_trans (Nat.lt_trans (Nat.lt_trans (Nat.lt_trans (Nat.lt_trans (Nat.lt_trans (Nat.lt_trans (Nat.lt_trans (Nat.lt_trans (Nat.lt_trans (Nat.lt_trans (Nat.lt_trans lt90 lt77) lt78) lt79) lt80) lt81) lt82) lt83) lt84) lt85) lt86) lt87) lt88)) nin0))))
    have F195 := F134.keep Kc175 (ninS (Nat.ne_of_lt (Nat.lt_trans (Nat.lt_trans (Nat.lt_trans lt90 lt77) lt78) lt79)) (ninS (Nat.ne_of_lt (Nat.lt_trans (Nat.lt_trans (Nat.lt_trans (Nat.lt_trans (Nat.lt_trans (Nat.lt_trans (Nat.lt_trans (Nat.lt_trans (Nat.lt_trans (Nat.lt_trans lt90 lt77) lt78) lt79) lt80) lt81) lt82) lt83) lt84) lt85) lt86)) (ninS (Nat.ne_of_lt (Nat.lt_trans (Nat.lt_trans (Nat.lt_trans (Nat.lt_trans (Nat.lt_trans (Nat.lt_trans (Nat.lt_trans (Nat.lt_trans (Nat.lt_trans (Nat.lt_trans (Nat.lt_trans lt90 lt77) lt78) lt79) lt80) lt81) lt82) lt83) lt84) lt85) lt86) lt87)) (ninS (Nat.ne_of_lt (Nat.lt_trans (Nat.lt_trans (Nat.lt_trans (Nat.lt_trans (Nat.lt_trans (Nat.lt_trans (Nat.lt_trans (Nat.lt_trans (Nat.lt_trans (Nat.lt_trans (Nat.lt_trans (Nat.lt_trans lt90 lt77) lt78) lt79) lt80) lt81) lt82) lt83) lt84) lt85) lt86) lt87) lt88)) nin0))))
    have F196 := F135.keep Kc175 (ninS (Nat.ne_of_lt (Nat.lt_trans (Nat.lt_trans (Nat.lt_trans lt90 lt77) lt78) lt79)) (ninS (Nat.ne_of_lt (Nat.lt_trans (Nat.lt_trans (Nat.lt_trans (Nat.lt_trans (Nat.lt_trans (Nat.lt_trans (Nat.lt_trans (Nat.lt_trans (Nat.lt_trans (Nat.lt_trans lt90 lt77) lt78) lt79) lt80) lt81) lt82) lt83) lt84) lt85) lt86)) (ninS (Nat.ne_of_lt (Nat.lt_trans (Nat.lt_trans (Nat.lt_trans (Nat.lt_trans (Nat.lt_trans (Nat.lt_trans (Nat.lt_trans (Nat.lt_trans (Nat.lt_trans (Nat.lt_trans (Nat.lt_trans lt90 lt77) lt78) lt79) lt80) lt81) lt82) lt83) lt84) lt85) lt86) lt87)) (ninS (Nat.ne_of_lt (Nat.lt_trans (Nat.lt_trans (Nat.lt_trans (Nat.lt_trans (Nat.lt_trans (Nat.lt_trans (Nat.lt_trans (Nat.lt_trans (Nat.lt_trans (Nat.lt_trans (Nat.lt_trans (Nat.lt_trans lt90 lt77) lt78) lt79) lt80) lt81) lt82) lt83) lt84) lt85) lt86) lt87) lt88)) nin0))))
    have F197 := B143.keep Kc175 (ninS (Nat.ne_of_lt (Nat.lt_trans (Nat.lt_trans lt77 lt78) lt79)) (ninS (Nat.ne_of_lt (Nat.lt_trans (Nat.lt_trans (Nat.lt_trans (Nat.lt_trans (Nat.lt_trans (Nat.lt_trans (Nat.lt_trans (Nat.lt_trans (Nat.lt_trans lt77 lt78) lt79) lt80) lt81) lt82) lt83) lt84) lt85) lt86)) (ninS (Nat.ne_of_lt (Nat.lt_trans (Nat.lt_trans (Nat.lt_trans (Nat.lt_trans (Nat.lt_trans (Nat.lt_trans (Nat.lt_trans (Nat.lt_trans (Nat.lt_trans (Nat.lt_trans lt77 lt78) lt79) lt80) lt81) lt82) lt83) lt84) lt85) lt86) lt87)) (ninS (Nat.ne_of_lt (Nat.lt_trans (Nat.lt_trans (Nat.lt_trans (Nat.lt_trans (Nat.lt_trans (Nat.lt_trans (Nat.lt_trans (Nat.lt_trans (Nat.lt_trans (Nat.lt_trans (Nat.lt_trans lt77 lt78) lt79) lt80) lt81) lt82) lt83) lt84) lt85) lt86) lt87) lt88)) nin0))))
    have F198 := B144.keep Kc175 (ninS (Nat.ne_of_lt (Nat.lt_trans lt78 lt79)) (ninS (Nat.ne_of_lt (Nat.lt_trans (Nat.lt_trans (Nat.lt_trans (Nat.lt_trans (Nat.lt_trans (Nat.lt_trans (Nat.lt_trans (Nat.lt_trans lt78 lt79) lt80) lt81) lt82) lt83) lt84) lt85) lt86)) (ninS (Nat.ne_of_lt (Nat.lt_trans (Nat.lt_trans (Nat.lt_trans (Nat.lt_trans (Nat.lt_trans (Nat.lt_trans (Nat.lt_trans (Nat.lt_trans (Nat.lt_trans lt78 lt79) lt80) lt81) lt82) lt83) lt84) lt85) lt86) lt87)) (ninS (Nat.ne_of_lt (Nat.lt_trans (Nat.lt_trans (Nat.lt_trans (Nat.lt_trans (Nat.lt_trans (Nat.lt_trans (Nat.lt_trans (Nat.lt_trans (Nat.lt_trans (Nat.lt_trans lt78 lt79) lt80) lt81) lt82) lt83) lt84) lt85) lt86) lt87) lt88)) nin0))))
    have F199 := B145.keep Kc175 (ninS (Nat.ne_of_lt lt79) (ninS (Nat.ne_of_lt (Nat.lt_trans (Nat.lt_trans (Nat.lt_trans (Nat.lt_trans (Nat.lt_trans (Nat.lt_trans (Nat.lt_trans lt79 lt80) lt81) lt82) lt83) lt84) lt85) lt86)) (ninS (Nat.ne_of_lt (Nat.lt_trans (Nat.lt_trans (Nat.lt_trans (Nat.lt_trans (Nat.lt_trans (Nat.lt_trans (Nat.lt_trans (Nat.lt_trans lt79 lt80) lt81) lt82) lt83) lt84) lt85) lt86) lt87)) (ninS (Nat.ne_of_lt (Nat.lt_trans (Nat.lt_trans (Nat.lt_trans (Nat.lt_trans (Nat.lt_trans (Nat.lt_trans (Nat.lt_trans (Nat.lt_trans (Nat.lt_trans lt79 lt80) lt81) lt82) lt83) lt84) lt85) lt86) lt87) lt88)) nin0))))
    have F200 := B146.keep Kc175 (ninS (Nat.ne_of_gt lt80) (ninS (Nat.ne_of_lt (Nat.lt_trans (Nat.lt_trans (Nat.lt_trans (Nat.lt_trans (Nat.lt_trans lt81 lt82) lt83) lt84) lt85) lt86)) (ninS (Nat.ne_of_lt (Nat.lt_trans (Nat.lt_trans (Nat.lt_trans (Nat.lt_trans (Nat.lt_trans (Nat.lt_trans lt81 lt82) lt83) lt84) lt85) lt86) lt87)) (ninS (Nat.ne_of_lt (Nat.lt_trans (Nat.lt_trans (Nat.lt_trans (Nat.lt_trans (Nat.lt_trans (Nat.lt_trans (Nat.lt_trans lt81 lt82) lt83) lt84) lt85) lt86) lt87) lt88)) nin0))))
    have F201 := B147.keep Kc175 (ninS (Nat.ne_of_gt (Nat.lt_trans lt80 lt81)) (ninS (Nat.ne_of_lt (Nat.lt_trans (Nat.lt_trans (Nat.lt_trans (Nat.lt_trans lt82 lt83) lt84) lt85) lt86)) (ninS (Nat.ne_of_lt (Nat.lt_trans (Nat.lt_trans (Nat.lt_trans (Nat.lt_trans (Nat.lt_trans lt82 lt83) lt84) lt85) lt86) lt87)) (ninS (Nat.ne_of_lt (Nat.lt_trans (Nat.lt_trans (Nat.lt_trans (Nat.lt_trans (Nat.lt_trans (Nat.lt_trans lt82 lt83) lt84) lt85) lt86) lt87) lt88)) nin0))))
    have F202 := B148.keep Kc175 (ninS (Nat.ne_of_gt (Nat.lt_trans (Nat.lt_trans (Nat.lt_trans lt80 lt81) lt82) lt83)) (ninS (Nat.ne_of_lt (Nat.lt_trans (Nat.lt_trans lt84 lt85) lt86)) (ninS (Nat.ne_of_lt (Nat.lt_trans (Nat.lt_trans (Nat.lt_trans lt84 lt85) lt86) lt87)) (ninS (Nat.ne_of_lt (Nat.lt_trans (Nat.lt_trans (Nat.lt_trans (Nat.lt_trans lt84 lt85) lt86) lt87) lt88)) nin0))))
    have F203 := B149.keep Kc175 (ninS (Nat.ne_of_gt (Nat.lt_trans (Nat.lt_trans (Nat.lt_trans (Nat.lt_trans (Nat.lt_trans lt80 lt81) lt82) lt83) lt84) lt85)) (ninS (Nat.ne_of_lt lt86) (ninS (Nat.ne_of_lt (Nat.lt_trans lt86 lt87)) (ninS (Nat.ne_of_lt (Nat.lt_trans (Nat.lt_trans lt86 lt87) lt88)) nin0))))
    have F204 := B151.keep Kc175 (ninS (Nat.ne_of_gt (Nat.lt_trans (Nat.lt_trans (Nat.lt_trans (Nat.lt_trans lt80 lt81) lt82) lt83) lt84)) (ninS (Nat.ne_of_lt (Nat.lt_trans lt85 lt86)) (ninS (Nat.ne_of_lt (Nat.lt_trans (Nat.lt_trans lt85 lt86) lt87)) (ninS (Nat.ne_of_lt (Nat.lt_trans (Nat.lt_trans (Nat.lt_trans lt85 lt86) lt87) lt88)) nin0))))
    have Zs205 := Nat.le_trans Zs157 Kc175.1
    have N206 := Fr.app N158 Nq174
    show Goes _ _ _ _ _ _ 99 _ []
    refine g_aload 101 rfl C X172 at_99 rfl rfl ?_
    refine g_iload 103 rfl C X172 at_101 rfl ?_
    refine g_iload 105 rfl C X172 at_103 rfl ?_
    have hq208 : 0 ≤ v161.toInt ∧ v161.toInt ≤ 3 := by
      have fr209 := rng32 v161
      have fr210 := rng32 v160
      have fr211 := rng32 p0
      have fc212 : (3 : Int32).toInt = 3 := rfl
      have fo213 : (p0 &&& (3 : Int32)).toInt = p0.toInt % 4 := c_mask p0 (3 : Int32) 2 (by decide) (by decide)
      have fe214 : (p0 &&& (3 : Int32)).toInt = v160.toInt := congrArg Int32.toInt hv160
      have fc215 : (1 : Int32).toInt = 1 := rfl
      have fo216 := c_iadd v160 (1 : Int32)
      have fr217 := rng32 (v160 + (1 : Int32))
      have fr218 := rng32 p1
      have fc219 : (2147483647 : Int32).toInt = 2147483647 := rfl
      have fo220 : (p1 &&& (2147483647 : Int32)).toInt = p1.toInt % 2147483648 := c_mask p1 (2147483647 : Int32) 31 (by decide) (by decide)
      have fo221 := c_irem (p1 &&& (2147483647 : Int32)) (3 : Int32) 3 rfl
      have fr222 := rng32 ((p1 &&& (2147483647 : Int32)) % (3 : Int32))
      have fo223 := c_iadd (v160 + (1 : Int32)) ((p1 &&& (2147483647 : Int32)) % (3 : Int32))
      have fr224 := rng32 ((v160 + (1 : Int32)) + ((p1 &&& (2147483647 : Int32)) % (3 : Int32)))
      have fo225 : (((v160 + (1 : Int32)) + ((p1 &&& (2147483647 : Int32)) % (3 : Int32))) &&& (3 : Int32)).toInt = ((v160 + (1 : Int32)) + ((p1 &&& (2147483647 : Int32)) % (3 : Int32))).toInt % 4 := c_mask ((v160 + (1 : Int32)) + ((p1 &&& (2147483647 : Int32)) % (3 : Int32))) (3 : Int32) 2 (by decide) (by decide)
      have fe226 : (((v160 + (1 : Int32)) + ((p1 &&& (2147483647 : Int32)) % (3 : Int32))) &&& (3 : Int32)).toInt = v161.toInt := congrArg Int32.toInt hv161
      omega
    obtain ⟨n207, hn207⟩ : ∃ n : Nat, v161.toInt = n := ⟨v161.toInt.toNat, by omega⟩
    have hn207m : n207 ≤ 3 := by omega
    have hq227 : n162 ≠ n207 := by
      have fr228 := rng32 v160
      have fr229 := rng32 p0
      have fc230 : (3 : Int32).toInt = 3 := rfl
      have fo231 : (p0 &&& (3 : Int32)).toInt = p0.toInt % 4 := c_mask p0 (3 : Int32) 2 (by decide) (by decide)
      have fe232 : (p0 &&& (3 : Int32)).toInt = v160.toInt := congrArg Int32.toInt hv160
      have fr233 := rng32 v161
      have fc234 : (1 : Int32).toInt = 1 := rfl
      have fo235 := c_iadd v160 (1 : Int32)
      have fr236 := rng32 (v160 + (1 : Int32))
      have fr237 := rng32 p1
      have fc238 : (2147483647 : Int32).toInt = 2147483647 := rfl
      have fo239 : (p1 &&& (2147483647 : Int32)).toInt = p1.toInt % 2147483648 := c_mask p1 (2147483647 : Int32) 31 (by decide) (by decide)
      have fo240 := c_irem (p1 &&& (2147483647 : Int32)) (3 : Int32) 3 rfl
      have fr241 := rng32 ((p1 &&& (2147483647 : Int32)) % (3 : Int32))
      have fo242 := c_iadd (v160 + (1 : Int32)) ((p1 &&& (2147483647 : Int32)) % (3 : Int32))
      have fr243 := rng32 ((v160 + (1 : Int32)) + ((p1 &&& (2147483647 : Int32)) % (3 : Int32)))
      have fo244 : (((v160 + (1 : Int32)) + ((p1 &&& (2147483647 : Int32)) % (3 : Int32))) &&& (3 : Int32)).toInt = ((v160 + (1 : Int32)) + ((p1 &&& (2147483647 : Int32)) % (3 : Int32))).toInt % 4 := c_mask ((v160 + (1 : Int32)) + ((p1 &&& (2147483647 : Int32)) % (3 : Int32))) (3 : Int32) 2 (by decide) (by decide)
      have fe245 : (((v160 + (1 : Int32)) + ((p1 &&& (2147483647 : Int32)) % (3 : Int32))) &&& (3 : Int32)).toInt = v161.toInt := congrArg Int32.toInt hv161
      omega
    refine g_callV 108 rfl C X172 (argsL := [(.int (0 : Int32)), (.int v161)]) (hw _ (List.mem_of_getElem? (i := 54) rfl)) (hw _ (List.mem_of_getElem? (i := 55) rfl)) (hw _ (List.mem_of_getElem? (i := 57) rfl)) (hw _ (List.mem_of_getElem? (i := 56) rfl)) (hw _ (List.mem_of_getElem? (i := 58) rfl)) (hw _ (List.mem_of_getElem? (i := 2) rfl)) rfl F180 (rm6_0_1 l Z a0 hw [] o3 v161 y35 (upd (upd (fun _ => 0) 0 (-1 : Int32)) 0 v160) y42 (upd (fun _ => (-1 : Int32)) n162 (0 : Int32)) y43 (upd (fun _ => 0) n162 (-1 : Int32)) y44 (upd (fun _ => 0) n162 (-1 : Int32)) n207 v160 n162 (T170.heap) n0 Zs205 F180 F185 F176 F192 F177 F193 F178 F194 F179 (Nat.lt_trans (Nat.lt_trans (Nat.lt_trans lt90 lt77) lt78) lt79) (Nat.lt_trans (Nat.lt_trans (Nat.lt_trans (Nat.lt_trans (Nat.lt_trans (Nat.lt_trans lt80 lt81) lt82) lt83) lt84) lt85) lt86) lt87 lt88 gn10 hn207 (by omega) (upd_same rfl) hn162 (by omega)) (lenOf pd_1793250 rfl) (by decide) (by decide) (by decide) (by decide) rfl (W := 0) (Nat.le_of_eq rfl) (by decide) at_105 rfl fun r246 T247 Lc248 X249 hQ250 => ?_
    obtain ⟨rfl, Nq251, Kc252, F253, F254, F255, F256⟩ := hQ250
    have F257 := F180.keep Kc252
    have F258 := F181.keep Kc252 (ninS (Nat.ne_of_gt (Nat.lt_trans (Nat.lt_trans lt80 lt81) lt82)) (ninS (Nat.ne_of_lt (Nat.lt_trans (Nat.lt_trans (Nat.lt_trans lt83 lt84) lt85) lt86)) (ninS (Nat.ne_of_lt (Nat.lt_trans (Nat.lt_trans (Nat.lt_trans (Nat.lt_trans lt83 lt84) lt85) lt86) lt87)) (ninS (Nat.ne_of_lt (Nat.lt_trans (Nat.lt_trans (Nat.lt_trans (Nat.lt_trans (Nat.lt_trans lt83 lt84) lt85) lt86) lt87) lt88)) nin0))))
    have F259 := F182.keep Kc252 (ninS (Nat.ne_of_lt (Nat.lt_trans (Nat.lt_trans (Nat.lt_trans lt90 lt77) lt78) lt79)) (ninS (Nat.ne_of_lt (Nat.lt_trans (Nat.lt_trans (Nat.lt_trans (Nat.lt_trans (Nat.lt_trans (Nat.lt_trans (Nat.lt_trans (Nat.lt_trans (Nat.lt_trans (Nat.lt_trans lt90 lt77) lt78) lt79) lt80) lt81) lt82) lt83) lt84) lt85) lt86)) (ninS (Nat.ne_of_lt (Nat.lt_trans (Nat.lt_trans (Nat.lt_trans (Nat.lt_trans (Nat.lt_trans (Nat.lt_trans (Nat.lt_trans (Nat.lt_trans (Nat.lt_trans (Nat.lt_trans (Nat.lt_trans lt90 lt77) lt78) lt79) lt80) lt81) lt82) lt83) lt84) lt85) lt86) lt87)) (ninS (Nat.ne_of_lt (Nat.lt_trans (Nat.lt_trans (Nat.lt_trans (Nat.lt_trans (Nat.lt_trans (Nat.lt_trans (Nat.lt_trans (Nat.lt_trans (Nat.lt_trans (Nat.lt_trans (Nat.lt_trans (Nat.lt_trans lt90 lt77) lt78) lt79) lt80) lt81) lt82) lt83) lt84) lt85) lt86) lt87) lt88)) nin0))))
    have F260 := F183.keep Kc252 (ninS (Nat.ne_of_lt (Nat.lt_trans (Nat.lt_trans (Nat.lt_trans lt90 lt77) lt78) lt79)) (ninS (Nat.ne_of_lt (Nat.lt_trans (Nat.lt_trans (Nat.lt_trans (Nat.lt_trans (Nat.lt_trans (Nat.lt_trans (Nat.lt_trans (Nat.lt_trans (Nat.lt_trans (Nat.lt_trans lt90 lt77) lt78) lt79) lt80) lt81) lt82) lt83) lt84) lt85) lt86)) (ninS (Nat.ne_of_lt (Nat.lt_trans (Nat.lt_trans (Nat.lt_trans (Nat.lt_trans (Nat.lt_trans (Nat.lt_trans (Nat.lt_trans (Nat.lt_trans (Nat.lt_trans (Nat.lt_trans (Nat.lt_trans lt90 lt77) lt78) lt79) lt80) lt81) lt82) lt83) lt84) lt85) lt86) lt87)) (ninS (Nat.ne_of_lt (Nat.lt_trans (Nat.lt_trans (Nat.lt_trans (Nat.lt_trans (Nat.lt_trans (Nat.lt_trans (Nat.lt_trans (Nat.lt_trans (Nat.lt_trans (Nat.lt_trans (Nat.lt_trans (Nat.lt_trans lt90 lt77) lt78) lt79) lt80) lt81) lt82) lt83) lt84) lt85) lt86) lt87) lt88)) nin0))))
    have F261 := F184.keep Kc252 (ninS (Nat.ne_of_lt (Nat.lt_trans (Nat.lt_trans (Nat.lt_trans lt90 lt77) lt78) lt79)) (ninS (Nat.ne_of_lt (Nat.lt_trans (Nat.lt_trans (Nat.lt_trans (Nat.lt_trans (Nat.lt_trans (Nat.lt_trans (Nat.lt_trans (Nat.lt_trans (Nat.lt_trans (Nat.lt_trans lt90 lt77) lt78) lt79) lt80) lt81) lt82) lt83) lt84) lt85) lt86)) (ninS (Nat.ne_of_lt (Nat.lt_trans (Nat.lt_trans (Nat.lt_trans (Nat.lt_trans (Nat.lt_trans (Nat.lt_trans (Nat.lt_trans (Nat.lt_trans (Nat.lt_trans (Nat.lt_trans (Nat.lt_trans lt90 lt77) lt78) lt79) lt80) lt81) lt82) lt83) lt84) lt85) lt86) lt87)) (ninS (Nat.ne_of_lt (Nat.lt_trans (Nat.lt_trans (Nat.lt_trans (Nat.lt_trans (Nat.lt_trans (Nat.lt_trans (Nat.lt_trans (Nat.lt_trans (Nat.lt_trans (Nat.lt_trans (Nat.lt_trans (Nat.lt_trans lt90 lt77) lt78) lt79) lt80) lt81) lt82) lt83) lt84) lt85) lt86) lt87) lt88)) nin0))))
    have F262 := F185.keep Kc252 (ninS (Nat.ne_of_lt (Nat.lt_trans (Nat.lt_trans (Nat.lt_trans lt90 lt77) lt78) lt79)) (ninS (Nat.ne_of_lt (Nat.lt_trans (Nat.lt_trans (Nat.lt_trans (Nat.lt_trans (Nat.lt_trans (Nat.lt_trans (Nat.lt_trans (Nat.lt_trans (Nat.lt_trans (Nat.lt_trans lt90 lt77) lt78) lt79) lt80) lt81) lt82) lt83) lt84) lt85) lt86)) (ninS (Nat.ne_of_lt (Nat.lt_trans (Nat.lt_trans (Nat.lt_trans (Nat.lt_trans (Nat.lt_trans (Nat.lt_trans (Nat.lt_trans (Nat.lt_trans (Nat.lt_trans (Nat.lt_trans (Nat.lt_trans lt90 lt77) lt78) lt79) lt80) lt81) lt82) lt83) lt84) lt85) lt86) lt87)) (ninS (Nat.ne_of_lt (Nat.lt_trans (Nat.lt_trans (Nat.lt_trans (Nat.lt_trans (Nat.lt_trans (Nat.lt_trans (Nat.lt_trans (Nat.lt_trans (Nat.lt_trans (Nat.lt_trans (Nat.lt_trans (Nat.lt_trans lt90 lt77) lt78) lt79) lt80) lt81) lt82) lt83) lt84) lt85) lt86) lt87) lt88)) nin0))))
    have F263 := F186.keep Kc252 (ninS (Nat.ne_of_lt (Nat.lt_trans (Nat.lt_trans (Nat.lt_trans lt90 lt77) lt78) lt79)) (ninS (Nat.ne_of_lt (Nat.lt_trans (Nat.lt_trans (Nat.lt_trans (Nat.lt_trans (Nat.lt_trans (Nat.lt_trans (Nat.lt_trans (Nat.lt_trans (Nat.lt_trans (Nat.lt_trans lt90 lt77) lt78) lt79) lt80) lt81) lt82) lt83) lt84) lt85) lt86)) (ninS (Nat.ne_of_lt (Nat.lt_trans (Nat.lt_trans (Nat.lt_trans (Nat.lt_trans (Nat.lt_trans (Nat.lt_trans (Nat.lt_trans (Nat.lt_trans (Nat.lt_trans (Nat.lt_trans (Nat.lt_trans lt90 lt77) lt78) lt79) lt80) lt81) lt82) lt83) lt84) lt85) lt86) lt87)) (ninS (Nat.ne_of_lt (Nat.lt_trans (Nat.lt_trans (Nat.lt_trans (Nat.lt_trans (Nat.lt_trans (Nat.lt_trans (Nat.lt_trans (Nat.lt_trans (Nat.lt_trans (Nat.lt_trans (Nat.lt_trans (Nat.lt_trans lt90 lt77) lt78) lt79) lt80) lt81) lt82) lt83) lt84) lt85) lt86) lt87) lt88)) nin0))))
    have F264 := F187.keep Kc252 (ninS (Nat.ne_of_lt (Nat.lt_trans (Nat.lt_trans (Nat.lt_trans lt90 lt77) lt78) lt79)) (ninS (Nat.ne_of_lt (Nat.lt_trans (Nat.lt_trans (Nat.lt_trans (Nat.lt_trans (Nat.lt_trans (Nat.lt_trans (Nat.lt_trans (Nat.lt_trans (Nat.lt_trans (Nat.lt_trans lt90 lt77) lt78) lt79) lt80) lt81) lt82) lt83) lt84) lt85) lt86)) (ninS (Nat.ne_of_lt (Nat.lt_trans (Nat.lt_trans (Nat.lt_trans (Nat.lt_trans (Nat.lt_trans (Nat.lt_trans (Nat.lt_trans (Nat.lt_trans (Nat.lt_trans (Nat.lt_trans (Nat.lt_trans lt90 lt77) lt78) lt79) lt80) lt81) lt82) lt83) lt84) lt85) lt86) lt87)) (ninS (Nat.ne_of_lt (Nat.lt_trans (Nat.lt_trans (Nat.lt_trans (Nat.lt_trans (Nat.lt_trans (Nat.lt_trans (Nat.lt_trans (Nat.lt_trans (Nat.lt_trans (Nat.lt_trans (Nat.lt_trans (Nat.lt_trans lt90 lt77) lt78) lt79) lt80) lt81) lt82) lt83) lt84) lt85) lt86) lt87) lt88)) nin0))))
    have F265 := F188.keep Kc252 (ninS (Nat.ne_of_lt (Nat.lt_trans (Nat.lt_trans (Nat.lt_trans lt90 lt77) lt78) lt79)) (ninS (Nat.ne_of_lt (Nat.lt_trans (Nat.lt_trans (Nat.lt_trans (Nat.lt_trans (Nat.lt_trans (Nat.lt_trans (Nat.lt_trans (Nat.lt_trans (Nat.lt_trans (Nat.lt_trans lt90 lt77) lt78) lt79) lt80) lt81) lt82) lt83) lt84) lt85) lt86)) (ninS (Nat.ne_of_lt (Nat.lt_trans (Nat.lt_trans (Nat.lt_trans (Nat.lt_trans (Nat.lt_trans (Nat.lt_trans (Nat.lt_trans (Nat.lt_trans (Nat.lt_trans (Nat.lt_trans (Nat.lt_trans lt90 lt77) lt78) lt79) lt80) lt81) lt82) lt83) lt84) lt85) lt86) lt87)) (ninS (Nat.ne_of_lt (Nat.lt_trans (Nat.lt_trans (Nat.lt_trans (Nat.lt_trans (Nat.lt_trans (Nat.lt_trans (Nat.lt_trans (Nat.lt_trans (Nat.lt_trans (Nat.lt_trans (Nat.lt_trans (Nat.lt_trans lt90 lt77) lt78) lt79) lt80) lt81) lt82) lt83) lt84) lt85) lt86) lt87) lt88)) nin0))))
    have F266 := F189.keep Kc252 (ninS (Nat.ne_of_lt (Nat.lt_trans (Nat.lt_trans (Nat.lt_trans lt90 lt77) lt78) lt79)) (ninS (Nat.ne_of_lt (Nat.lt_trans (Nat.lt_trans (Nat.lt_trans (Nat.lt_trans (Nat.lt_trans (Nat.lt_trans (Nat.lt_trans (Nat.lt_trans (Nat.lt_trans (Nat.lt_trans lt90 lt77) lt78) lt79) lt80) lt81) lt82) lt83) lt84) lt85) lt86)) (ninS (Nat.ne_of_lt (Nat.lt_trans (Nat.lt_trans (Nat.lt_trans (Nat.lt_trans (Nat.lt_trans (Nat.lt_trans (Nat.lt_trans (Nat.lt_trans (Nat.lt_trans (Nat.lt_trans (Nat.lt_trans lt90 lt77) lt78) lt79) lt80) lt81) lt82) lt83) lt84) lt85) lt86) lt87)) (ninS (Nat.ne_of_lt (Nat.lt_trans (Nat.lt_trans (Nat.lt_trans (Nat.lt_trans (Nat.lt_trans (Nat.lt_trans (Nat.lt_trans (Nat.lt_trans (Nat.lt_trans (Nat.lt_trans (Nat.lt_trans (Nat.lt_trans lt90 lt77) lt78) lt79) lt80) lt81) lt82) lt83) lt84) lt85) lt86) lt87) lt88)) nin0))))
    have F267 := F190.keep Kc252 (ninS (Nat.ne_of_lt (Nat.lt_trans (Nat.lt_trans (Nat.lt_trans lt90 lt77) lt78) lt79)) (ninS (Nat.ne_of_lt (Nat.lt_trans (Nat.lt_trans (Nat.lt_trans (Nat.lt_trans (Nat.lt_trans (Nat.lt_trans (Nat.lt_trans (Nat.lt_trans (Nat.lt_trans (Nat.lt_trans lt90 lt77) lt78) lt79) lt80) lt81) lt82) lt83) lt84) lt85) lt86)) (ninS (Nat.ne_of_lt (Nat.lt_trans (Nat.lt_trans (Nat.lt_trans (Nat.lt_trans (Nat.lt_trans (Nat.lt_trans (Nat.lt_trans (Nat.lt_trans (Nat.lt_trans (Nat.lt_trans (Nat.lt_trans lt90 lt77) lt78) lt79) lt80) lt81) lt82) lt83) lt84) lt85) lt86) lt87)) (ninS (Nat.ne_of_lt (Nat.lt_trans (Nat.lt_trans (Nat.lt_trans (Nat.lt_trans (Nat.lt_trans (Nat.lt_trans (Nat.lt_trans (Nat.lt_trans (Nat.lt_trans (Nat.lt_trans (Nat.lt_trans (Nat.lt_trans lt90 lt77) lt78) lt79) lt80) lt81) lt82) lt83) lt84) lt85) lt86) lt87) lt88)) nin0))))
    have F268 := F191.keep Kc252 (ninS (Nat.ne_of_lt (Nat.lt_trans (Nat.lt_trans (Nat.lt_trans lt90 lt77) lt78) lt79)) (ninS (Nat.ne_of_lt (Nat.lt_trans (Nat.lt_trans (Nat.lt_trans (Nat.lt_trans (Nat.lt_trans (Nat.lt_trans (Nat.lt_trans (Nat.lt_trans (Nat.lt_trans (Nat.lt_trans lt90 lt77) lt78) lt79) lt80) lt81) lt82) lt83) lt84) lt85) lt86)) (ninS (Nat.ne_of_lt (Nat.lt_trans (Nat.lt_trans (Nat.lt_trans (Nat.lt_trans (Nat.lt_trans (Nat.lt_trans (Nat.lt_trans (Nat.lt_trans (Nat.lt_trans (Nat.lt_trans (Nat.lt_trans lt90 lt77) lt78) lt79) lt80) lt81) lt82) lt83) lt84) lt85) lt86) lt87)) (ninS (Nat.ne_of_lt (Nat.lt_trans (Nat.lt_trans (Nat.lt_trans (Nat.lt_trans (Nat.lt_trans (Nat.lt_trans (Nat.lt_trans (Nat.lt_trans (Nat.lt_trans (Nat.lt_trans (Nat.lt_trans (Nat.lt_trans lt90 lt77) lt78) lt79) lt80) lt81) lt82) lt83) lt84) lt85) lt86) lt87) lt88)) nin0))))
    have F269 := F192.keep Kc252 (ninS (Nat.ne_of_lt (Nat.lt_trans (Nat.lt_trans (Nat.lt_trans lt90 lt77) lt78) lt79)) (ninS (Nat.ne_of_lt (Nat.lt_trans (Nat.lt_trans (Nat.lt_trans (Nat.lt_trans (Nat.lt_trans (Nat.lt_trans (Nat.lt_trans (Nat.lt_trans (Nat.lt_trans (Nat.lt_trans lt90 lt77) lt78) lt79) lt80) lt81) lt82) lt83) lt84) lt85) lt86)) (ninS (Nat.ne_of_lt (Nat.lt_trans (Nat.lt_trans (Nat.lt_trans (Nat.lt_trans (Nat.lt_trans (Nat.lt_trans (Nat.lt_trans (Nat.lt_trans (Nat.lt_trans (Nat.lt_trans (Nat.lt_trans lt90 lt77) lt78) lt79) lt80) lt81) lt82) lt83) lt84) lt85) lt86) lt87)) (ninS (Nat.ne_of_lt (Nat.lt_trans (Nat.lt_trans (Nat.lt_trans (Nat.lt_trans (Nat.lt_trans (Nat.lt_trans (Nat.lt_trans (Nat.lt_trans (Nat.lt_trans (Nat.lt_trans (Nat.lt_trans (Nat.lt_trans lt90 lt77) lt78) lt79) lt80) lt81) lt82) lt83) lt84) lt85) lt86) lt87) lt88)) nin0))))
    have F270 := F193.keep Kc252 (ninS (Nat.ne_of_lt (Nat.lt_trans (Nat.lt_trans (Nat.lt_trans lt90 lt77) lt78) lt79)) (ninS (Nat.ne_of_lt (Nat.lt_trans (Nat.lt_trans (Nat.lt_trans (Nat.lt_trans (Nat.lt_trans (Nat.lt_trans (Nat.lt_trans (Nat.lt_trans (Nat.lt_trans (Nat.lt_trans lt90 lt77) lt78) lt79) lt80) lt81) lt82) lt83) lt84) lt85) lt86)) (ninS (Nat.ne_of_lt (Nat.lt_trans (Nat.lt_trans (Nat.lt_trans (Nat.lt_trans (Nat.lt_trans (Nat.lt_trans (Nat.lt_trans (Nat.lt_trans (Nat.lt_trans (Nat.lt_trans (Nat.lt_trans lt90 lt77) lt78) lt79) lt80) lt81) lt82) lt83) lt84) lt85) lt86) lt87)) (ninS (Nat.ne_of_lt (Nat.lt_trans (Nat.lt_trans (Nat.lt_trans (Nat.lt_trans (Nat.lt_trans (Nat.lt_trans (Nat.lt_trans (Nat.lt_trans (Nat.lt_trans (Nat.lt_trans (Nat.lt_trans (Nat.lt_trans lt90 lt77) lt78) lt79) lt80) lt81) lt82) lt83) lt84) lt85) lt86) lt87) lt88)) nin0))))
    have F271 := F194.keep Kc252 (ninS (Nat.ne_of_lt (Nat.lt_trans (Nat.lt_trans (Nat.lt_trans lt90 lt77) lt78) lt79)) (ninS (Nat.ne_of_lt (Nat.lt_trans (Nat.lt_trans (Nat.lt_trans (Nat.lt_trans (Nat.lt_trans (Nat.lt_trans (Nat.lt_trans (Nat.lt_trans (Nat.lt_trans (Nat.lt_trans lt90 lt77) lt78) lt79) lt80) lt81) lt82) lt83) lt84) lt85) lt86)) (ninS (Nat.ne_of_lt (Nat.lt_trans (Nat.lt_trans (Nat.lt_trans (Nat.lt_trans (Nat.lt_trans (Nat.lt_trans (Nat.lt_trans (Nat.lt_trans (Nat.lt_trans (Nat.lt_trans (Nat.lt_trans lt90 lt77) lt78) lt79) lt80) lt81) lt82) lt83) lt84) lt85) lt86) lt87)) (ninS (Nat.ne_of_lt (Nat.lt_trans (Nat.lt_trans (Nat.lt_trans (Nat.lt_trans (Nat.lt_trans (Nat.lt_trans (Nat.lt_trans (Nat.lt_trans (Nat.lt_trans (Nat.lt_trans (Nat.lt_trans (Nat.lt_trans lt90 lt77) lt78) lt79) lt80) lt81) lt82) lt83) lt84) lt85) lt86) lt87) lt88)) nin0))))
    have F272 := F195.keep Kc252 (ninS (Nat.ne_of_lt (Nat.lt_trans (Nat.lt_trans (Nat.lt_trans lt90 lt77) lt78) lt79)) (ninS (Nat.ne_of_lt (Nat.lt_trans (Nat.lt_trans (Nat.lt_trans (Nat.lt_trans (Nat.lt_trans (Nat.lt_trans (Nat.lt_trans (Nat.lt_trans (Nat.lt_trans (Nat.lt_trans lt90 lt77) lt78) lt79) lt80) lt81) lt82) lt83) lt84) lt85) lt86)) (ninS (Nat.ne_of_lt (Nat.lt_trans (Nat.lt_trans (Nat.lt_trans (Nat.lt_trans (Nat.lt_trans (Nat.lt_trans (Nat.lt_trans (Nat.lt_trans (Nat.lt_trans (Nat.lt_trans (Nat.lt_trans lt90 lt77) lt78) lt79) lt80) lt81) lt82) lt83) lt84) lt85) lt86) lt87)) (ninS (Nat.ne_of_lt (Nat.lt_trans (Nat.lt_trans (Nat.lt_trans (Nat.lt_trans (Nat.lt_trans (Nat.lt_trans (Nat.lt_trans (Nat.lt_trans (Nat.lt_trans (Nat.lt_trans (Nat.lt_trans (Nat.lt_trans lt90 lt77) lt78) lt79) lt80) lt81) lt82) lt83) lt84) lt85) lt86) lt87) lt88)) nin0))))
    have F273 := F196.keep Kc252 (ninS (Nat.ne_of_lt (Nat.lt_trans (Nat.lt_trans (Nat.lt_trans lt90 lt77) lt78) lt79)) (ninS (Nat.ne_of_lt (Nat.lt_trans (Nat.lt_trans (Nat.lt_trans (Nat.lt_trans (Nat.lt_trans (Nat.lt_trans (Nat.lt_trans (Nat.lt_trans (Nat.lt_trans (Nat.lt_trans lt90 lt77) lt78) lt79) lt80) lt81) lt82) lt83) lt84) lt85) lt86)) (ninS (Nat.ne_of_lt (Nat.lt_trans (Nat.lt_trans (Nat.lt_trans (Nat.lt_trans (Nat.lt_trans (Nat.lt_trans (Nat.lt_trans (Nat.lt_trans (Nat.lt_trans (Nat.lt_trans (Nat.lt_trans lt90 lt77) lt78) lt79) lt80) lt81) lt82) lt83) lt84) lt85) lt86) lt87)) (ninS (Nat.ne_of_lt (Nat.lt_trans (Nat.lt_trans (Nat.lt_trans (Nat.lt_trans (Nat.lt_trans (Nat.lt_trans (Nat.lt_trans (Nat.lt_trans (Nat.lt_trans (Nat.lt_trans (Nat.lt_trans (Nat.lt_trans lt90 lt77) lt78) lt79) lt80) lt81) lt82) lt83) lt84) lt85) lt86) lt87) lt88)) nin0))))
    have F274 := F197.keep Kc252 (ninS (Nat.ne_of_lt (Nat.lt_trans (Nat.lt_trans lt77 lt78) lt79)) (ninS (Nat.ne_of_lt (Nat.lt_trans (Nat.lt_trans (Nat.lt_trans (Nat.lt_trans (Nat.lt_trans (Nat.lt_trans (Nat.lt_trans (Nat.lt_trans (Nat.lt_trans lt77 lt78) lt79) lt80) lt81) lt82) lt83) lt84) lt85) lt86)) (ninS (Nat.ne_of_lt (Nat.lt_trans (Nat.lt_trans (Nat.lt_trans (Nat.lt_trans (Nat.lt_trans (Nat.lt_trans (Nat.lt_trans (Nat.lt_trans (Nat.lt_trans (Nat.lt_trans lt77 lt78) lt79) lt80) lt81) lt82) lt83) lt84) lt85) lt86) lt87)) (ninS (Nat.ne_of_lt (Nat.lt_trans (Nat.lt_trans (Nat.lt_trans (Nat.lt_trans (Nat.lt_trans (Nat.lt_trans (Nat.lt_trans (Nat.lt_trans (Nat.lt_trans (Nat.lt_trans (Nat.lt_trans lt77 lt78) lt79) lt80) lt81) lt82) lt83) lt84) lt85) lt86) lt87) lt88)) nin0))))
    have F275 := F198.keep Kc252 (ninS (Nat.ne_of_lt (Nat.lt_trans lt78 lt79)) (ninS (Nat.ne_of_lt (Nat.lt_trans (Nat.lt_trans (Nat.lt_trans (Nat.lt_trans (Nat.lt_trans (Nat.lt_trans (Nat.lt_trans (Nat.lt_trans lt78 lt79) lt80) lt81) lt82) lt83) lt84) lt85) lt86)) (ninS (Nat.ne_of_lt (Nat.lt_trans (Nat.lt_trans (Nat.lt_trans (Nat.lt_trans (Nat.lt_trans (Nat.lt_trans (Nat.lt_trans (Nat.lt_trans (Nat.lt_trans lt78 lt79) lt80) lt81) lt82) lt83) lt84) lt85) lt86) lt87)) (ninS (Nat.ne_of_lt (Nat.lt_trans (Nat.lt_trans (Nat.lt_trans (Nat.lt_trans (Nat.lt_trans (Nat.lt_trans (Nat.lt_trans (Nat.lt_trans (Nat.lt_trans (Nat.lt_trans lt78 lt79) lt80) lt81) lt82) lt83) lt84) lt85) lt86) lt87) lt88)) nin0))))
    have F276 := F199.keep Kc252 (ninS (Nat.ne_of_lt lt79) (ninS (Nat.ne_of_lt (Nat.lt_trans (Nat.lt_trans (Nat.lt_trans (Nat.lt_trans (Nat.lt_trans (Nat.lt_trans (Nat.lt_trans lt79 lt80) lt81) lt82) lt83) lt84) lt85) lt86)) (ninS (Nat.ne_of_lt (Nat.lt_trans (Nat.lt_trans (Nat.lt_trans (Nat.lt_trans (Nat.lt_trans (Nat.lt_trans (Nat.lt_trans (Nat.lt_trans lt79 lt80) lt81) lt82) lt83) lt84) lt85) lt86) lt87)) (ninS (Nat.ne_of_lt (Nat.lt_trans (Nat.lt_trans (Nat.lt_trans (Nat.lt_trans (Nat.lt_trans (Nat.lt_trans (Nat.lt_trans (Nat.lt_trans (Nat.lt_trans lt79 lt80) lt81) lt82) lt83) lt84) lt85) lt86) lt87) lt88)) nin0))))
    have F277 := F200.keep Kc252 (ninS (Nat.ne_of_gt lt80) (ninS (Nat.ne_of_lt (Nat.lt_trans (Nat.lt_trans (Nat.lt_trans (Nat.lt_trans (Nat.lt_trans lt81 lt82) lt83) lt84) lt85) lt86)) (ninS (Nat.ne_of_lt (Nat.lt_trans (Nat.lt_trans (Nat.lt_trans (Nat.lt_trans (Nat.lt_trans (Nat.lt_trans lt81 lt82) lt83) lt84) lt85) lt86) lt87)) (ninS (Nat.ne_of_lt (Nat.lt_trans (Nat.lt_trans (Nat.lt_trans (Nat.lt_trans (Nat.lt_trans (Nat.lt_trans (Nat.lt_trans lt81 lt82) lt83) lt84) lt85) lt86) lt87) lt88)) nin0))))
    have F278 := F201.keep Kc252 (ninS (Nat.ne_of_gt (Nat.lt_trans lt80 lt81)) (ninS (Nat.ne_of_lt (Nat.lt_trans (Nat.lt_trans (Nat.lt_trans (Nat.lt_trans lt82 lt83) lt84) lt85) lt86)) (ninS (Nat.ne_of_lt (Nat.lt_trans (Nat.lt_trans (Nat.lt_trans (Nat.lt_trans (Nat.lt_trans lt82 lt83) lt84) lt85) lt86) lt87)) (ninS (Nat.ne_of_lt (Nat.lt_trans (Nat.lt_trans (Nat.lt_trans (Nat.lt_trans (Nat.lt_trans (Nat.lt_trans lt82 lt83) lt84) lt85) lt86) lt87) lt88)) nin0))))
    have F279 := F202.keep Kc252 (ninS (Nat.ne_of_gt (Nat.lt_trans (Nat.lt_trans (Nat.lt_trans lt80 lt81) lt82) lt83)) (ninS (Nat.ne_of_lt (Nat.lt_trans (Nat.lt_trans lt84 lt85) lt86)) (ninS (Nat.ne_of_lt (Nat.lt_trans (Nat.lt_trans (Nat.lt_trans lt84 lt85) lt86) lt87)) (ninS (Nat.ne_of_lt (Nat.lt_trans (Nat.lt_trans (Nat.lt_trans (Nat.lt_trans lt84 lt85) lt86) lt87) lt88)) nin0))))
    have F280 := F203.keep Kc252 (ninS (Nat.ne_of_gt (Nat.lt_trans (Nat.lt_trans (Nat.lt_trans (Nat.lt_trans (Nat.lt_trans lt80 lt81) lt82) lt83) lt84) lt85)) (ninS (Nat.ne_of_lt lt86) (ninS (Nat.ne_of_lt (Nat.lt_trans lt86 lt87)) (ninS (Nat.ne_of_lt (Nat.lt_trans (Nat.lt_trans lt86 lt87) lt88)) nin0))))
    have F281 := F204.keep Kc252 (ninS (Nat.ne_of_gt (Nat.lt_trans (Nat.lt_trans (Nat.lt_trans (Nat.lt_trans lt80 lt81) lt82) lt83) lt84)) (ninS (Nat.ne_of_lt (Nat.lt_trans lt85 lt86)) (ninS (Nat.ne_of_lt (Nat.lt_trans (Nat.lt_trans lt85 lt86) lt87)) (ninS (Nat.ne_of_lt (Nat.lt_trans (Nat.lt_trans (Nat.lt_trans lt85 lt86) lt87) lt88)) nin0))))
    have Zs282 := Nat.le_trans Zs205 Kc252.1
    have N283 := Fr.app N206 Nq251
    show Goes _ _ _ _ _ _ 108 _ []
    refine g_aload 110 rfl C X249 at_108 rfl rfl ?_
    refine g_iload 112 rfl C X249 at_110 rfl ?_
    refine g_callV 115 rfl C X249 (argsL := [(.int (0 : Int32))]) (hw _ (List.mem_of_getElem? (i := 59) rfl)) (hw _ (List.mem_of_getElem? (i := 60) rfl)) (hw _ (List.mem_of_getElem? (i := 62) rfl)) (hw _ (List.mem_of_getElem? (i := 61) rfl)) (hw _ (List.mem_of_getElem? (i := 63) rfl)) (hw _ (List.mem_of_getElem? (i := 2) rfl)) rfl F257 (rm7 l Z a0 hw [] o3 (0 : Int32) y35 (upd (upd (upd (fun _ => 0) 0 (-1 : Int32)) 0 v160) 0 v161) 0 v161 (T247.heap) n0 Zs282 F257 F262 F253 (Nat.lt_trans (Nat.lt_trans (Nat.lt_trans lt90 lt77) lt78) lt79) gn10 rfl (by decide) (upd_same rfl)) (lenOf pd_52681284 rfl) (by decide) (by decide) (by decide) (by decide) rfl (W := 0) (Nat.le_of_eq rfl) (by decide) at_112 rfl fun r284 T285 Lc286 X287 hQ288 => ?_
    obtain ⟨rfl, Nq289, eh290⟩ := hQ288
    have N291 := Fr.app N283 Nq289
    show Goes _ _ _ _ _ _ 115 _ [(.int v161)]
    refine g_iload 117 rfl C X287 at_115 rfl ?_
    refine g_icmp_ne_f 120 rfl C X287 at_117 rfl ?_
    refine g_aload 122 rfl C X287 at_120 rfl rfl ?_
    refine g_iload 124 rfl C X287 at_122 rfl ?_
    refine g_callV 127 rfl C X287 (argsL := [(.int v161)]) (hw _ (List.mem_of_getElem? (i := 64) rfl)) (hw _ (List.mem_of_getElem? (i := 65) rfl)) (hw _ (List.mem_of_getElem? (i := 67) rfl)) (hw _ (List.mem_of_getElem? (i := 66) rfl)) (hw _ (List.mem_of_getElem? (i := 68) rfl)) (hw _ (List.mem_of_getElem? (i := 2) rfl)) eh290 F257 (rm8 l Z a0 hw [] o3 v161 y43 (upd (upd (fun _ => 0) n162 (-1 : Int32)) n207 v160) n207 v160 (T247.heap) n0 Zs282 F257 F270 F255 (Nat.lt_trans (Nat.lt_trans (Nat.lt_trans (Nat.lt_trans (Nat.lt_trans (Nat.lt_trans (Nat.lt_trans (Nat.lt_trans (Nat.lt_trans (Nat.lt_trans (Nat.lt_trans lt90 lt77) lt78) lt79) lt80) lt81) lt82) lt83) lt84) lt85) lt86) lt87) gn10 hn207 (by omega) (upd_same rfl)) (lenOf pd_52681284 rfl) (by decide) (by decide) (by decide) (by decide) rfl (W := 0) (Nat.le_of_eq rfl) (by decide) at_124 rfl fun r292 T293 Lc294 X295 hQ296 => ?_
    obtain ⟨rfl, Nq297, eh298⟩ := hQ296
    have N299 := Fr.app N291 Nq297
    show Goes _ _ _ _ _ _ 127 _ [(.int v160)]
    refine g_iload 129 rfl C X295 at_127 rfl ?_
    refine g_icmp_ne_f 132 rfl C X295 at_129 rfl ?_
    refine g_aload 134 rfl C X295 at_132 rfl rfl ?_
    refine g_iload 136 rfl C X295 at_134 rfl ?_
    refine g_callV 139 rfl C X295 (argsL := [(.int v160)]) (hw _ (List.mem_of_getElem? (i := 64) rfl)) (hw _ (List.mem_of_getElem? (i := 65) rfl)) (hw _ (List.mem_of_getElem? (i := 67) rfl)) (hw _ (List.mem_of_getElem? (i := 66) rfl)) (hw _ (List.mem_of_getElem? (i := 68) rfl)) (hw _ (List.mem_of_getElem? (i := 2) rfl)) eh298 F257 (rm8 l Z a0 hw [] o3 v160 y43 (upd (upd (fun _ => 0) n162 (-1 : Int32)) n207 v160) n162 (-1 : Int32) (T247.heap) n0 Zs282 F257 F270 F255 (Nat.lt_trans (Nat.lt_trans (Nat.lt_trans (Nat.lt_trans (Nat.lt_trans (Nat.lt_trans (Nat.lt_trans (Nat.lt_trans (Nat.lt_trans (Nat.lt_trans (Nat.lt_trans lt90 lt77) lt78) lt79) lt80) lt81) lt82) lt83) lt84) lt85) lt86) lt87) gn10 hn162 (by omega) ((upd_ne hq227).trans (upd_same rfl))) (lenOf pd_52681284 rfl) (by decide) (by decide) (by decide) (by decide) rfl (W := 0) (Nat.le_of_eq rfl) (by decide) at_136 rfl fun r300 T301 Lc302 X303 hQ304 => ?_
    obtain ⟨rfl, Nq305, eh306⟩ := hQ304
    have N307 := Fr.app N299 Nq305
    show Goes _ _ _ _ _ _ 139 _ [(.int (-1 : Int32))]
    refine g_iconst 140 rfl C X303 (-1 : Int32) at_139 rfl ?_
    refine g_icmp_ne_f 143 rfl C X303 at_140 (by decide) ?_
    refine g_aload 145 rfl C X303 at_143 rfl rfl ?_
    refine g_iload 147 rfl C X303 at_145 rfl ?_
    refine g_callV 150 rfl C X303 (argsL := [(.int v160)]) (hw _ (List.mem_of_getElem? (i := 69) rfl)) (hw _ (List.mem_of_getElem? (i := 70) rfl)) (hw _ (List.mem_of_getElem? (i := 72) rfl)) (hw _ (List.mem_of_getElem? (i := 71) rfl)) (hw _ (List.mem_of_getElem? (i := 73) rfl)) (hw _ (List.mem_of_getElem? (i := 2) rfl)) eh306 F257 (rm9 l Z a0 hw [] o3 v160 y42 (upd (upd (fun _ => (-1 : Int32)) n162 (0 : Int32)) n207 (0 : Int32)) n162 (0 : Int32) (T247.heap) n0 Zs282 F257 F269 F254 (Nat.lt_trans (Nat.lt_trans (Nat.lt_trans (Nat.lt_trans (Nat.lt_trans (Nat.lt_trans (Nat.lt_trans (Nat.lt_trans (Nat.lt_trans (Nat.lt_trans lt90 lt77) lt78) lt79) lt80) lt81) lt82) lt83) lt84) lt85) lt86) gn10 hn162 (by omega) ((upd_ne hq227).trans (upd_same rfl))) (lenOf pd_52681284 rfl) (by decide) (by decide) (by decide) (by decide) rfl (W := 0) (Nat.le_of_eq rfl) (by decide) at_147 rfl fun r308 T309 Lc310 X311 hQ312 => ?_
    obtain ⟨rfl, Nq313, eh314⟩ := hQ312
    have N315 := Fr.app N307 Nq313
    show Goes _ _ _ _ _ _ 150 _ [(.int (0 : Int32))]
    refine g_iload 152 rfl C X311 at_150 rfl ?_
    refine g_icmp_ne_f 155 rfl C X311 at_152 (by decide) ?_
    refine g_aload 157 rfl C X311 at_155 rfl rfl ?_
    refine g_iload 159 rfl C X311 at_157 rfl ?_
    refine g_callV 162 rfl C X311 (argsL := [(.int v161)]) (hw _ (List.mem_of_getElem? (i := 69) rfl)) (hw _ (List.mem_of_getElem? (i := 70) rfl)) (hw _ (List.mem_of_getElem? (i := 72) rfl)) (hw _ (List.mem_of_getElem? (i := 71) rfl)) (hw _ (List.mem_of_getElem? (i := 73) rfl)) (hw _ (List.mem_of_getElem? (i := 2) rfl)) eh314 F257 (rm9 l Z a0 hw [] o3 v161 y42 (upd (upd (fun _ => (-1 : Int32)) n162 (0 : Int32)) n207 (0 : Int32)) n207 (0 : Int32) (T247.heap) n0 Zs282 F257 F269 F254 (Nat.lt_trans (Nat.lt_trans (Nat.lt_trans (Nat.lt_trans (Nat.lt_trans (Nat.lt_trans (Nat.lt_trans (Nat.lt_trans (Nat.lt_trans (Nat.lt_trans lt90 lt77) lt78) lt79) lt80) lt81) lt82) lt83) lt84) lt85) lt86) gn10 hn207 (by omega) (upd_same rfl)) (lenOf pd_52681284 rfl) (by decide) (by decide) (by decide) (by decide) rfl (W := 0) (Nat.le_of_eq rfl) (by decide) at_159 rfl fun r316 T317 Lc318 X319 hQ320 => ?_
    obtain ⟨rfl, Nq321, eh322⟩ := hQ320
    have N323 := Fr.app N315 Nq321
    show Goes _ _ _ _ _ _ 162 _ [(.int (0 : Int32))]
    refine g_iload 164 rfl C X319 at_162 rfl ?_
    refine g_icmp_ne_f 167 rfl C X319 at_164 (by decide) ?_
    refine g_iconst 168 rfl C X319 (1 : Int32) at_167 rfl ?_
    refine g_goto 172 C X319 at_168 (by decide) (by decide) ?_
    refine g_istore 174 rfl C X319 (1 : Int32) rfl #[.val (.int p0), .val (.int p1), .val (.int p2), .val (.int p3), .val (.ref o3), .val (.int (0 : Int32)), .val (.int (0 : Int32)), .val (.int (0 : Int32)), .val (.int (-1 : Int32)), .val (.int v160), .val (.int v161), .val (.int (1 : Int32))] at_172 rfl ?_
    refine g_iload 176 rfl C X319 at_174 rfl ?_
    refine g_if_eq_t 202 C X319 at_176 (by decide) (by decide) (by decide) ?_
    refine g_aload 204 rfl C X319 at_202 rfl rfl ?_
    refine g_iload 206 rfl C X319 at_204 rfl ?_
    refine g_callV 209 rfl C X319 (argsL := [(.int v160)]) (hw _ (List.mem_of_getElem? (i := 74) rfl)) (hw _ (List.mem_of_getElem? (i := 75) rfl)) (hw _ (List.mem_of_getElem? (i := 77) rfl)) (hw _ (List.mem_of_getElem? (i := 76) rfl)) (hw _ (List.mem_of_getElem? (i := 78) rfl)) (hw _ (List.mem_of_getElem? (i := 2) rfl)) eh322 F257 (rm10_0 l Z a0 hw [] o3 v160 y35 (upd (upd (upd (fun _ => 0) 0 (-1 : Int32)) 0 v160) 0 v161) y42 (upd (upd (fun _ => (-1 : Int32)) n162 (0 : Int32)) n207 (0 : Int32)) y43 (upd (upd (fun _ => 0) n162 (-1 : Int32)) n207 v160) y44 (upd (upd (upd (fun _ => 0) n162 (-1 : Int32)) n207 (-1 : Int32)) n162 v161) n162 v161 n207 (T247.heap) n0 Zs282 F257 F262 F253 F269 F254 F270 F255 F271 F256 (Nat.lt_trans (Nat.lt_trans (Nat.lt_trans lt90 lt77) lt78) lt79) (Nat.lt_trans (Nat.lt_trans (Nat.lt_trans (Nat.lt_trans (Nat.lt_trans (Nat.lt_trans lt80 lt81) lt82) lt83) lt84) lt85) lt86) lt87 lt88 gn10 hn162 (by omega) ((upd_ne hq227).trans (upd_same rfl)) (upd_same rfl) ((upd_ne hq227).trans (upd_same rfl)) (upd_same rfl) hn207 (by omega)) (lenOf pd_52681297 rfl) (by decide) (by decide) (by decide) (by decide) rfl (W := 0) (Nat.le_of_eq rfl) (by decide) at_206 rfl fun r324 T325 Lc326 X327 hQ328 => ?_
    obtain ⟨rfl, Nq329, Kc330, B331, f332, B333⟩ := hQ328
    have F334 := F257.keep Kc330
    have F335 := F258.keep Kc330 (ninS (Nat.ne_of_lt (Nat.lt_trans (Nat.lt_trans (Nat.lt_trans lt83 lt84) lt85) lt86)) (ninS (Nat.ne_of_lt (Nat.lt_trans (Nat.lt_trans (Nat.lt_trans (Nat.lt_trans lt83 lt84) lt85) lt86) lt87)) nin0))
    have F336 := F259.keep Kc330 (ninS (Nat.ne_of_lt (Nat.lt_trans (Nat.lt_trans (Nat.lt_trans (Nat.lt_trans (Nat.lt_trans (Nat.lt_trans (Nat.lt_trans (Nat.lt_trans (Nat.lt_trans (Nat.lt_trans lt90 lt77) lt78) lt79) lt80) lt81) lt82) lt83) lt84) lt85) lt86)) (ninS (Nat.ne_of_lt (Nat.lt_trans (Nat.lt_trans (Nat.lt_trans (Nat.lt_trans (Nat.lt_trans (Nat.lt_trans (Nat.lt_trans (Nat.lt_trans (Nat.lt_trans (Nat.lt_trans (Nat.lt_trans lt90 lt77) lt78) lt79) lt80) lt81) lt82) lt83) lt84) lt85) lt86) lt87)) nin0))
    have F337 := F260.keep Kc330 (ninS (Nat.ne_of_lt (Nat.lt_trans (Nat.lt_trans (Nat.lt_trans (Nat.lt_trans (Nat.lt_trans (Nat.lt_trans (Nat.lt_trans (Nat.lt_trans (Nat.lt_trans (Nat.lt_trans lt90 lt77) lt78) lt79) lt80) lt81) lt82) lt83) lt84) lt85) lt86)) (ninS (Nat.ne_of_lt (Nat.lt_trans (Nat.lt_trans (Nat.lt_trans (Nat.lt_trans (Nat.lt_trans (Nat.lt_trans (Nat.lt_trans (Nat.lt_trans (Nat.lt_trans (Nat.lt_trans (Nat.lt_trans lt90 lt77) lt78) lt79) lt80) lt81) lt82) lt83) lt84) lt85) lt86) lt87)) nin0))
    have F338 := F261.keep Kc330 (ninS (Nat.ne_of_lt (Nat.lt_trans (Nat.lt_trans (Nat.lt_trans (Nat.lt_trans (Nat.lt_trans (Nat.lt_trans (Nat.lt_trans (Nat.lt_trans (Nat.lt_trans (Nat.lt_trans lt90 lt77) lt78) lt79) lt80) lt81) lt82) lt83) lt84) lt85) lt86)) (ninS (Nat.ne_of_lt (Nat.lt_trans (Nat.lt_trans (Nat.lt_trans (Nat.lt_trans (Nat.lt_trans (Nat.lt_trans (Nat.lt_trans (Nat.lt_trans (Nat.lt_trans (Nat.lt_trans (Nat.lt_trans lt90 lt77) lt78) lt79) lt80) lt81) lt82) lt83) lt84) lt85) lt86) lt87)) nin0))
    have F339 := F262.keep Kc330 (ninS (Nat.ne_of_lt (Nat.lt_trans (Nat.lt_trans (Nat.lt_trans (Nat.lt_trans (Nat.lt_trans (Nat.lt_trans (Nat.lt_trans (Nat.lt_trans (Nat.lt_trans (Nat.lt_trans lt90 lt77) lt78) lt79) lt80) lt81) lt82) lt83) lt84) lt85) lt86)) (ninS (Nat.ne_of_lt (Nat.lt_trans (Nat.lt_trans (Nat.lt_trans (Nat.lt_trans (Nat.lt_trans (Nat.lt_trans (Nat.lt_trans (Nat.lt_trans (Nat.lt_trans (Nat.lt_trans (Nat.lt_trans lt90 lt77) lt78) lt79) lt80) lt81) lt82) lt83) lt84) lt85) lt86) lt87)) nin0))
    have F340 := F263.keep Kc330 (ninS (Nat.ne_of_lt (Nat.lt_trans (Nat.lt_trans (Nat.lt_trans (Nat.lt_trans (Nat.lt_trans (Nat.lt_trans (Nat.lt_trans (Nat.lt_trans (Nat.lt_trans (Nat.lt_trans lt90 lt77) lt78) lt79) lt80) lt81) lt82) lt83) lt84) lt85) lt86)) (ninS (Nat.ne_of_lt (Nat.lt_trans (Nat.lt_trans (Nat.lt_trans (Nat.lt_trans (Nat.lt_trans (Nat.lt_trans (Nat.lt_trans (Nat.lt_trans (Nat.lt_trans (Nat.lt_trans (Nat.lt_trans lt90 lt77) lt78) lt79) lt80) lt81) lt82) lt83) lt84) lt85) lt86) lt87)) nin0))
    have F341 := F264.keep Kc330 (ninS (Nat.ne_of_lt (Nat.lt_trans (Nat.lt_trans (Nat.lt_trans (Nat.lt_trans (Nat.lt_trans (Nat.lt_trans (Nat.lt_trans (Nat.lt_trans (Nat.lt_trans (Nat.lt_trans lt90 lt77) lt78) lt79) lt80) lt81) lt82) lt83) lt84) lt85) lt86)) (ninS (Nat.ne_of_lt (Nat.lt_trans (Nat.lt_trans (Nat.lt_trans (Nat.lt_trans (Nat.lt_trans (Nat.lt_trans (Nat.lt_trans (Nat.lt_trans (Nat.lt_trans (Nat.lt_trans (Nat.lt_trans lt90 lt77) lt78) lt79) lt80) lt81) lt82) lt83) lt84) lt85) lt86) lt87)) nin0))
    have F342 := F265.keep Kc330 (ninS (Nat.ne_of_lt (Nat.lt_trans (Nat.lt_trans (Nat.lt_trans (Nat.lt_trans (Nat.lt_trans (Nat.lt_trans (Nat.lt_trans (Nat.lt_trans (Nat.lt_trans (Nat.lt_trans lt90 lt77) lt78) lt79) lt80) lt81) lt82) lt83) lt84) lt85) lt86)) (ninS (Nat.ne_of_lt (Nat.lt_trans (Nat.lt_trans (Nat.lt_trans (Nat.lt_trans (Nat.lt_trans (Nat.lt_trans (Nat.lt_trans (Nat.lt_trans (Nat.lt_trans (Nat.lt_trans (Nat.lt_trans lt90 lt77) lt78) lt79) lt80) lt81) lt82) lt83) lt84) lt85) lt86) lt87)) nin0))
    have F343 := F266.keep Kc330 (ninS (Nat.ne_of_lt (Nat.lt_trans (Nat.lt_trans (Nat.lt_trans (Nat.lt_trans (Nat.lt_trans (Nat.lt_trans (Nat.lt_trans (Nat.lt_trans (Nat.lt_trans (Nat.lt_trans lt90 lt77) lt78) lt79) lt80) lt81) lt82) lt83) lt84) lt85) lt86)) (ninS (Nat.ne_of_lt (Nat.lt_trans (Nat.lt_trans (Nat.lt_trans (Nat.lt_trans (Nat.lt_trans (Nat.lt_trans (Nat.lt_trans (Nat.lt_trans (Nat.lt_trans (Nat.lt_trans (Nat.lt_trans lt90 lt77) lt78) lt79) lt80) lt81) lt82) lt83) lt84) lt85) lt86) lt87)) nin0))
    have F344 := F267.keep Kc330 (ninS (Nat.ne_of_lt (Nat.lt_trans (Nat.lt_trans (Nat.lt_trans (Nat.lt_trans (Nat.lt_trans (Nat.lt_trans (Nat.lt_trans (Nat.lt_trans (Nat.lt_trans (Nat.lt_trans lt90 lt77) lt78) lt79) lt80) lt81) lt82) lt83) lt84) lt85) lt86)) (ninS (Nat.ne_of_lt (Nat.lt_trans (Nat.lt_trans (Nat.lt_trans (Nat.lt_trans (Nat.lt_trans (Nat.lt_trans (Nat.lt_trans (Nat.lt_trans (Nat.lt_trans (Nat.lt_trans (Nat.lt_trans lt90 lt77) lt78) lt79) lt80) lt81) lt82) lt83) lt84) lt85) lt86) lt87)) nin0))
    have F345 := F268.keep Kc330 (ninS (Nat.ne_of_lt (Nat.lt_trans (Nat.lt_trans (Nat.lt_trans (Nat.lt_trans (Nat.lt_trans (Nat.lt_trans (Nat.lt_trans (Nat.lt_trans (Nat.lt_trans (Nat.lt_trans lt90 lt77) lt78) lt79) lt80) lt81) lt82) lt83) lt84) lt85) lt86)) (ninS (Nat.ne_of_lt (Nat.lt_trans (Nat.lt_trans (Nat.lt_trans (Nat.lt_trans (Nat.lt_trans (Nat.lt_trans (Nat.lt_trans (Nat.lt_trans (Nat.lt_trans (Nat.lt_trans (Nat.lt_trans lt90 lt77) lt78) lt79) lt80) lt81) lt82) lt83) lt84) lt85) lt86) lt87)) nin0))
    have F346 := F269.keep Kc330 (ninS (Nat.ne_of_lt (Nat.lt_trans (Nat.lt_trans (Nat.lt_trans (Nat.lt_trans (Nat.lt_trans (Nat.lt_trans (Nat.lt_trans (Nat.lt_trans (Nat.lt_trans (Nat.lt_trans lt90 lt77) lt78) lt79) lt80) lt81) lt82) lt83) lt84) lt85) lt86)) (ninS (Nat.ne_of_lt (Nat.lt_trans (Nat.lt_trans (Nat.lt_trans (Nat.lt_trans (Nat.lt_trans (Nat.lt_trans (Nat.lt_trans (Nat.lt_trans (Nat.lt_trans (Nat.lt_trans (Nat.lt_trans lt90 lt77) lt78) lt79) lt80) lt81) lt82) lt83) lt84) lt85) lt86) lt87)) nin0))
    have F347 := F270.keep Kc330 (ninS (Nat.ne_of_lt (Nat.lt_trans (Nat.lt_trans (Nat.lt_trans (Nat.lt_trans (Nat.lt_trans (Nat.lt_trans (Nat.lt_trans (Nat.lt_trans (Nat.lt_trans (Nat.lt_trans lt90 lt77) lt78) lt79) lt80) lt81) lt82) lt83) lt84) lt85) lt86)) (ninS (Nat.ne_of_lt (Nat.lt_trans (Nat.lt_trans (Nat.lt_trans (Nat.lt_trans (Nat.lt_trans (Nat.lt_trans (Nat.lt_trans (Nat.lt_trans (Nat.lt_trans (Nat.lt_trans (Nat.lt_trans lt90 lt77) lt78) lt79) lt80) lt81) lt82) lt83) lt84) lt85) lt86) lt87)) nin0))
    have F348 := F271.keep Kc330 (ninS (Nat.ne_of_lt (Nat.lt_trans (Nat.lt_trans (Nat.lt_trans (Nat.lt_trans (Nat.lt_trans (Nat.lt_trans (Nat.lt_trans (Nat.lt_trans (Nat.lt_trans (Nat.lt_trans lt90 lt77) lt78) lt79) lt80) lt81) lt82) lt83) lt84) lt85) lt86)) (ninS (Nat.ne_of_lt (Nat.lt_trans (Nat.lt_trans (Nat.lt_trans (Nat.lt_trans (Nat.lt_trans (Nat.lt_trans (Nat.lt_trans (Nat.lt_trans (Nat.lt_trans (Nat.lt_trans (Nat.lt_trans lt90 lt77) lt78) lt79) lt80) lt81) lt82) lt83) lt84) lt85) lt86) lt87)) nin0))
    have F349 := F272.keep Kc330 (ninS (Nat.ne_of_lt (Nat.lt_trans (Nat.lt_trans (Nat.lt_trans (Nat.lt_trans (Nat.lt_trans (Nat.lt_trans (Nat.lt_trans (Nat.lt_trans (Nat.lt_trans (Nat.lt_trans lt90 lt77) lt78) lt79) lt80) lt81) lt82) lt83) lt84) lt85) lt86)) (ninS (Nat.ne_of_lt (Nat.lt_trans (Nat.lt_trans (Nat.lt_trans (Nat.lt_trans (Nat.lt_trans (Nat.lt_trans (Nat.lt_trans (Nat.lt_trans (Nat.lt_trans (Nat.lt_trans (Nat.lt_trans lt90 lt77) lt78) lt79) lt80) lt81) lt82) lt83) lt84) lt85) lt86) lt87)) nin0))
    have F350 := F273.keep Kc330 (ninS (Nat.ne_of_lt (Nat.lt_trans (Nat.lt_trans (Nat.lt_trans (Nat.lt_trans (Nat.lt_trans (Nat.lt_trans (Nat.lt_trans (Nat.lt_trans (Nat.lt_trans (Nat.lt_trans lt90 lt77) lt78) lt79) lt80) lt81) lt82) lt83) lt84) lt85) lt86)) (ninS (Nat.ne_of_lt (Nat.lt_trans (Nat.lt_trans (Nat.lt_trans (Nat.lt_trans (Nat.lt_trans (Nat.lt_trans (Nat.lt_trans (Nat.lt_trans (Nat.lt_trans (Nat.lt_trans (Nat.lt_trans lt90 lt77) lt78) lt79) lt80) lt81) lt82) lt83) lt84) lt85) lt86) lt87)) nin0))
    have F351 := F274.keep Kc330 (ninS (Nat.ne_of_lt (Nat.lt_trans (Nat.lt_trans (Nat.lt_trans (Nat.lt_trans (Nat.lt_trans (Nat.lt_trans (Nat.lt_trans (Nat.lt_trans (Nat.lt_trans lt77 lt78) lt79) lt80) lt81) lt82) lt83) lt84) lt85) lt86)) (ninS (Nat.ne_of_lt (Nat.lt_trans (Nat.lt_trans (Nat.lt_trans (Nat.lt_trans (Nat.lt_trans (Nat.lt_trans (Nat.lt_trans (Nat.lt_trans (Nat.lt_trans (Nat.lt_trans lt77 lt78) lt79) lt80) lt81) lt82) lt83) lt84) lt85) lt86) lt87)) nin0))
    have F352 := F275.keep Kc330 (ninS (Nat.ne_of_lt (Nat.lt_trans (Nat.lt_trans (Nat.lt_trans (Nat.lt_trans (Nat.lt_trans (Nat.lt_trans (Nat.lt_trans (Nat.lt_trans lt78 lt79) lt80) lt81) lt82) lt83) lt84) lt85) lt86)) (ninS (Nat.ne_of_lt (Nat.lt_trans (Nat.lt_trans (Nat.lt_trans (Nat.lt_trans (Nat.lt_trans (Nat.lt_trans (Nat.lt_trans (Nat.lt_trans (Nat.lt_trans lt78 lt79) lt80) lt81) lt82) lt83) lt84) lt85) lt86) lt87)) nin0))
    have F353 := F276.keep Kc330 (ninS (Nat.ne_of_lt (Nat.lt_trans (Nat.lt_trans (Nat.lt_trans (Nat.lt_trans (Nat.lt_trans (Nat.lt_trans (Nat.lt_trans lt79 lt80) lt81) lt82) lt83) lt84) lt85) lt86)) (ninS (Nat.ne_of_lt (Nat.lt_trans (Nat.lt_trans (Nat.lt_trans (Nat.lt_trans (Nat.lt_trans (Nat.lt_trans (Nat.lt_trans (Nat.lt_trans lt79 lt80) lt81) lt82) lt83) lt84) lt85) lt86) lt87)) nin0))
    have F354 := F277.keep Kc330 (ninS (Nat.ne_of_lt (Nat.lt_trans (Nat.lt_trans (Nat.lt_trans (Nat.lt_trans (Nat.lt_trans lt81 lt82) lt83) lt84) lt85) lt86)) (ninS (Nat.ne_of_lt (Nat.lt_trans (Nat.lt_trans (Nat.lt_trans (Nat.lt_trans (Nat.lt_trans (Nat.lt_trans lt81 lt82) lt83) lt84) lt85) lt86) lt87)) nin0))
    have F355 := F278.keep Kc330 (ninS (Nat.ne_of_lt (Nat.lt_trans (Nat.lt_trans (Nat.lt_trans (Nat.lt_trans lt82 lt83) lt84) lt85) lt86)) (ninS (Nat.ne_of_lt (Nat.lt_trans (Nat.lt_trans (Nat.lt_trans (Nat.lt_trans (Nat.lt_trans lt82 lt83) lt84) lt85) lt86) lt87)) nin0))
    have F356 := F279.keep Kc330 (ninS (Nat.ne_of_lt (Nat.lt_trans (Nat.lt_trans lt84 lt85) lt86)) (ninS (Nat.ne_of_lt (Nat.lt_trans (Nat.lt_trans (Nat.lt_trans lt84 lt85) lt86) lt87)) nin0))
    have F357 := F280.keep Kc330 (ninS (Nat.ne_of_lt lt86) (ninS (Nat.ne_of_lt (Nat.lt_trans lt86 lt87)) nin0))
    have F358 := F281.keep Kc330 (ninS (Nat.ne_of_lt (Nat.lt_trans lt85 lt86)) (ninS (Nat.ne_of_lt (Nat.lt_trans (Nat.lt_trans lt85 lt86) lt87)) nin0))
    have F359 := F253.keep Kc330 (ninS (Nat.ne_of_lt (Nat.lt_trans (Nat.lt_trans (Nat.lt_trans (Nat.lt_trans (Nat.lt_trans (Nat.lt_trans lt80 lt81) lt82) lt83) lt84) lt85) lt86)) (ninS (Nat.ne_of_lt (Nat.lt_trans (Nat.lt_trans (Nat.lt_trans (Nat.lt_trans (Nat.lt_trans (Nat.lt_trans (Nat.lt_trans lt80 lt81) lt82) lt83) lt84) lt85) lt86) lt87)) nin0))
    have F360 := F256.keep Kc330 (ninS (Nat.ne_of_gt (Nat.lt_trans lt87 lt88)) (ninS (Nat.ne_of_gt lt88) nin0))
    have Zs361 := Nat.le_trans Zs282 Kc330.1
    have N362 := Fr.app N323 Nq329
    show Goes _ _ _ _ _ _ 209 _ []
    refine g_iload 211 rfl C X327 at_209 rfl ?_
    refine g_if_eq_f 214 rfl C X327 at_211 (by decide) ?_
    refine g_aload 216 rfl C X327 at_214 rfl rfl ?_
    refine g_iload 218 rfl C X327 at_216 rfl ?_
    refine g_callV 221 rfl C X327 (argsL := [(.int v161)]) (hw _ (List.mem_of_getElem? (i := 64) rfl)) (hw _ (List.mem_of_getElem? (i := 65) rfl)) (hw _ (List.mem_of_getElem? (i := 67) rfl)) (hw _ (List.mem_of_getElem? (i := 66) rfl)) (hw _ (List.mem_of_getElem? (i := 68) rfl)) (hw _ (List.mem_of_getElem? (i := 2) rfl)) rfl F334 (rm8 l Z a0 hw [] o3 v161 y43 (upd (upd (upd (fun _ => 0) n162 (-1 : Int32)) n207 v160) n207 (-1 : Int32)) n207 (-1 : Int32) (T325.heap) n0 Zs361 F334 F347 B331 (Nat.lt_trans (Nat.lt_trans (Nat.lt_trans (Nat.lt_trans (Nat.lt_trans (Nat.lt_trans (Nat.lt_trans (Nat.lt_trans (Nat.lt_trans (Nat.lt_trans (Nat.lt_trans lt90 lt77) lt78) lt79) lt80) lt81) lt82) lt83) lt84) lt85) lt86) lt87) gn10 hn207 (by omega) (upd_same rfl)) (lenOf pd_52681284 rfl) (by decide) (by decide) (by decide) (by decide) rfl (W := 0) (Nat.le_of_eq rfl) (by decide) at_218 rfl fun r363 T364 Lc365 X366 hQ367 => ?_
    obtain ⟨rfl, Nq368, eh369⟩ := hQ367
    have N370 := Fr.app N362 Nq368
    show Goes _ _ _ _ _ _ 221 _ [(.int (-1 : Int32))]
    refine g_iconst 222 rfl C X366 (-1 : Int32) at_221 rfl ?_
    refine g_icmp_ne_f 225 rfl C X366 at_222 (by decide) ?_
    refine g_iconst 226 rfl C X366 (1 : Int32) at_225 rfl ?_
    refine g_goto 230 C X366 at_226 (by decide) (by decide) ?_
    refine g_istore 232 rfl C X366 (1 : Int32) rfl #[.val (.int p0), .val (.int p1), .val (.int p2), .val (.int p3), .val (.ref o3), .val (.int (0 : Int32)), .val (.int (0 : Int32)), .val (.int (0 : Int32)), .val (.int (-1 : Int32)), .val (.int v160), .val (.int v161), .val (.int (1 : Int32))] at_230 rfl ?_
    refine g_iload 234 rfl C X366 at_232 rfl ?_
    exact g_retN C X366 (z' := (1 : Int32)) rfl (Or.inl rfl) at_234 eh369 (by decide) (by decide) rfl ⟨rfl, N370⟩
  · skip
    refine g_if_eq_f 29 rfl C X116 at_26 hb159 ?_
    refine g_iconst 30 rfl C X116 (1 : Int32) at_29 rfl ?_
    refine g_goto 34 C X116 at_30 (by decide) (by decide) ?_
    refine g_istore 36 rfl C X116 (1 : Int32) rfl #[.val (.int p0), .val (.int p1), .val (.int p2), .val (.int p3), .val (.ref o3), .val (.int (0 : Int32)), .val (.int (1 : Int32)), .unset, .unset, .unset, .unset, .unset] at_34 rfl ?_
    refine g_iload 38 rfl C X116 at_36 rfl ?_
    refine g_istore 40 rfl C X116 (0 : Int32) rfl #[.val (.int p0), .val (.int p1), .val (.int p2), .val (.int p3), .val (.ref o3), .val (.int (0 : Int32)), .val (.int (1 : Int32)), .val (.int (0 : Int32)), .unset, .unset, .unset, .unset] at_38 rfl ?_
    refine g_iconst 41 rfl C X116 (-1 : Int32) at_40 rfl ?_
    refine g_istore 43 rfl C X116 (-1 : Int32) rfl #[.val (.int p0), .val (.int p1), .val (.int p2), .val (.int p3), .val (.ref o3), .val (.int (0 : Int32)), .val (.int (1 : Int32)), .val (.int (0 : Int32)), .val (.int (-1 : Int32)), .unset, .unset, .unset] at_41 rfl ?_
    refine g_iload 45 rfl C X116 at_43 rfl ?_
    refine g_if_eq_f 48 rfl C X116 at_45 (by decide) ?_
    refine g_aload 50 rfl C X116 at_48 rfl rfl ?_
    refine g_iloadN 51 rfl C X116 at_50 rfl ?_
    refine g_iconst 52 rfl C X116 (1 : Int32) at_51 rfl ?_
    refine g_ishr 53 rfl C X116 at_52 ?_
    refine g_iconst 54 rfl C X116 (1 : Int32) at_53 rfl ?_
    refine g_iand 55 rfl C X116 at_54 ?_
    refine g_iloadN 56 rfl C X116 at_55 rfl ?_
    refine g_iloadN 57 rfl C X116 at_56 rfl ?_
    have hq372 : 0 ≤ ((p2 >>> ((1 : Int32) &&& 31)) &&& (1 : Int32)).toInt ∧ ((p2 >>> ((1 : Int32) &&& 31)) &&& (1 : Int32)).toInt ≤ 1 := by
      have fr373 := rng32 p2
      have fc374 : (1 : Int32).toInt = 1 := rfl
      have fo375 : ((p2 >>> ((1 : Int32) &&& 31))).toInt = p2.toInt / 2 := c_ishr p2 (1 : Int32) 1 (by decide)
      have fo376 : ((p2 >>> ((1 : Int32) &&& 31)) &&& (1 : Int32)).toInt = (p2 >>> ((1 : Int32) &&& 31)).toInt % 2 := c_mask (p2 >>> ((1 : Int32) &&& 31)) (1 : Int32) 1 (by decide) (by decide)
      omega
    obtain ⟨n371, hn371⟩ : ∃ n : Nat, ((p2 >>> ((1 : Int32) &&& 31)) &&& (1 : Int32)).toInt = n := ⟨((p2 >>> ((1 : Int32) &&& 31)) &&& (1 : Int32)).toInt.toNat, by omega⟩
    have hn371m : n371 ≤ 1 := by omega
    have hl377 : ∀ k, k < 2 → -1 ≤ ((upd (fun _ => (-1 : Int32)) n107 (0 : Int32)) k).toInt ∧ ((upd (fun _ => (-1 : Int32)) n107 (0 : Int32)) k).toInt < 4 := fun k hk => by
      have c0 : (0 : Int32).toInt = 0 := rfl
      have c1 : (-1 : Int32).toInt = -1 := rfl
      simp only [upd_eq]; split <;> omega
    refine g_callV 60 rfl C X116 (argsL := [(.int ((p2 >>> ((1 : Int32) &&& 31)) &&& (1 : Int32))), (.int p1), (.int p2)]) (hw _ (List.mem_of_getElem? (i := 40) rfl)) (hw _ (List.mem_of_getElem? (i := 41) rfl)) (hw _ (List.mem_of_getElem? (i := 43) rfl)) (hw _ (List.mem_of_getElem? (i := 42) rfl)) (hw _ (List.mem_of_getElem? (i := 44) rfl)) (hw _ (List.mem_of_getElem? (i := 2) rfl)) rfl F120 (rm4_1 l Z a0 hw [] o3 ((p2 >>> ((1 : Int32) &&& 31)) &&& (1 : Int32)) p1 p2 y32 f136 y33 f137 y34 f138 y35 (upd (fun _ => 0) 0 (-1 : Int32)) y36 f139 y37 f140 y39 f141 y40 (upd (fun _ => (-1 : Int32)) n107 (0 : Int32)) y41 f142 y38 y42 y43 y44 n371 (T114.heap) n0 Zs157 F120 F121 B143 F122 B144 F123 B145 F124 B150 F125 B146 F126 B147 F128 B148 F129 B151 F130 B149 lt90 lt77 lt78 lt79 lt80 lt81 (Nat.lt_trans lt82 lt83) lt84 lt85 gn10 F127 F131 F132 F133 F134 F135 hn371 (by omega) hl377) (lenOf pd_35459080 rfl) (by decide) (by decide) (by decide) (by decide) rfl (W := 0) (Nat.le_of_eq rfl) (by decide) at_57 rfl fun r378 T379 Lc380 X381 hQ382 => ?_
    obtain ⟨rfl, Nq383, Kc384, F385, F386, F387, F388, F389, F390, F391, F392, F393, F394, F395, F396, F397, F398, F399, F400, ⟨f401, B408⟩, ⟨f402, B409⟩, ⟨f403, B410⟩, ⟨f404, B411⟩, ⟨f405, B412⟩, ⟨f406, B413⟩, ⟨f407, B414⟩, B415, B416⟩ := hQ382
    have F417 := F120.keep Kc384
    have F418 := F153.keep Kc384 (ninS (Nat.ne_of_gt (Nat.lt_trans (Nat.lt_trans (Nat.lt_trans (Nat.lt_trans (Nat.lt_trans (Nat.lt_trans lt90 lt77) lt78) lt79) lt80) lt81) lt82)) (ninS (Nat.ne_of_gt (Nat.lt_trans (Nat.lt_trans (Nat.lt_trans (Nat.lt_trans (Nat.lt_trans lt77 lt78) lt79) lt80) lt81) lt82)) (ninS (Nat.ne_of_gt (Nat.lt_trans (Nat.lt_trans (Nat.lt_trans (Nat.lt_trans lt78 lt79) lt80) lt81) lt82)) (ninS (Nat.ne_of_gt (Nat.lt_trans (Nat.lt_trans (Nat.lt_trans lt79 lt80) lt81) lt82)) (ninS (Nat.ne_of_gt (Nat.lt_trans (Nat.lt_trans lt80 lt81) lt82)) (ninS (Nat.ne_of_gt (Nat.lt_trans lt81 lt82)) (ninS (Nat.ne_of_gt lt82) (ninS (Nat.ne_of_lt lt83) (ninS (Nat.ne_of_lt (Nat.lt_trans lt83 lt84)) (ninS (Nat.ne_of_lt (Nat.lt_trans (Nat.lt_trans lt83 lt84) lt85)) nin0))))))))))
    have F419 := F154.keep Kc384 (ninS (Nat.ne_of_gt (Nat.lt_trans (Nat.lt_trans (Nat.lt_trans (Nat.lt_trans (Nat.lt_trans (Nat.lt_trans (Nat.lt_trans (Nat.lt_trans (Nat.lt_trans (Nat.lt_trans lt90 lt77) lt78) lt79) lt80) lt81) lt82) lt83) lt84) lt85) lt86)) (ninS (Nat.ne_of_gt (Nat.lt_trans (Nat.lt_trans (Nat.lt_trans (Nat.lt_trans (Nat.lt_trans (Nat.lt_trans (Nat.lt_trans (Nat.lt_trans (Nat.lt_trans lt77 lt78) lt79) lt80) lt81) lt82) lt83) lt84) lt85) lt86)) (ninS (Nat.ne_of_gt (Nat.lt_trans (Nat.lt_trans (Nat.lt_trans (Nat.lt_trans (Nat.lt_trans (Nat.lt_trans (Nat.lt_trans (Nat.lt_trans lt78 lt79) lt80) lt81) lt82) lt83) lt84) lt85) lt86)) (ninS (Nat.ne_of_gt (Nat.lt_trans (Nat.lt_trans (Nat.lt_trans (Nat.lt_trans (Nat.lt_trans (Nat.lt_trans (Nat.lt_trans lt79 lt80) lt81) lt82) lt83) lt84) lt85) lt86)) (ninS (Nat.ne_of_gt (Nat.lt_trans (Nat.lt_trans (Nat.lt_trans (Nat.lt_trans (Nat.lt_trans (Nat.lt_trans lt80 lt81) lt82) lt83) lt84) lt85) lt86)) (ninS (Nat.ne_of_gt (Nat.lt_trans (Nat.lt_trans (Nat.lt_trans (Nat.lt_trans (Nat.lt_trans lt81 lt82) lt83) lt84) lt85) lt86)) (ninS (Nat.ne_of_gt (Nat.lt_trans (Nat.lt_trans (Nat.lt_trans (Nat.lt_trans lt82 lt83) lt84) lt85) lt86)) (ninS (Nat.ne_of_gt (Nat.lt_trans (Nat.lt_trans lt84 lt85) lt86)) (ninS (Nat.ne_of_gt (Nat.lt_trans lt85 lt86)) (ninS (Nat.ne_of_gt lt86) nin0))))))))))
    have F420 := F155.keep Kc384 (ninS (Nat.ne_of_gt (Nat.lt_trans (Nat.lt_trans (Nat.lt_trans (Nat.lt_trans (Nat.lt_trans (Nat.lt_trans (Nat.lt_trans (Nat.lt_trans (Nat.lt_trans (Nat.lt_trans (Nat.lt_trans lt90 lt77) lt78) lt79) lt80) lt81) lt82) lt83) lt84) lt85) lt86) lt87)) (ninS (Nat.ne_of_gt (Nat.lt_trans (Nat.lt_trans (Nat.lt_trans (Nat.lt_trans (Nat.lt_trans (Nat.lt_trans (Nat.lt_trans (Nat.lt_trans (Nat.lt_trans (Nat.lt_trans lt77 lt78) lt79) lt80) lt81) lt82) lt83) lt84) lt85) lt86) lt87)) (ninS (Nat.ne_of_gt (Nat.lt_trans (Nat.lt_trans (Nat.lt_trans (Nat.lt_trans (Nat.lt_trans (Nat.lt_trans (Nat.lt_trans (Nat.lt_trans (Nat.lt_trans lt78 lt79) lt80) lt81) lt82) lt83) lt84) lt85) lt86) lt87)) (ninS (Nat.ne_of_gt (Nat.lt_trans (Nat.lt_trans (Nat.lt_trans (Nat.lt_trans (Nat.lt_trans (Nat.lt_trans (Nat.lt_trans (Nat.lt_trans lt79 lt80) lt81) lt82) lt83) lt84) lt85) lt86) lt87)) (ninS (Nat.ne_of_gt (Nat.lt_trans (Nat.lt_trans (Nat.lt_trans (Nat.lt_trans (Nat.lt_trans (Nat.lt_trans (Nat.lt_trans lt80 lt81) lt82) lt83) lt84) lt85) lt86) lt87)) (ninS (Nat.ne_of_gt (Nat.lt_trans (Nat.lt_trans (Nat.lt_trans (Nat.lt_trans (Nat.lt_trans (Nat.lt_trans lt81 lt82) lt83) lt84) lt85) lt86) lt87)) (ninS (Nat.ne_of_gt (Nat.lt_trans (Nat.lt_trans (Nat.lt_trans (Nat.lt_trans (Nat.lt_trans lt82 lt83) lt84) lt85) lt86) lt87)) (ninS (Nat.ne_of_gt (Nat.lt_trans (Nat.lt_trans (Nat.lt_trans lt84 lt85) lt86) lt87)) (ninS (Nat.ne_of_gt (Nat.lt_trans (Nat.lt_trans lt85 lt86) lt87)) (ninS (Nat.ne_of_gt (Nat.lt_trans lt86 lt87)) nin0))))))))))
    have F421 := F156.keep Kc384 (ninS (Nat.ne_of_gt (Nat.lt_trans (Nat.lt_trans (Nat.lt_trans (Nat.lt_trans (Nat.lt_trans (Nat.lt_trans (Nat.lt_trans (Nat.lt_trans (Nat.lt_trans (Nat.lt_trans (Nat.lt_trans (Nat.lt_trans lt90 lt77) lt78) lt79) lt80) lt81) lt82) lt83) lt84) lt85) lt86) lt87) lt88)) (ninS (Nat.ne_of_gt (Nat.lt_trans (Nat.lt_trans (Nat.lt_trans (Nat.lt_trans (Nat.lt_trans (Nat.lt_trans (Nat.lt_trans (Nat.lt_trans (Nat.lt_trans (Nat.lt_trans (Nat.lt_trans lt77 lt78) lt79) lt80) lt81) lt82) lt83) lt84) lt85) lt86) lt87) lt88)) (ninS (Nat.ne_of_gt (Nat.lt_trans (Nat.lt_trans (Nat.lt_trans (Nat.lt_trans (Nat.lt_trans (Nat.lt_trans (Nat.lt_trans (Nat.lt_trans (Nat.lt_trans (Nat.lt_trans lt78 lt79) lt80) lt81) lt82) lt83) lt84) lt85) lt86) lt87) lt88)) (ninS (Nat.ne_of_gt (Nat.lt_trans (Nat.lt_trans (Nat.lt_trans (Nat.lt_trans (Nat.lt_trans (Nat.lt_trans (Nat.lt_trans (Nat.lt_trans (Nat.lt_trans lt79 lt80) lt81) lt82) lt83) lt84) lt85) lt86) lt87) lt88)) (ninS (Nat.ne_of_gt (Nat.lt_trans (Nat.lt_trans (Nat.lt_trans (Nat.lt_trans (Nat.lt_trans (Nat.lt_trans (Nat.lt_trans (Nat.lt_trans lt80 lt81) lt82) lt83) lt84) lt85) lt86) lt87) lt88)) (ninS (Nat.ne_of_gt (Nat.lt_trans (Nat.lt_trans (Nat.lt_trans (Nat.lt_trans (Nat.lt_trans (Nat.lt_trans (Nat.lt_trans lt81 lt82) lt83) lt84) lt85) lt86) lt87) lt88)) (ninS (Nat.ne_of_gt (Nat.lt_trans (Nat.lt_trans (Nat.lt_trans (Nat.lt_trans (Nat.lt_trans (Nat.lt_trans lt82 lt83) lt84) lt85) lt86) lt87) lt88)) (ninS (Nat.ne_of_gt (Nat.lt_trans (Nat.lt_trans (Nat.lt_trans (Nat.lt_trans lt84 lt85) lt86) lt87) lt88)) (ninS (Nat.ne_of_gt (Nat.lt_trans (Nat.lt_trans (Nat.lt_trans lt85 lt86) lt87) lt88)) (ninS (Nat.ne_of_gt (Nat.lt_trans (Nat.lt_trans lt86 lt87) lt88)) nin0))))))))))
    have Zs422 := Nat.le_trans Zs157 Kc384.1
    have N423 := Fr.app N158 Nq383
    show Goes _ _ _ _ _ _ 60 _ [(.int (1 : Int32))]
    refine g_istore 62 rfl C X381 (1 : Int32) rfl #[.val (.int p0), .val (.int p1), .val (.int p2), .val (.int p3), .val (.ref o3), .val (.int (0 : Int32)), .val (.int (1 : Int32)), .val (.int (0 : Int32)), .val (.int (-1 : Int32)), .val (.int (1 : Int32)), .unset, .unset] at_60 rfl ?_
    refine g_iload 64 rfl C X381 at_62 rfl ?_
    refine g_istore 66 rfl C X381 (1 : Int32) rfl #[.val (.int p0), .val (.int p1), .val (.int p2), .val (.int p3), .val (.ref o3), .val (.int (0 : Int32)), .val (.int (1 : Int32)), .val (.int (1 : Int32)), .val (.int (-1 : Int32)), .val (.int (1 : Int32)), .unset, .unset] at_64 rfl ?_
    refine g_iload 68 rfl C X381 at_66 rfl ?_
    refine g_istore 70 rfl C X381 (0 : Int32) rfl #[.val (.int p0), .val (.int p1), .val (.int p2), .val (.int p3), .val (.ref o3), .val (.int (0 : Int32)), .val (.int (1 : Int32)), .val (.int (1 : Int32)), .val (.int (0 : Int32)), .val (.int (1 : Int32)), .unset, .unset] at_68 rfl ?_
    refine g_iloadN 71 rfl C X381 at_70 rfl ?_
    refine g_iconst 72 rfl C X381 (3 : Int32) at_71 rfl ?_
    refine g_iand 73 rfl C X381 at_72 ?_
    obtain ⟨v424, hv424⟩ : ∃ z : Int32, (p0 &&& (3 : Int32)) = z := ⟨_, rfl⟩
    refine g_istore 75 rfl C X381 v424 hv424 #[.val (.int p0), .val (.int p1), .val (.int p2), .val (.int p3), .val (.ref o3), .val (.int (0 : Int32)), .val (.int (1 : Int32)), .val (.int (1 : Int32)), .val (.int (0 : Int32)), .val (.int v424), .unset, .unset] at_73 rfl ?_
    refine g_iload 77 rfl C X381 at_75 rfl ?_
    refine g_iconst 78 rfl C X381 (1 : Int32) at_77 rfl ?_
    refine g_iadd 79 rfl C X381 at_78 ?_
    refine g_iloadN 80 rfl C X381 at_79 rfl ?_
    refine g_ldc 82 rfl C X381 (hw _ (List.mem_of_getElem? (i := 53) rfl)) at_80 ?_
    refine g_iand 83 rfl C X381 at_82 ?_
    refine g_iconst 84 rfl C X381 (3 : Int32) at_83 rfl ?_
    refine g_irem 85 rfl C X381 at_84 (by decide) ?_
    refine g_iadd 86 rfl C X381 at_85 ?_
    refine g_iconst 87 rfl C X381 (3 : Int32) at_86 rfl ?_
    refine g_iand 88 rfl C X381 at_87 ?_
    obtain ⟨v425, hv425⟩ : ∃ z : Int32, (((v424 + (1 : Int32)) + ((p1 &&& (2147483647 : Int32)) % (3 : Int32))) &&& (3 : Int32)) = z := ⟨_, rfl⟩
    refine g_istore 90 rfl C X381 v425 hv425 #[.val (.int p0), .val (.int p1), .val (.int p2), .val (.int p3), .val (.ref o3), .val (.int (0 : Int32)), .val (.int (1 : Int32)), .val (.int (1 : Int32)), .val (.int (0 : Int32)), .val (.int v424), .val (.int v425), .unset] at_88 rfl ?_
    refine g_aload 92 rfl C X381 at_90 rfl rfl ?_
    refine g_iload 94 rfl C X381 at_92 rfl ?_
    refine g_iload 96 rfl C X381 at_94 rfl ?_
    have hq427 : 0 ≤ v424.toInt ∧ v424.toInt ≤ 3 := by
      have fr428 := rng32 v424
      have fr429 := rng32 p0
      have fc430 : (3 : Int32).toInt = 3 := rfl
      have fo431 : (p0 &&& (3 : Int32)).toInt = p0.toInt % 4 := c_mask p0 (3 : Int32) 2 (by decide) (by decide)
      have fe432 : (p0 &&& (3 : Int32)).toInt = v424.toInt := congrArg Int32.toInt hv424
      omega
    obtain ⟨n426, hn426⟩ : ∃ n : Nat, v424.toInt = n := ⟨v424.toInt.toNat, by omega⟩
    have hn426m : n426 ≤ 3 := by omega
    refine g_callV 99 rfl C X381 (argsL := [(.int (1 : Int32)), (.int v424)]) (hw _ (List.mem_of_getElem? (i := 54) rfl)) (hw _ (List.mem_of_getElem? (i := 55) rfl)) (hw _ (List.mem_of_getElem? (i := 57) rfl)) (hw _ (List.mem_of_getElem? (i := 56) rfl)) (hw _ (List.mem_of_getElem? (i := 58) rfl)) (hw _ (List.mem_of_getElem? (i := 2) rfl)) rfl F385 (rm6_1_0 l Z a0 hw [] o3 v424 y35 (upd (upd (fun _ => 0) 0 (-1 : Int32)) 1 (-1 : Int32)) y42 (fun _ => (-1 : Int32)) y43 (fun _ => 0) y44 (fun _ => 0) n426 (T379.heap) n0 Zs422 F385 F389 B415 F396 F419 F397 F420 F398 F421 (Nat.lt_trans (Nat.lt_trans (Nat.lt_trans lt90 lt77) lt78) lt79) (Nat.lt_trans (Nat.lt_trans (Nat.lt_trans (Nat.lt_trans (Nat.lt_trans (Nat.lt_trans lt80 lt81) lt82) lt83) lt84) lt85) lt86) lt87 lt88 gn10 hn426 (by omega) (upd_same rfl)) (lenOf pd_1793250 rfl) (by decide) (by decide) (by decide) (by decide) rfl (W := 0) (Nat.le_of_eq rfl) (by decide) at_96 rfl fun r433 T434 Lc435 X436 hQ437 => ?_
    obtain ⟨rfl, Nq438, Kc439, F440, F441, F442, F443⟩ := hQ437
    have F444 := F385.keep Kc439
    have F445 := F418.keep Kc439 (ninS (Nat.ne_of_gt (Nat.lt_trans (Nat.lt_trans lt80 lt81) lt82)) (ninS (Nat.ne_of_lt (Nat.lt_trans (Nat.lt_trans (Nat.lt_trans lt83 lt84) lt85) lt86)) (ninS (Nat.ne_of_lt (Nat.lt_trans (Nat.lt_trans (Nat.lt_trans (Nat.lt_trans lt83 lt84) lt85) lt86) lt87)) (ninS (Nat.ne_of_lt (Nat.lt_trans (Nat.lt_trans (Nat.lt_trans (Nat.lt_trans (Nat.lt_trans lt83 lt84) lt85) lt86) lt87) lt88)) nin0))))
    have F446 := F386.keep Kc439 (ninS (Nat.ne_of_lt (Nat.lt_trans (Nat.lt_trans (Nat.lt_trans lt90 lt77) lt78) lt79)) (ninS (Nat.ne_of_lt (Nat.lt_trans (Nat.lt_trans (Nat.lt_trans (Nat.lt_trans (Nat.lt_trans (Nat.lt_trans (Nat.lt_trans (Nat.lt_trans (Nat.lt_trans (Nat.lt_trans lt90 lt77) lt78) lt79) lt80) lt81) lt82) lt83) lt84) lt85) lt86)) (ninS (Nat.ne_of_lt (Nat.lt_trans (Nat.lt_trans (Nat.lt_trans (Nat.lt_trans (Nat.lt_trans (Nat.lt_trans (Nat.lt_trans (Nat.lt_trans (Nat.lt_trans (Nat.lt_trans (Nat.lt_trans lt90 lt77) lt78) lt79) lt80) lt81) lt82) lt83) lt84) lt85) lt86) lt87)) (ninS (Nat.ne_of_lt (Nat.lt_trans (Nat.lt_trans (Nat.lt_trans (Nat.lt_trans (Nat.lt_trans (Nat.lt_trans (Nat.lt_trans (Nat.lt_trans (Nat.lt_trans (Nat.lt_trans (Nat.lt_trans (Nat.lt_trans lt90 lt77) lt78) lt79) lt80) lt81) lt82) lt83) lt84) lt85) lt86) lt87) lt88)) nin0))))
    have F447 := F387.keep Kc439 (ninS (Nat.ne_of_lt (Nat.lt_trans (Nat.lt_trans (Nat.lt_trans lt90 lt77) lt78) lt79)) (ninS (Nat.ne_of_lt (Nat.lt_trans (Nat.lt_trans (Nat.lt_trans (Nat.lt_trans (Nat.lt_trans (Nat.lt_trans (Nat.lt_trans (Nat.lt_trans (Nat.lt_trans (Nat.lt_trans lt90 lt77) lt78) lt79) lt80) lt81) lt82) lt83) lt84) lt85) lt86)) (ninS (Nat.ne_of_lt (Nat.lt_trans (Nat.lt_trans (Nat.lt_trans (Nat.lt_trans (Nat.lt_trans (Nat.lt_trans (Nat.lt_trans (Nat.lt_trans (Nat.lt_trans (Nat.lt_trans (Nat.lt_trans lt90 lt77) lt78) lt79) lt80) lt81) lt82) lt83) lt84) lt85) lt86) lt87)) (ninS (Nat.ne_of_lt (Nat.lt_trans (Nat.lt_trans (Nat.lt_trans (Nat.lt_trans (Nat.lt_trans (Nat.lt_trans (Nat.lt_trans (Nat.lt_trans (Nat.lt_trans (Nat.lt_trans (Nat.lt_trans (Nat.lt_trans lt90 lt77) lt78) lt79) lt80) lt81) lt82) lt83) lt84) lt85) lt86) lt87) lt88)) nin0))))
    have F448 := F388.keep Kc439 (ninS (Nat.ne_of_lt (Nat.lt_trans (Nat.lt_trans (Nat.lt_trans lt90 lt77) lt78) lt79)) (ninS (Nat.ne_of_lt (Nat.lt_trans (Nat.lt_trans (Nat.lt_trans (Nat.lt_trans (Nat.lt_trans (Nat.lt_trans (Nat.lt_trans (Nat.lt_trans (Nat.lt_trans (Nat.lt_trans lt90 lt77) lt78) lt79) lt80) lt81) lt82) lt83) lt84) lt85) lt86)) (ninS (Nat.ne_of_lt (Nat.lt_trans (Nat.lt_trans (Nat.lt_trans (Nat.lt_trans (Nat.lt_trans (Nat.lt_trans (Nat.lt_trans (Nat.lt_trans (Nat.lt_trans (Nat.lt_trans (Nat.lt_trans lt90 lt77) lt78) lt79) lt80) lt81) lt82) lt83) lt84) lt85) lt86) lt87)) (ninS (Nat.ne_of_lt (Nat.lt_trans (Nat.lt_trans (Nat.lt_trans (Nat.lt_trans (Nat.lt_trans (Nat.lt_trans (Nat.lt_trans (Nat.lt_trans (Nat.lt_trans (Nat.lt_trans (Nat.lt_trans (Nat.lt_trans lt90 lt77) lt78) lt79) lt80) lt81) lt82) lt83) lt84) lt85) lt86) lt87) lt88)) nin0))))
    have F449 := F389.keep Kc439 (ninS (Nat.ne_of_lt (Nat.lt_trans (Nat.lt_trans (Nat.lt_trans lt90 lt77) lt78) lt79)) (ninS (Nat.ne_of_lt (Nat.lt_trans (Nat.lt_trans (Nat.lt_trans (Nat.lt_trans (Nat.lt_trans (Nat.lt_trans (Nat.lt_trans (Nat.lt_trans (Nat.lt_trans (Nat.lt_trans lt90 lt77) lt78) lt79) lt80) lt81) lt82) lt83) lt84) lt85) lt86)) (ninS (Nat.ne_of_lt (Nat.lt_trans (Nat.lt_trans (Nat.lt_trans (Nat.lt_trans (Nat.lt_trans (Nat.lt_trans (Nat.lt_trans (Nat.lt_trans (Nat.lt_trans (Nat.lt_trans (Nat.lt_trans lt90 lt77) lt78) lt79) lt80) lt81) lt82) lt83) lt84) lt85) lt86) lt87)) (ninS (Nat.ne_of_lt (Nat.lt_trans (Nat.lt_trans (Nat.lt_trans (Nat.lt_trans (Nat.lt_trans (Nat.lt_trans (Nat.lt_trans (Nat.lt_trans (Nat.lt_trans (Nat.lt_trans (Nat.lt_trans (Nat.lt_trans lt90 lt77) lt78) lt79) lt80) lt81) lt82) lt83) lt84) lt85) lt86) lt87) lt88)) nin0))))
    have F450 := F390.keep Kc439 (ninS (Nat.ne_of_lt (Nat.lt_trans (Nat.lt_trans (Nat.lt_trans lt90 lt77) lt78) lt79)) (ninS (Nat.ne_of_lt (Nat.lt_trans (Nat.lt_trans (Nat.lt_trans (Nat.lt_trans (Nat.lt_trans (Nat.lt_trans (Nat.lt_trans (Nat.lt_trans (Nat.lt_trans (Nat.lt_trans lt90 lt77) lt78) lt79) lt80) lt81) lt82) lt83) lt84) lt85) lt86)) (ninS (Nat.ne_of_lt (Nat.lt_trans (Nat.lt_trans (Nat.lt_trans (Nat.lt_trans (Nat.lt_trans (Nat.lt_trans (Nat.lt_trans (Nat.lt_trans (Nat.lt_trans (Nat.lt_trans (Nat.lt_trans lt90 lt77) lt78) lt79) lt80) lt81) lt82) lt83) lt84) lt85) lt86) lt87)) (ninS (Nat.ne_of_lt (Nat.lt_trans (Nat.lt_trans (Nat.lt_trans (Nat.lt_trans (Nat.lt_trans (Nat.lt_trans (Nat.lt_trans (Nat.lt_trans (Nat.lt_trans (Nat.lt_trans (Nat.lt_trans (Nat.lt_trans lt90 lt77) lt78) lt79) lt80) lt81) lt82) lt83) lt84) lt85) lt86) lt87) lt88)) nin0))))
    have F451 := F391.keep Kc439 (ninS (Nat.ne_of_lt (Nat.lt_trans (Nat.lt_trans (Nat.lt_trans lt90 lt77) lt78) lt79)) (ninS (Nat.ne_of_lt (Nat.lt_trans (Nat.lt_trans (Nat.lt_trans (Nat.lt_trans (Nat.lt_trans (Nat.lt_trans (Nat.lt_trans (Nat.lt_trans (Nat.lt_trans (Nat.lt_trans lt90 lt77) lt78) lt79) lt80) lt81) lt82) lt83) lt84) lt85) lt86)) (ninS (Nat.ne_of_lt (Nat.lt_trans (Nat.lt_trans (Nat.lt_trans (Nat.lt_trans (Nat.lt_trans (Nat.lt_trans (Nat.lt_trans (Nat.lt_trans (Nat.lt_trans (Nat.lt_trans (Nat.lt_trans lt90 lt77) lt78) lt79) lt80) lt81) lt82) lt83) lt84) lt85) lt86) lt87)) (ninS (Nat.ne_of_lt (Nat.lt_trans (Nat.lt_trans (Nat.lt_trans (Nat.lt_trans (Nat.lt_trans (Nat.lt_trans (Nat.lt_trans (Nat.lt_trans (Nat.lt_trans (Nat.lt_trans (Nat.lt_trans (Nat.lt_trans lt90 lt77) lt78) lt79) lt80) lt81) lt82) lt83) lt84) lt85) lt86) lt87) lt88)) nin0))))
    have F452 := F392.keep Kc439 (ninS (Nat.ne_of_lt (Nat.lt_trans (Nat.lt_trans (Nat.lt_trans lt90 lt77) lt78) lt79)) (ninS (Nat.ne_of_lt (Nat.lt_trans (Nat.lt_trans (Nat.lt_trans (Nat.lt_trans (Nat.lt_trans (Nat.lt_trans (Nat.lt_trans (Nat.lt_trans (Nat.lt_trans (Nat.lt_trans lt90 lt77) lt78) lt79) lt80) lt81) lt82) lt83) lt84) lt85) lt86)) (ninS (Nat.ne_of_lt (Nat.lt_trans (Nat.lt_trans (Nat.lt_trans (Nat.lt_trans (Nat.lt_trans (Nat.lt_trans (Nat.lt_trans (Nat.lt_trans (Nat.lt_trans (Nat.lt_trans (Nat.lt_trans lt90 lt77) lt78) lt79) lt80) lt81) lt82) lt83) lt84) lt85) lt86) lt87)) (ninS (Nat.ne_of_lt (Nat.lt_trans (Nat.lt_trans (Nat.lt_trans (Nat.lt_trans (Nat.lt_trans (Nat.lt_trans (Nat.lt_trans (Nat.lt_trans (Nat.lt_trans (Nat.lt_trans (Nat.lt_trans (Nat.lt_trans lt90 lt77) lt78) lt79) lt80) lt81) lt82) lt83) lt84) lt85) lt86) lt87) lt88)) nin0))))
    have F453 := F393.keep Kc439 (ninS (Nat.ne_of_lt (Nat.lt_trans (Nat.lt_trans (Nat.lt_trans lt90 lt77) lt78) lt79)) (ninS (Nat.ne_of_lt (Nat.lt_trans (Nat.lt_trans (Nat.lt_trans (Nat.lt_trans (Nat.lt_trans (Nat.lt_trans (Nat.lt_trans (Nat.lt_trans (Nat.lt_trans (Nat.lt_trans lt90 lt77) lt78) lt79) lt80) lt81) lt82) lt83) lt84) lt85) lt86)) (ninS (Nat.ne_of_lt (Nat.lt_trans (Nat.lt_trans (Nat.lt_trans (Nat.lt_trans (Nat.lt_trans (Nat.lt_trans (Nat.lt_trans (Nat.lt_trans (Nat.lt_trans (Nat.lt_trans (Nat.lt_trans lt90 lt77) lt78) lt79) lt80) lt81) lt82) lt83) lt84) lt85) lt86) lt87)) (ninS (Nat.ne_of_lt (Nat.lt_trans (Nat.lt_trans (Nat.lt_trans (Nat.lt_trans (Nat.lt_trans (Nat.lt_trans (Nat.lt_trans (Nat.lt_trans (Nat.lt_trans (Nat.lt_trans (Nat.lt_trans (Nat.lt_trans lt90 lt77) lt78) lt79) lt80) lt81) lt82) lt83) lt84) lt85) lt86) lt87) lt88)) nin0))))
    have F454 := F394.keep Kc439 (ninS (Nat.ne_of_lt (Nat.lt_trans (Nat.lt_trans (Nat.lt_trans lt90 lt77) lt78) lt79)) (ninS (Nat.ne_of_lt (Nat.lt_trans (Nat.lt_trans (Nat.lt_trans (Nat.lt_trans (Nat.lt_trans (Nat.lt_trans (Nat.lt_trans (Nat.lt_trans (Nat.lt_trans (Nat.lt_trans lt90 lt77) lt78) lt79) lt80) lt81) lt82) lt83) lt84) lt85) lt86)) (ninS (Nat.ne_of_lt (Nat.lt_trans (Nat.lt_trans (Nat.lt_trans (Nat.lt_trans (Nat.lt_trans (Nat.lt_trans (Nat.lt_trans (Nat.lt_trans (Nat.lt_trans (Nat.lt_trans (Nat.lt_trans lt90 lt77) lt78) lt79) lt80) lt81) lt82) lt83) lt84) lt85) lt86) lt87)) (ninS (Nat.ne_of_lt (Nat.lt_trans (Nat.lt_trans (Nat.lt_trans (Nat.lt_trans (Nat.lt_trans (Nat.lt_trans (Nat.lt_trans (Nat.lt_trans (Nat.lt_trans (Nat.lt_trans (Nat.lt_trans (Nat.lt_trans lt90 lt77) lt78) lt79) lt80) lt81) lt82) lt83) lt84) lt85) lt86) lt87) lt88)) nin0))))
    have F455 := F395.keep Kc439 (ninS (Nat.ne_of_lt (Nat.lt_trans (Nat.lt_trans (Nat.lt_trans lt90 lt77) lt78) lt79)) (ninS (Nat.ne_of_lt (Nat.lt_trans (Nat.lt_trans (Nat.lt_trans (Nat.lt_trans (Nat.lt_trans (Nat.lt_trans (Nat.lt_trans (Nat.lt_trans (Nat.lt_trans (Nat.lt_trans lt90 lt77) lt78) lt79) lt80) lt81) lt82) lt83) lt84) lt85) lt86)) (ninS (Nat.ne_of_lt (Nat.lt_trans (Nat.lt_trans (Nat.lt_trans (Nat.lt_trans (Nat.lt_trans (Nat.lt_trans (Nat.lt_trans (Nat.lt_trans (Nat.lt_trans (Nat.lt_trans (Nat.lt_trans lt90 lt77) lt78) lt79) lt80) lt81) lt82) lt83) lt84) lt85) lt86) lt87)) (ninS (Nat.ne_of_lt (Nat.lt_trans (Nat.lt_trans (Nat.lt_trans (Nat.lt_trans (Nat.lt_trans (Nat.lt_trans (Nat.lt_trans (Nat.lt_trans (Nat.lt_trans (Nat.lt_trans (Nat.lt_trans (Nat.lt_trans lt90 lt77) lt78) lt79) lt80) lt81) lt82) lt83) lt84) lt85) lt86) lt87) lt88)) nin0))))
    have F456 := F396.keep Kc439 (ninS (Nat.ne_of_lt (Nat.lt_trans (Nat.lt_trans (Nat.lt_trans lt90 lt77) lt78) lt79)) (ninS (Nat.ne_of_lt (Nat.lt_trans (Nat.lt_trans (Nat.lt_trans (Nat.lt_trans (Nat.lt_trans (Nat.lt_trans (Nat.lt_trans (Nat.lt_trans (Nat.lt_trans (Nat.lt_trans lt90 lt77) lt78) lt79) lt80) lt81) lt82) lt83) lt84) lt85) lt86)) (ninS (Nat.ne_of_lt (Nat.lt_trans (Nat.lt_trans (Nat.lt_trans (Nat.lt_trans (Nat.lt_trans (Nat.lt_trans (Nat.lt_trans (Nat.lt_trans (Nat.lt_trans (Nat.lt_trans (Nat.lt_trans lt90 lt77) lt78) lt79) lt80) lt81) lt82) lt83) lt84) lt85) lt86) lt87)) (ninS (Nat.ne_of_lt (Nat.lt_trans (Nat.lt_trans (Nat.lt_trans (Nat.lt_trans (Nat.lt_trans (Nat.lt_trans (Nat.lt_trans (Nat.lt_trans (Nat.lt_trans (Nat.lt_trans (Nat.lt_trans (Nat.lt_trans lt90 lt77) lt78) lt79) lt80) lt81) lt82) lt83) lt84) lt85) lt86) lt87) lt88)) nin0))))
    have F457 := F397.keep Kc439 (ninS (Nat.ne_of_lt (Nat.lt_trans (Nat.lt_trans (Nat.lt_trans lt90 lt77) lt78) lt79)) (ninS (Nat.ne_of_lt (Nat.lt_trans (Nat.lt_trans (Nat.lt_trans (Nat.lt_trans (Nat.lt_trans (Nat.lt_trans (Nat.lt_trans (Nat.lt_trans (Nat.lt_trans (Nat.lt_trans lt90 lt77) lt78) lt79) lt80) lt81) lt82) lt83) lt84) lt85) lt86)) (ninS (Nat.ne_of_lt (Nat.lt_trans (Nat.lt_trans (Nat.lt_trans (Nat.lt_trans (Nat.lt_trans (Nat.lt_trans (Nat.lt_trans (Nat.lt_trans (Nat.lt_trans (Nat.lt_trans (Nat.lt_trans lt90 lt77) lt78) lt79) lt80) lt81) lt82) lt83) lt84) lt85) lt86) lt87)) (ninS (Nat.ne_of_lt (Nat.lt_trans (Nat.lt_trans (Nat.lt_trans (Nat.lt_trans (Nat.lt_trans (Nat.lt_trans (Nat.lt_trans (Nat.lt_trans (Nat.lt_trans (Nat.lt_trans (Nat.lt_trans (Nat.lt_trans lt90 lt77) lt78) lt79) lt80) lt81) lt82) lt83) lt84) lt85) lt86) lt87) lt88)) nin0))))
    have F458 := F398.keep Kc439 (ninS (Nat.ne_of_lt (Nat.lt_trans (Nat.lt_trans (Nat.lt_trans lt90 lt77) lt78) lt79)) (ninS (Nat.ne_of_lt (Nat.lt_trans (Nat.lt_trans (Nat.lt_trans (Nat.lt_trans (Nat.lt_trans (Nat.lt_trans (Nat.lt_trans (Nat.lt_trans (Nat.lt_trans (Nat.lt_trans lt90 lt77) lt78) lt79) lt80) lt81) lt82) lt83) lt84) lt85) lt86)) (ninS (Nat.ne_of_lt (Nat.lt_trans (Nat.lt_trans (Nat.lt_trans (Nat.lt_trans (Nat.lt_trans (Nat.lt_trans (Nat.lt_trans (Nat.lt_trans (Nat.lt_trans (Nat.lt_trans (Nat.lt_trans lt90 lt77) lt78) lt79) lt80) lt81) lt82) lt83) lt84) lt85) lt86) lt87)) (ninS (Nat.ne_of_lt (Nat.lt_trans (Nat.lt_trans (Nat.lt_trans (Nat.lt_trans (Nat.lt_trans (Nat.lt_trans (Nat.lt_trans (Nat.lt_trans (Nat.lt_trans (Nat.lt_trans (Nat.lt_trans (Nat.lt_trans lt90 lt77) lt78) lt79) lt80) lt81) lt82) lt83) lt84) lt85) lt86) lt87) lt88)) nin0))))
    have F459 := F399.keep Kc439 (ninS (Nat.ne_of_lt (Nat.lt_trans (Nat.lt_trans (Nat.lt_trans lt90 lt77) lt78) lt79)) (ninS (Nat.ne_of_lt (Nat.lt_trans (Nat.lt_trans (Nat.lt_trans (Nat.lt_trans (Nat.lt_trans (Nat.lt_trans (Nat.lt_trans (Nat.lt_trans (Nat.lt_trans (Nat.lt_trans lt90 lt77) lt78) lt79) lt80) lt81) lt82) lt83) lt84) lt85) lt86)) (ninS (Nat.ne_of_lt (Nat.lt_trans (Nat.lt_trans (Nat.lt_trans (Nat.lt_trans (Nat.lt_trans (Nat.lt_trans (Nat.lt_trans (Nat.lt_trans (Nat.lt_trans (Nat.lt_trans (Nat.lt_trans lt90 lt77) lt78) lt79) lt80) lt81) lt82) lt83) lt84) lt85) lt86) lt87)) (ninS (Nat.ne_of_lt (Nat.lt_trans (Nat.lt_trans (Nat.lt_trans (Nat.lt_trans (Nat.lt_trans (Nat.lt_trans (Nat.lt_trans (Nat.lt_trans (Nat.lt_trans (Nat.lt_trans (Nat.lt_trans (Nat.lt_trans lt90 lt77) lt78) lt79) lt80) lt81) lt82) lt83) lt84) lt85) lt86) lt87) lt88)) nin0))))
    have F460 := F400.keep Kc439 (ninS (Nat.ne_of_lt (Nat.lt_trans (Nat.lt_trans (Nat.lt_trans lt90 lt77) lt78) lt79)) (ninS (Nat.ne_of_lt (Nat.lt_trans (Nat.lt_trans (Nat.lt_trans (Nat.lt_trans (Nat.lt_trans (Nat.lt_trans (Nat.lt_trans (Nat.lt_trans (Nat.lt_trans (Nat.lt_trans lt90 lt77) lt78) lt79) lt80) lt81) lt82) lt83) lt84) lt85) lt86)) (ninS (Nat.ne_of_lt (Nat.lt_trans (Nat.lt_trans (Nat.lt_trans (Nat.lt_trans (Nat.lt_trans (Nat.lt_trans (Nat.lt_trans (Nat.lt_trans (Nat.lt_trans (Nat.lt_trans (Nat.lt_trans lt90 lt77) lt78) lt79) lt80) lt81) lt82) lt83) lt84) lt85) lt86) lt87)) (ninS (Nat.ne_of_lt (Nat.lt_trans (Nat.lt_trans (Nat.lt_trans (Nat.lt_trans (Nat.lt_trans (Nat.lt_trans (Nat.lt_trans (Nat.lt_trans (Nat.lt_trans (Nat.lt_trans (Nat.lt_trans (Nat.lt_trans lt90 lt77) lt78) lt79) lt80) lt81) lt82) lt83) lt84) lt85) lt86) lt87) lt88)) nin0))))
    have F461 := B408.keep Kc439 (ninS (Nat.ne_of_lt (Nat.lt_trans (Nat.lt_trans lt77 lt78) lt79)) (ninS (Nat.ne_of_lt (Nat.lt_trans (Nat.lt_trans (Nat.lt_trans (Nat.lt_trans (Nat.lt_trans (Nat.lt_trans (Nat.lt_trans (Nat.lt_trans (Nat.lt_trans lt77 lt78) lt79) lt80) lt81) lt82) lt83) lt84) lt85) lt86)) (ninS (Nat.ne_of_lt (Nat.lt_trans (Nat.lt_trans (Nat.lt_trans (Nat.lt_trans (Nat.lt_trans (Nat.lt_trans (Nat.lt_trans (Nat.lt_trans (Nat.lt_trans (Nat.lt_trans lt77 lt78) lt79) lt80) lt81) lt82) lt83) lt84) lt85) lt86) lt87)) (ninS (Nat.ne_of_lt (Nat.lt_trans (Nat.lt_trans (Nat.lt_trans (Nat.lt_trans (Nat.lt_trans (Nat.lt_trans (Nat.lt_trans (Nat.lt_trans (Nat.lt_trans (Nat.lt_trans (Nat.lt_trans lt77 lt78) lt79) lt80) lt81) lt82) lt83) lt84) lt85) lt86) lt87) lt88)) nin0))))
    have F462 := B409.keep Kc439 (ninS (Nat.ne_of_lt (Nat.lt_trans lt78 lt79)) (ninS (Nat.ne_of_lt (Nat.lt_trans (Nat.lt_trans (Nat.lt_trans (Nat.lt_trans (Nat.lt_trans (Nat.lt_trans (Nat.lt_trans (Nat.lt_trans lt78 lt79) lt80) lt81) lt82) lt83) lt84) lt85) lt86)) (ninS (Nat.ne_of_lt (Nat.lt_trans (Nat.lt_trans (Nat.lt_trans (Nat.lt_trans (Nat.lt_trans (Nat.lt_trans (Nat.lt_trans (Nat.lt_trans (Nat.lt_trans lt78 lt79) lt80) lt81) lt82) lt83) lt84) lt85) lt86) lt87)) (ninS (Nat.ne_of_lt (Nat.lt_trans (Nat.lt_trans (Nat.lt_trans (Nat.lt_trans (Nat.lt_trans (Nat.lt_trans (Nat.lt_trans (Nat.lt_trans (Nat.lt_trans (Nat.lt_trans lt78 lt79) lt80) lt81) lt82) lt83) lt84) lt85) lt86) lt87) lt88)) nin0))))
    have F463 := B410.keep Kc439 (ninS (Nat.ne_of_lt lt79) (ninS (Nat.ne_of_lt (Nat.lt_trans (Nat.lt_trans (Nat.lt_trans (Nat.lt_trans (Nat.lt_trans (Nat.lt_trans (Nat.lt_trans lt79 lt80) lt81) lt82) lt83) lt84) lt85) lt86)) (ninS (Nat.ne_of_lt (Nat.lt_trans (Nat.lt_trans (Nat.lt_trans (Nat.lt_trans (Nat.lt_trans (Nat.lt_trans (Nat.lt_trans (Nat.lt_trans lt79 lt80) lt81) lt82) lt83) lt84) lt85) lt86) lt87)) (ninS (Nat.ne_of_lt (Nat.lt_trans (Nat.lt_trans (Nat.lt_trans (Nat.lt_trans (Nat.lt_trans (Nat.lt_trans (Nat.lt_trans (Nat.lt_trans (Nat.lt_trans lt79 lt80) lt81) lt82) lt83) lt84) lt85) lt86) lt87) lt88)) nin0))))
    have F464 := B411.keep Kc439 (ninS (Nat.ne_of_gt lt80) (ninS (Nat.ne_of_lt (Nat.lt_trans (Nat.lt_trans (Nat.lt_trans (Nat.lt_trans (Nat.lt_trans lt81 lt82) lt83) lt84) lt85) lt86)) (ninS (Nat.ne_of_lt (Nat.lt_trans (Nat.lt_trans (Nat.lt_trans (Nat.lt_trans (Nat.lt_trans (Nat.lt_trans lt81 lt82) lt83) lt84) lt85) lt86) lt87)) (ninS (Nat.ne_of_lt (Nat.lt_trans (Nat.lt_trans (Nat.lt_trans (Nat.lt_trans (Nat.lt_trans (Nat.lt_trans (Nat.lt_trans lt81 lt82) lt83) lt84) lt85) lt86) lt87) lt88)) nin0))))
    have F465 := B412.keep Kc439 (ninS (Nat.ne_of_gt (Nat.lt_trans lt80 lt81)) (ninS (Nat.ne_of_lt (Nat.lt_trans (Nat.lt_trans (Nat.lt_trans (Nat.lt_trans lt82 lt83) lt84) lt85) lt86)) (ninS (Nat.ne_of_lt (Nat.lt_trans (Nat.lt_trans (Nat.lt_trans (Nat.lt_trans (Nat.lt_trans lt82 lt83) lt84) lt85) lt86) lt87)) (ninS (Nat.ne_of_lt (Nat.lt_trans (Nat.lt_trans (Nat.lt_trans (Nat.lt_trans (Nat.lt_trans (Nat.lt_trans lt82 lt83) lt84) lt85) lt86) lt87) lt88)) nin0))))
    have F466 := B413.keep Kc439 (ninS (Nat.ne_of_gt (Nat.lt_trans (Nat.lt_trans (Nat.lt_trans lt80 lt81) lt82) lt83)) (ninS (Nat.ne_of_lt (Nat.lt_trans (Nat.lt_trans lt84 lt85) lt86)) (ninS (Nat.ne_of_lt (Nat.lt_trans (Nat.lt_trans (Nat.lt_trans lt84 lt85) lt86) lt87)) (ninS (Nat.ne_of_lt (Nat.lt_trans (Nat.lt_trans (Nat.lt_trans (Nat.lt_trans lt84 lt85) lt86) lt87) lt88)) nin0))))
    have F467 := B414.keep Kc439 (ninS (Nat.ne_of_gt (Nat.lt_trans (Nat.lt_trans (Nat.lt_trans (Nat.lt_trans (Nat.lt_trans lt80 lt81) lt82) lt83) lt84) lt85)) (ninS (Nat.ne_of_lt lt86) (ninS (Nat.ne_of_lt (Nat.lt_trans lt86 lt87)) (ninS (Nat.ne_of_lt (Nat.lt_trans (Nat.lt_trans lt86 lt87) lt88)) nin0))))
    have F468 := B416.keep Kc439 (ninS (Nat.ne_of_gt (Nat.lt_trans (Nat.lt_trans (Nat.lt_trans (Nat.lt_trans lt80 lt81) lt82) lt83) lt84)) (ninS (Nat.ne_of_lt (Nat.lt_trans lt85 lt86)) (ninS (Nat.ne_of_lt (Nat.lt_trans (Nat.lt_trans lt85 lt86) lt87)) (ninS (Nat.ne_of_lt (Nat.lt_trans (Nat.lt_trans (Nat.lt_trans lt85 lt86) lt87) lt88)) nin0))))
    have Zs469 := Nat.le_trans Zs422 Kc439.1
    have N470 := Fr.app N423 Nq438
    show Goes _ _ _ _ _ _ 99 _ []
    refine g_aload 101 rfl C X436 at_99 rfl rfl ?_
    refine g_iload 103 rfl C X436 at_101 rfl ?_
    refine g_iload 105 rfl C X436 at_103 rfl ?_
    have hq472 : 0 ≤ v425.toInt ∧ v425.toInt ≤ 3 := by
      have fr473 := rng32 v425
      have fr474 := rng32 v424
      have fr475 := rng32 p0
      have fc476 : (3 : Int32).toInt = 3 := rfl
      have fo477 : (p0 &&& (3 : Int32)).toInt = p0.toInt % 4 := c_mask p0 (3 : Int32) 2 (by decide) (by decide)
      have fe478 : (p0 &&& (3 : Int32)).toInt = v424.toInt := congrArg Int32.toInt hv424
      have fc479 : (1 : Int32).toInt = 1 := rfl
      have fo480 := c_iadd v424 (1 : Int32)
      have fr481 := rng32 (v424 + (1 : Int32))
      have fr482 := rng32 p1
      have fc483 : (2147483647 : Int32).toInt = 2147483647 := rfl
      have fo484 : (p1 &&& (2147483647 : Int32)).toInt = p1.toInt % 2147483648 := c_mask p1 (2147483647 : Int32) 31 (by decide) (by decide)
      have fo485 := c_irem (p1 &&& (2147483647 : Int32)) (3 : Int32) 3 rfl
      have fr486 := rng32 ((p1 &&& (2147483647 : Int32)) % (3 : Int32))
      have fo487 := c_iadd (v424 + (1 : Int32)) ((p1 &&& (2147483647 : Int32)) % (3 : Int32))
      have fr488 := rng32 ((v424 + (1 : Int32)) + ((p1 &&& (2147483647 : Int32)) % (3 : Int32)))
      have fo489 : (((v424 + (1 : Int32)) + ((p1 &&& (2147483647 : Int32)) % (3 : Int32))) &&& (3 : Int32)).toInt = ((v424 + (1 : Int32)) + ((p1 &&& (2147483647 : Int32)) % (3 : Int32))).toInt % 4 := c_mask ((v424 + (1 : Int32)) + ((p1 &&& (2147483647 : Int32)) % (3 : Int32))) (3 : Int32) 2 (by decide) (by decide)
      have fe490 : (((v424 + (1 : Int32)) + ((p1 &&& (2147483647 : Int32)) % (3 : Int32))) &&& (3 : Int32)).toInt = v425.toInt := congrArg Int32.toInt hv425
      omega
    obtain ⟨n471, hn471⟩ : ∃ n : Nat, v425.toInt = n := ⟨v425.toInt.toNat, by omega⟩
    have hn471m : n471 ≤ 3 := by omega
    have hq491 : n426 ≠ n471 := by
      have fr492 := rng32 v424
      have fr493 := rng32 p0
      have fc494 : (3 : Int32).toInt = 3 := rfl
      have fo495 : (p0 &&& (3 : Int32)).toInt = p0.toInt % 4 := c_mask p0 (3 : Int32) 2 (by decide) (by decide)
      have fe496 : (p0 &&& (3 : Int32)).toInt = v424.toInt := congrArg Int32.toInt hv424
      have fr497 := rng32 v425
      have fc498 : (1 : Int32).toInt = 1 := rfl
      have fo499 := c_iadd v424 (1 : Int32)
      have fr500 := rng32 (v424 + (1 : Int32))
      have fr501 := rng32 p1
      have fc502 : (2147483647 : Int32).toInt = 2147483647 := rfl
      have fo503 : (p1 &&& (2147483647 : Int32)).toInt = p1.toInt % 2147483648 := c_mask p1 (2147483647 : Int32) 31 (by decide) (by decide)
      have fo504 := c_irem (p1 &&& (2147483647 : Int32)) (3 : Int32) 3 rfl
      have fr505 := rng32 ((p1 &&& (2147483647 : Int32)) % (3 : Int32))
      have fo506 := c_iadd (v424 + (1 : Int32)) ((p1 &&& (2147483647 : Int32)) % (3 : Int32))
      have fr507 := rng32 ((v424 + (1 : Int32)) + ((p1 &&& (2147483647 : Int32)) % (3 : Int32)))
      have fo508 : (((v424 + (1 : Int32)) + ((p1 &&& (2147483647 : Int32)) % (3 : Int32))) &&& (3 : Int32)).toInt = ((v424 + (1 : Int32)) + ((p1 &&& (2147483647 : Int32)) % (3 : Int32))).toInt % 4 := c_mask ((v424 + (1 : Int32)) + ((p1 &&& (2147483647 : Int32)) % (3 : Int32))) (3 : Int32) 2 (by decide) (by decide)
      have fe509 : (((v424 + (1 : Int32)) + ((p1 &&& (2147483647 : Int32)) % (3 : Int32))) &&& (3 : Int32)).toInt = v425.toInt := congrArg Int32.toInt hv425
      omega
    refine g_callV 108 rfl C X436 (argsL := [(.int (1 : Int32)), (.int v425)]) (hw _ (List.mem_of_getElem? (i := 54) rfl)) (hw _ (List.mem_of_getElem? (i := 55) rfl)) (hw _ (List.mem_of_getElem? (i := 57) rfl)) (hw _ (List.mem_of_getElem? (i := 56) rfl)) (hw _ (List.mem_of_getElem? (i := 58) rfl)) (hw _ (List.mem_of_getElem? (i := 2) rfl)) rfl F444 (rm6_1_1 l Z a0 hw [] o3 v425 y35 (upd (upd (upd (fun _ => 0) 0 (-1 : Int32)) 1 (-1 : Int32)) 1 v424) y42 (upd (fun _ => (-1 : Int32)) n426 (1 : Int32)) y43 (upd (fun _ => 0) n426 (-1 : Int32)) y44 (upd (fun _ => 0) n426 (-1 : Int32)) n471 v424 n426 (T434.heap) n0 Zs469 F444 F449 F440 F456 F441 F457 F442 F458 F443 (Nat.lt_trans (Nat.lt_trans (Nat.lt_trans lt90 lt77) lt78) lt79) (Nat.lt_trans (Nat.lt_trans (Nat.lt_trans (Nat.lt_trans (Nat.lt_trans (Nat.lt_trans lt80 lt81) lt82) lt83) lt84) lt85) lt86) lt87 lt88 gn10 hn471 (by omega) (upd_same rfl) hn426 (by omega)) (lenOf pd_1793250 rfl) (by decide) (by decide) (by decide) (by decide) rfl (W := 0) (Nat.le_of_eq rfl) (by decide) at_105 rfl fun r510 T511 Lc512 X513 hQ514 => ?_
    obtain ⟨rfl, Nq515, Kc516, F517, F518, F519, F520⟩ := hQ514
    have F521 := F444.keep Kc516
    have F522 := F445.keep Kc516 (ninS (Nat.ne_of_gt (Nat.lt_trans (Nat.lt_trans lt80 lt81) lt82)) (ninS (Nat.ne_of_lt (Nat.lt_trans (Nat.lt_trans (Nat.lt_trans lt83 lt84) lt85) lt86)) (ninS (Nat.ne_of_lt (Nat.lt_trans (Nat.lt_trans (Nat.lt_trans (Nat.lt_trans lt83 lt84) lt85) lt86) lt87)) (ninS (Nat.ne_of_lt (Nat.lt_trans (Nat.lt_trans (Nat.lt_trans (Nat.lt_trans (Nat.lt_trans lt83 lt84) lt85) lt86) lt87) lt88)) nin0))))
    have F523 := F446.keep Kc516 (ninS (Nat.ne_of_lt (Nat.lt_trans (Nat.lt_trans (Nat.lt_trans lt90 lt77) lt78) lt79)) (ninS (Nat.ne_of_lt (Nat.lt_trans (Nat.lt_trans (Nat.lt_trans (Nat.lt_trans (Nat.lt_trans (Nat.lt_trans (Nat.lt_trans (Nat.lt_trans (Nat.lt_trans (Nat.lt_trans lt90 lt77) lt78) lt79) lt80) lt81) lt82) lt83) lt84) lt85) lt86)) (ninS (Nat.ne_of_lt (Nat.lt_trans (Nat.lt_trans (Nat.lt_trans (Nat.lt_trans (Nat.lt_trans (Nat.lt_trans (Nat.lt_trans (Nat.lt_trans (Nat.lt_trans (Nat.lt_trans (Nat.lt_trans lt90 lt77) lt78) lt79) lt80) lt81) lt82) lt83) lt84) lt85) lt86) lt87)) (ninS (Nat.ne_of_lt (Nat.lt_trans (Nat.lt_trans (Nat.lt_trans (Nat.lt_trans (Nat.lt_trans (Nat.lt_trans (Nat.lt_trans (Nat.lt_trans (Nat.lt_trans (Nat.lt_trans (Nat.lt_trans (Nat.lt_trans lt90 lt77) lt78) lt79) lt80) lt81) lt82) lt83) lt84) lt85) lt86) lt87) lt88)) nin0))))
    have F524 := F447.keep Kc516 (ninS (Nat.ne_of_lt (Nat.lt_trans (Nat.lt_trans (Nat.lt_trans lt90 lt77) lt78) lt79)) (ninS (Nat.ne_of_lt (Nat.lt_trans (Nat.lt_trans (Nat.lt_trans (Nat.lt_trans (Nat.lt_trans (Nat.lt_trans (Nat.lt_trans (Nat.lt_trans (Nat.lt_trans (Nat.lt_trans lt90 lt77) lt78) lt79) lt80) lt81) lt82) lt83) lt84) lt85) lt86)) (ninS (Nat.ne_of_lt (Nat.lt_trans (Nat.lt_trans (Nat.lt_trans (Nat.lt_trans (Nat.lt_trans (Nat.lt_trans (Nat.lt_trans (Nat.lt_trans (Nat.lt_trans (Nat.lt_trans (Nat.lt_trans lt90 lt77) lt78) lt79) lt80) lt81) lt82) lt83) lt84) lt85) lt86) lt87)) (ninS (Nat.ne_of_lt (Nat.lt_trans (Nat.lt_trans (Nat.lt_trans (Nat.lt_trans (Nat.lt_trans (Nat.lt_trans (Nat.lt_trans (Nat.lt_trans (Nat.lt_trans (Nat.lt_trans (Nat.lt_trans (Nat.lt_trans lt90 lt77) lt78) lt79) lt80) lt81) lt82) lt83) lt84) lt85) lt86) lt87) lt88)) nin0))))
    have F525 := F448.keep Kc516 (ninS (Nat.ne_of_lt (Nat.lt_trans (Nat.lt_trans (Nat.lt_trans lt90 lt77) lt78) lt79)) (ninS (Nat.ne_of_lt (Nat.lt_trans (Nat.lt_trans (Nat.lt_trans (Nat.lt_trans (Nat.lt_trans (Nat.lt_trans (Nat.lt_trans (Nat.lt_trans (Nat.lt_trans (Nat.lt_trans lt90 lt77) lt78) lt79) lt80) lt81) lt82) lt83) lt84) lt85) lt86)) (ninS (Nat.ne_of_lt (Nat.lt_trans (Nat.lt_trans (Nat.lt_trans (Nat.lt_trans (Nat.lt_trans (Nat.lt_trans (Nat.lt_trans (Nat.lt_trans (Nat.lt_trans (Nat.lt_trans (Nat.lt_trans lt90 lt77) lt78) lt79) lt80) lt81) lt82) lt83) lt84) lt85) lt86) lt87)) (ninS (Nat.ne_of_lt (Nat.lt_trans (Nat.lt_trans (Nat.lt_trans (Nat.lt_trans (Nat.lt_trans (Nat.lt_trans (Nat.lt_trans (Nat.lt_trans (Nat.lt_trans (Nat.lt_trans (Nat.lt_trans (Nat.lt_trans lt90 lt77) lt78) lt79) lt80) lt81) lt82) lt83) lt84) lt85) lt86) lt87) lt88)) nin0))))
    have F526 := F449.keep Kc516 (ninS (Nat.ne_of_lt (Nat.lt_trans (Nat.lt_trans (Nat.lt_trans lt90 lt77) lt78) lt79)) (ninS (Nat.ne_of_lt (Nat.lt_trans (Nat.lt_trans (Nat.lt_trans (Nat.lt_trans (Nat.lt_trans (Nat.lt_trans (Nat.lt_trans (Nat.lt_trans (Nat.lt_trans (Nat.lt_trans lt90 lt77) lt78) lt79) lt80) lt81) lt82) lt83) lt84) lt85) lt86)) (ninS (Nat.ne_of_lt (Nat.lt_trans (Nat.lt_trans (Nat.lt_trans (Nat.lt_trans (Nat.lt_trans (Nat.lt_trans (Nat.lt_trans (Nat.lt_trans (Nat.lt_trans (Nat.lt_trans (Nat.lt_trans lt90 lt77) lt78) lt79) lt80) lt81) lt82) lt83) lt84) lt85) lt86) lt87)) (ninS (Nat.ne_of_lt (Nat.lt_trans (Nat.lt_trans (Nat.lt_trans (Nat.lt_trans (Nat.lt_trans (Nat.lt_trans (Nat.lt_trans (Nat.lt_trans (Nat.lt_trans (Nat.lt_trans (Nat.lt_trans (Nat.lt_trans lt90 lt77) lt78) lt79) lt80) lt81) lt82) lt83) lt84) lt85) lt86) lt87) lt88)) nin0))))
    have F527 := F450.keep Kc516 (ninS (Nat.ne_of_lt (Nat.lt_trans (Nat.lt_trans (Nat.lt_trans lt90 lt77) lt78) lt79)) (ninS (Nat.ne_of_lt (Nat.lt_trans (Nat.lt_trans (Nat.lt_trans (Nat.lt_trans (Nat.lt_trans (Nat.lt_trans (Nat.lt_trans (Nat.lt_trans (Nat.lt_trans (Nat.lt_trans lt90 lt77) lt78) lt79) lt80) lt81) lt82) lt83) lt84) lt85) lt86)) (ninS (Nat.ne_of_lt (Nat.lt_trans (Nat.lt_trans (Nat.lt_trans (Nat.lt_trans (Nat.lt_trans (Nat.lt_trans (Nat.lt_trans (Nat.lt_trans (Nat.lt_trans (Nat.lt_trans (Nat.lt_trans lt90 lt77) lt78) lt79) lt80) lt81) lt82) lt83) lt84) lt85) lt86) lt87)) (ninS (Nat.ne_of_lt (Nat.lt_trans (Nat.lt_trans (Nat.lt_trans (Nat.lt_trans (Nat.lt_trans (Nat.lt_trans (Nat.lt_trans (Nat.lt_trans (Nat.lt_trans (Nat.lt_trans (Nat.lt_trans (Nat.lt_trans lt90 lt77) lt78) lt79) lt80) lt81) lt82) lt83) lt84) lt85) lt86) lt87) lt88)) nin0))))
    have F528 := F451.keep Kc516 (ninS (Nat.ne_of_lt (Nat.lt_trans (Nat.lt_trans (Nat.lt_trans lt90 lt77) lt78) lt79)) (ninS (Nat.ne_of_lt (Nat.lt_trans (Nat.lt_trans (Nat.lt_trans (Nat.lt_trans (Nat.lt_trans (Nat.lt_trans (Nat.lt_trans (Nat.lt_trans (Nat.lt_trans (Nat.lt_trans lt90 lt77) lt78) lt79) lt80) lt81) lt82) lt83) lt84) lt85) lt86)) (ninS (Nat.ne_of_lt (Nat.lt_trans (Nat.lt_trans (Nat.lt_trans (Nat.lt_trans (Nat.lt_trans (Nat.lt_trans (Nat.lt_trans (Nat.lt_trans (Nat.lt_trans (Nat.lt_trans (Nat.lt_trans lt90 lt77) lt78) lt79) lt80) lt81) lt82) lt83) lt84) lt85) lt86) lt87)) (ninS (Nat.ne_of_lt (Nat.lt_trans (Nat.lt_trans (Nat.lt_trans (Nat.lt_trans (Nat.lt_trans (Nat.lt_trans (Nat.lt_trans (Nat.lt_trans (Nat.lt_trans (Nat.lt_trans (Nat.lt_trans (Nat.lt_trans lt90 lt77) lt78) lt79) lt80) lt81) lt82) lt83) lt84) lt85) lt86) lt87) lt88)) nin0))))
    have F529 := F452.keep Kc516 (ninS (Nat.ne_of_lt (Nat.lt_trans (Nat.lt_trans (Nat.lt_trans lt90 lt77) lt78) lt79)) (ninS (Nat.ne_of_lt (Nat.lt_trans (Nat.lt_trans (Nat.lt_trans (Nat.lt_trans (Nat.lt_trans (Nat.lt_trans (Nat.lt_trans (Nat.lt_trans (Nat.lt_trans (Nat.lt_trans lt90 lt77) lt78) lt79) lt80) lt81) lt82) lt83) lt84) lt85) lt86)) (ninS (Nat.ne_of_lt (Nat.lt_trans (Nat.lt_trans (Nat.lt_trans (Nat.lt_trans (Nat.lt_trans (Nat.lt_trans (Nat.lt_trans (Nat.lt_trans (Nat.lt_trans (Nat.lt_trans (Nat.lt_trans lt90 lt77) lt78) lt79) lt80) lt81) lt82) lt83) lt84) lt85) lt86) lt87)) (ninS (Nat.ne_of_lt (Nat.lt_trans (Nat.lt_trans (Nat.lt_trans (Nat.lt_trans (Nat.lt_trans (Nat.lt_trans (Nat.lt_trans (Nat.lt_trans (Nat.lt_trans (Nat.lt_trans (Nat.lt_trans (Nat.lt_trans lt90 lt77) lt78) lt79) lt80) lt81) lt82) lt83) lt84) lt85) lt86) lt87) lt88)) nin0))))
    have F530 := F453.keep Kc516 (ninS (Nat.ne_of_lt (Nat.lt_trans (Nat.lt_trans (Nat.lt_trans lt90 lt77) lt78) lt79)) (ninS (Nat.ne_of_lt (Nat.lt_trans (Nat.lt_trans (Nat.lt_trans (Nat.lt_trans (Nat.lt_trans (Nat.lt_trans (Nat.lt_trans (Nat.lt_trans (Nat.lt_trans (Nat.lt_trans lt90 lt77) lt78) lt79) lt80) lt81) lt82) lt83) lt84) lt85) lt86)) (ninS (Nat.ne_of_lt (Nat.lt_trans (Nat.lt_trans (Nat.lt_trans (Nat.lt_trans (Nat.lt_trans (Nat.lt_trans (Nat.lt_trans (Nat.lt_trans (Nat.lt_trans (Nat.lt_trans (Nat.lt_trans lt90 lt77) lt78) lt79) lt80) lt81) lt82) lt83) lt84) lt85) lt86) lt87)) (ninS (Nat.ne_of_lt (Nat.lt_trans (Nat.lt_trans (Nat.lt_trans (Nat.lt_trans (Nat.lt_trans (Nat.lt_trans (Nat.lt_trans (Nat.lt_trans (Nat.lt_trans (Nat.lt_trans (Nat.lt_trans (Nat.lt_trans lt90 lt77) lt78) lt79) lt80) lt81) lt82) lt83) lt84) lt85) lt86) lt87) lt88)) nin0))))
    have F531 := F454.keep Kc516 (ninS (Nat.ne_of_lt (Nat.lt_trans (Nat.lt_trans (Nat.lt_trans lt90 lt77) lt78) lt79)) (ninS (Nat.ne_of_lt (Nat.lt_trans (Nat.lt_trans (Nat.lt_trans (Nat.lt_trans (Nat.lt_trans (Nat.lt_trans (Nat.lt_trans (Nat.lt_trans (Nat.lt_trans (Nat.lt_trans lt90 lt77) lt78) lt79) lt80) lt81) lt82) lt83) lt84) lt85) lt86)) (ninS (Nat.ne_of_lt (Nat.lt_trans (Nat.lt_trans (Nat.lt_trans (Nat.lt_trans (Nat.lt_trans (Nat.lt_trans (Nat.lt_trans (Nat.lt_trans (Nat.lt_trans (Nat.lt_trans (Nat.lt_trans lt90 lt77) lt78) lt79) lt80) lt81) lt82) lt83) lt84) lt85) lt86) lt87)) (ninS (Nat.ne_of_lt (Nat.lt_trans (Nat.lt_trans (Nat.lt_trans (Nat.lt_trans (Nat.lt_trans (Nat.lt_trans (Nat.lt_trans (Nat.lt_trans (Nat.lt_trans (Nat.lt_trans (Nat.lt_trans (Nat.lt_trans lt90 lt77) lt78) lt79) lt80) lt81) lt82) lt83) lt84) lt85) lt86) lt87) lt88)) nin0))))
    have F532 := F455.keep Kc516 (ninS (Nat.ne_of_lt (Nat.lt_trans (Nat.lt_trans (Nat.lt_trans lt90 lt77) lt78) lt79)) (ninS (Nat.ne_of_lt (Nat.lt_trans (Nat.lt_trans (Nat.lt_trans (Nat.lt_trans (Nat.lt_trans (Nat.lt_trans (Nat.lt_trans (Nat.lt_trans (Nat.lt_trans (Nat.lt_trans lt90 lt77) lt78) lt79) lt80) lt81) lt82) lt83) lt84) lt85) lt86)) (ninS (Nat.ne_of_lt (Nat.lt_trans (Nat.lt_trans (Nat.lt_trans (Nat.lt_trans (Nat.lt_trans (Nat.lt_trans (Nat.lt_trans (Nat.lt_trans (Nat.lt_trans (Nat.lt_trans (Nat.lt_trans lt90 lt77) lt78) lt79) lt80) lt81) lt82) lt83) lt84) lt85) lt86) lt87)) (ninS (Nat.ne_of_lt (Nat.lt_trans (Nat.lt_trans (Nat.lt_trans (Nat.lt_trans (Nat.lt_trans (Nat.lt_trans (Nat.lt_trans (Nat.lt_trans (Nat.lt_trans (Nat.lt_trans (Nat.lt_trans (Nat.lt_trans lt90 lt77) lt78) lt79) lt80) lt81) lt82) lt83) lt84) lt85) lt86) lt87) lt88)) nin0))))
    have F533 := F456.keep Kc516 (ninS (Nat.ne_of_lt (Nat.lt_trans (Nat.lt_trans (Nat.lt_trans lt90 lt77) lt78) lt79)) (ninS (Nat.ne_of_lt (Nat.lt_trans (Nat.lt_trans (Nat.lt_trans (Nat.lt_trans (Nat.lt_trans (Nat.lt_trans (Nat.lt_trans (Nat.lt_trans (Nat.lt_trans (Nat.lt_trans lt90 lt77) lt78) lt79) lt80) lt81) lt82) lt83) lt84) lt85) lt86)) (ninS (Nat.ne_of_lt (Nat.lt_trans (Nat.lt_trans (Nat.lt_trans (Nat.lt_trans (Nat.lt_trans (Nat.lt_trans (Nat.lt_trans (Nat.lt_trans (Nat.lt_trans (Nat.lt_trans (Nat.lt_trans lt90 lt77) lt78) lt79) lt80) lt81) lt82) lt83) lt84) lt85) lt86) lt87)) (ninS (Nat.ne_of_lt (Nat.lt_trans (Nat.lt_trans (Nat.lt_trans (Nat.lt_trans (Nat.lt_trans (Nat.lt_trans (Nat.lt_trans (Nat.lt_trans (Nat.lt_trans (Nat.lt_trans (Nat.lt_trans (Nat.lt_trans lt90 lt77) lt78) lt79) lt80) lt81) lt82) lt83) lt84) lt85) lt86) lt87) lt88)) nin0))))
    have F534 := F457.keep Kc516 (ninS (Nat.ne_of_lt (Nat.lt_trans (Nat.lt_trans (Nat.lt_trans lt90 lt77) lt78) lt79)) (ninS (Nat.ne_of_lt (Nat.lt_trans (Nat.lt_trans (Nat.lt_trans (Nat.lt_trans (Nat.lt_trans (Nat.lt_trans (Nat.lt_trans (Nat.lt_trans (Nat.lt_trans (Nat.lt_trans lt90 lt77) lt78) lt79) lt80) lt81) lt82) lt83) lt84) lt85) lt86)) (ninS (Nat.ne_of_lt (Nat.lt_trans (Nat.lt_trans (Nat.lt_trans (Nat.lt_trans (Nat.lt_trans (Nat.lt_trans (Nat.lt_trans (Nat.lt_trans (Nat.lt_trans (Nat.lt_trans (Nat.lt_trans lt90 lt77) lt78) lt79) lt80) lt81) lt82) lt83) lt84) lt85) lt86) lt87)) (ninS (Nat.ne_of_lt (Nat.lt_trans (Nat.lt_trans (Nat.lt_trans (Nat.lt_trans (Nat.lt_trans (Nat.lt_trans (Nat.lt_trans (Nat.lt_trans (Nat.lt_trans (Nat.lt_trans (Nat.lt_trans (Nat.lt_trans lt90 lt77) lt78) lt79) lt80) lt81) lt82) lt83) lt84) lt85) lt86) lt87) lt88)) nin0))))
    have F535 := F458.keep Kc516 (ninS (Nat.ne_of_lt (Nat.lt_trans (Nat.lt_trans (Nat.lt_trans lt90 lt77) lt78) lt79)) (ninS (Nat.ne_of_lt (Nat.lt_trans (Nat.lt_trans (Nat.lt_trans (Nat.lt_trans (Nat.lt_trans (Nat.lt_trans (Nat.lt_trans (Nat.lt_trans (Nat.lt_trans (Nat.lt_trans lt90 lt77) lt78) lt79) lt80) lt81) lt82) lt83) lt84) lt85) lt86)) (ninS (Nat.ne_of_lt (Nat.lt_trans (Nat.lt_trans (Nat.lt_trans (Nat.lt_trans (Nat.lt_trans (Nat.lt_trans (Nat.lt_trans (Nat.lt_trans (Nat.lt_trans (Nat.lt_trans (Nat.lt_trans lt90 lt77) lt78) lt79) lt80) lt81) lt82) lt83) lt84) lt85) lt86) lt87)) (ninS (Nat.ne_of_lt (Nat.lt_trans (Nat.lt_trans (Nat.lt_trans (Nat.lt_trans (Nat.lt_trans (Nat.lt_trans (Nat.lt_trans (Nat.lt_trans (Nat.lt_trans (Nat.lt_trans (Nat.lt_trans (Nat.lt_trans lt90 lt77) lt78) lt79) lt80) lt81) lt82) lt83) lt84) lt85) lt86) lt87) lt88)) nin0))))
    have F536 := F459.keep Kc516 (ninS (Nat.ne_of_lt (Nat.lt_trans (Nat.lt_trans (Nat.lt_trans lt90 lt77) lt78) lt79)) (ninS (Nat.ne_of_lt (Nat.lt_trans (Nat.lt_trans (Nat.lt_trans (Nat.lt_trans (Nat.lt_trans (Nat.lt_trans (Nat.lt_trans (Nat.lt_trans (Nat.lt_trans (Nat.lt_trans lt90 lt77) lt78) lt79) lt80) lt81) lt82) lt83) lt84) lt85) lt86)) (ninS (Nat.ne_of_lt (Nat.lt_trans (Nat.lt_trans (Nat.lt_trans (Nat.lt_trans (Nat.lt_trans (Nat.lt_trans (Nat.lt_trans (Nat.lt_trans (Nat.lt_trans (Nat.lt_trans (Nat.lt_trans lt90 lt77) lt78) lt79) lt80) lt81) lt82) lt83) lt84) lt85) lt86) lt87)) (ninS (Nat.ne_of_lt (Nat.lt_trans (Nat.lt_trans (Nat.lt_trans (Nat.lt_trans (Nat.lt_trans (Nat.lt_trans (Nat.lt_trans (Nat.lt_trans (Nat.lt_trans (Nat.lt_trans (Nat.lt_trans (Nat.lt_trans lt90 lt77) lt78) lt79) lt80) lt81) lt82) lt83) lt84) lt85) lt86) lt87) lt88)) nin0))))
    have F537 := F460.keep Kc516 (ninS (Nat.ne_of_lt (Nat.lt_trans (Nat.lt_trans (Nat.lt_trans lt90 lt77) lt78) lt79)) (ninS (Nat.ne_of_lt (Nat.lt_trans (Nat.lt_trans (Nat.lt_trans (Nat.lt_trans (Nat.lt_trans (Nat.lt_trans (Nat.lt_trans (Nat.lt_trans (Nat.lt_trans (Nat.lt_trans lt90 lt77) lt78) lt79) lt80) lt81) lt82) lt83) lt84) lt85) lt86)) (ninS (Nat.ne_of_lt (Nat.lt_trans (Nat.lt_trans (Nat.lt_trans (Nat.lt_trans (Nat.lt_trans (Nat.lt_trans (Nat.lt_trans (Nat.lt_trans (Nat.lt_trans (Nat.lt_trans (Nat.lt_trans lt90 lt77) lt78) lt79) lt80) lt81) lt82) lt83) lt84) lt85) lt86) lt87)) (ninS (Nat.ne_of_lt (Nat.lt_trans (Nat.lt_trans (Nat.lt_trans (Nat.lt_trans (Nat.lt_trans (Nat.lt_trans (Nat.lt_trans (Nat.lt_trans (Nat.lt_trans (Nat.lt_trans (Nat.lt_trans (Nat.lt_trans lt90 lt77) lt78) lt79) lt80) lt81) lt82) lt83) lt84) lt85) lt86) lt87) lt88)) nin0))))
    have F538 := F461.keep Kc516 (ninS (Nat.ne_of_lt (Nat.lt_trans (Nat.lt_trans lt77 lt78) lt79)) (ninS (Nat.ne_of_lt (Nat.lt_trans (Nat.lt_trans (Nat.lt_trans (Nat.lt_trans (Nat.lt_trans (Nat.lt_trans (Nat.lt_trans (Nat.lt_trans (Nat.lt_trans lt77 lt78) lt79) lt80) lt81) lt82) lt83) lt84) lt85) lt86)) (ninS (Nat.ne_of_lt (Nat.lt_trans (Nat.lt_trans (Nat.lt_trans (Nat.lt_trans (Nat.lt_trans (Nat.lt_trans (Nat.lt_trans (Nat.lt_trans (Nat.lt_trans (Nat.lt_trans lt77 lt78) lt79) lt80) lt81) lt82) lt83) lt84) lt85) lt86) lt87)) (ninS (Nat.ne_of_lt (Nat.lt_trans (Nat.lt_trans (Nat.lt_trans (Nat.lt_trans (Nat.lt_trans (Nat.lt_trans (Nat.lt_trans (Nat.lt_trans (Nat.lt_trans (Nat.lt_trans (Nat.lt_trans lt77 lt78) lt79) lt80) lt81) lt82) lt83) lt84) lt85) lt86) lt87) lt88)) nin0))))
    have F539 := F462.keep Kc516 (ninS (Nat.ne_of_lt (Nat.lt_trans lt78 lt79)) (ninS (Nat.ne_of_lt (Nat.lt_trans (Nat.lt_trans (Nat.lt_trans (Nat.lt_trans (Nat.lt_trans (Nat.lt_trans (Nat.lt_trans (Nat.lt_trans lt78 lt79) lt80) lt81) lt82) lt83) lt84) lt85) lt86)) (ninS (Nat.ne_of_lt (Nat.lt_trans (Nat.lt_trans (Nat.lt_trans (Nat.lt_trans (Nat.lt_trans (Nat.lt_trans (Nat.lt_trans (Nat.lt_trans (Nat.lt_trans lt78 lt79) lt80) lt81) lt82) lt83) lt84) lt85) lt86) lt87)) (ninS (Nat.ne_of_lt (Nat.lt_trans (Nat.lt_trans (Nat.lt_trans (Nat.lt_trans (Nat.lt_trans (Nat.lt_trans (Nat.lt_trans (Nat.lt_trans (Nat.lt_trans (Nat.lt_trans lt78 lt79) lt80) lt81) lt82) lt83) lt84) lt85) lt86) lt87) lt88)) nin0))))
    have F540 := F463.keep Kc516 (ninS (Nat.ne_of_lt lt79) (ninS (Nat.ne_of_lt (Nat.lt_trans (Nat.lt_trans (Nat.lt_trans (Nat.lt_trans (Nat.lt_trans (Nat.lt_trans (Nat.lt_trans lt79 lt80) lt81) lt82) lt83) lt84) lt85) lt86)) (ninS (Nat.ne_of_lt (Nat.lt_trans (Nat.lt_trans (Nat.lt_trans (Nat.lt_trans (Nat.lt_trans (Nat.lt_trans (Nat.lt_trans (Nat.lt_trans lt79 lt80) lt81) lt82) lt83) lt84) lt85) lt86) lt87)) (ninS (Nat.ne_of_lt (Nat.lt_trans (Nat.lt_trans (Nat.lt_trans (Nat.lt_trans (Nat.lt_trans (Nat.lt_trans (Nat.lt_trans (Nat.lt_trans (Nat.lt_trans lt79 lt80) lt81) lt82) lt83) lt84) lt85) lt86) lt87) lt88)) nin0))))
    have F541 := F464.keep Kc516 (ninS (Nat.ne_of_gt lt80) (ninS (Nat.ne_of_lt (Nat.lt_trans (Nat.lt_trans (Nat.lt_trans (Nat.lt_trans (Nat.lt_trans lt81 lt82) lt83) lt84) lt85) lt86)) (ninS (Nat.ne_of_lt (Nat.lt_trans (Nat.lt_trans (Nat.lt_trans (Nat.lt_trans (Nat.lt_trans (Nat.lt_trans lt81 lt82) lt83) lt84) lt85) lt86) lt87)) (ninS (Nat.ne_of_lt (Nat.lt_trans (Nat.lt_trans (Nat.lt_trans (Nat.lt_trans (Nat.lt_trans (Nat.lt_trans (Nat.lt_trans lt81 lt82) lt83) lt84) lt85) lt86) lt87) lt88)) nin0))))
    have F542 := F465.keep Kc516 (ninS (Nat.ne_of_gt (Nat.lt_trans lt80 lt81)) (ninS (Nat.ne_of_lt (Nat.lt_trans (Nat.lt_trans (Nat.lt_trans (Nat.lt_trans lt82 lt83) lt84) lt85) lt86)) (ninS (Nat.ne_of_lt (Nat.lt_trans (Nat.lt_trans (Nat.lt_trans (Nat.lt_trans (Nat.lt_trans lt82 lt83) lt84) lt85) lt86) lt87)) (ninS (Nat.ne_of_lt (Nat.lt_trans (Nat.lt_trans (Nat.lt_trans (Nat.lt_trans (Nat.lt_trans (Nat.lt_trans lt82 lt83) lt84) lt85) lt86) lt87) lt88)) nin0))))
    have F543 := F466.keep Kc516 (ninS (Nat.ne_of_gt (Nat.lt_trans (Nat.lt_trans (Nat.lt_trans lt80 lt81) lt82) lt83)) (ninS (Nat.ne_of_lt (Nat.lt_trans (Nat.lt_trans lt84 lt85) lt86)) (ninS (Nat.ne_of_lt (Nat.lt_trans (Nat.lt_trans (Nat.lt_trans lt84 lt85) lt86) lt87)) (ninS (Nat.ne_of_lt (Nat.lt_trans (Nat.lt_trans (Nat.lt_trans (Nat.lt_trans lt84 lt85) lt86) lt87) lt88)) nin0))))
    have F544 := F467.keep Kc516 (ninS (Nat.ne_of_gt (Nat.lt_trans (Nat.lt_trans (Nat.lt_trans (Nat.lt_trans (Nat.lt_trans lt80 lt81) lt82) lt83) lt84) lt85)) (ninS (Nat.ne_of_lt lt86) (ninS (Nat.ne_of_lt (Nat.lt_trans lt86 lt87)) (ninS (Nat.ne_of_lt (Nat.lt_trans (Nat.lt_trans lt86 lt87) lt88)) nin0))))
    have F545 := F468.keep Kc516 (ninS (Nat.ne_of_gt (Nat.lt_trans (Nat.lt_trans (Nat.lt_trans (Nat.lt_trans lt80 lt81) lt82) lt83) lt84)) (ninS (Nat.ne_of_lt (Nat.lt_trans lt85 lt86)) (ninS (Nat.ne_of_lt (Nat.lt_trans (Nat.lt_trans lt85 lt86) lt87)) (ninS (Nat.ne_of_lt (Nat.lt_trans (Nat.lt_trans (Nat.lt_trans lt85 lt86) lt87) lt88)) nin0))))
    have Zs546 := Nat.le_trans Zs469 Kc516.1
    have N547 := Fr.app N470 Nq515
    show Goes _ _ _ _ _ _ 108 _ []
    refine g_aload 110 rfl C X513 at_108 rfl rfl ?_
    refine g_iload 112 rfl C X513 at_110 rfl ?_
    refine g_callV 115 rfl C X513 (argsL := [(.int (1 : Int32))]) (hw _ (List.mem_of_getElem? (i := 59) rfl)) (hw _ (List.mem_of_getElem? (i := 60) rfl)) (hw _ (List.mem_of_getElem? (i := 62) rfl)) (hw _ (List.mem_of_getElem? (i := 61) rfl)) (hw _ (List.mem_of_getElem? (i := 63) rfl)) (hw _ (List.mem_of_getElem? (i := 2) rfl)) rfl F521 (rm7 l Z a0 hw [] o3 (1 : Int32) y35 (upd (upd (upd (upd (fun _ => 0) 0 (-1 : Int32)) 1 (-1 : Int32)) 1 v424) 1 v425) 1 v425 (T511.heap) n0 Zs546 F521 F526 F517 (Nat.lt_trans (Nat.lt_trans (Nat.lt_trans lt90 lt77) lt78) lt79) gn10 rfl (by decide) (upd_same rfl)) (lenOf pd_52681284 rfl) (by decide) (by decide) (by decide) (by decide) rfl (W := 0) (Nat.le_of_eq rfl) (by decide) at_112 rfl fun r548 T549 Lc550 X551 hQ552 => ?_
    obtain ⟨rfl, Nq553, eh554⟩ := hQ552
    have N555 := Fr.app N547 Nq553
    show Goes _ _ _ _ _ _ 115 _ [(.int v425)]
    refine g_iload 117 rfl C X551 at_115 rfl ?_
    refine g_icmp_ne_f 120 rfl C X551 at_117 rfl ?_
    refine g_aload 122 rfl C X551 at_120 rfl rfl ?_
    refine g_iload 124 rfl C X551 at_122 rfl ?_
    refine g_callV 127 rfl C X551 (argsL := [(.int v425)]) (hw _ (List.mem_of_getElem? (i := 64) rfl)) (hw _ (List.mem_of_getElem? (i := 65) rfl)) (hw _ (List.mem_of_getElem? (i := 67) rfl)) (hw _ (List.mem_of_getElem? (i := 66) rfl)) (hw _ (List.mem_of_getElem? (i := 68) rfl)) (hw _ (List.mem_of_getElem? (i := 2) rfl)) eh554 F521 (rm8 l Z a0 hw [] o3 v425 y43 (upd (upd (fun _ => 0) n426 (-1 : Int32)) n471 v424) n471 v424 (T511.heap) n0 Zs546 F521 F534 F519 (Nat.lt_trans (Nat.lt_trans (Nat.lt_trans (Nat.lt_trans (Nat.lt_trans (Nat.lt_trans (Nat.lt_trans (Nat.lt_trans (Nat.lt_trans (Nat.lt_trans (Nat.lt_trans lt90 lt77) lt78) lt79) lt80) lt81) lt82) lt83) lt84) lt85) lt86) lt87) gn10 hn471 (by omega) (upd_same rfl)) (lenOf pd_52681284 rfl) (by decide) (by decide) (by decide) (by decide) rfl (W := 0) (Nat.le_of_eq rfl) (by decide) at_124 rfl fun r556 T557 Lc558 X559 hQ560 => ?_
    obtain ⟨rfl, Nq561, eh562⟩ := hQ560
    have N563 := Fr.app N555 Nq561
    show Goes _ _ _ _ _ _ 127 _ [(.int v424)]
    refine g_iload 129 rfl C X559 at_127 rfl ?_
    refine g_icmp_ne_f 132 rfl C X559 at_129 rfl ?_
    refine g_aload 134 rfl C X559 at_132 rfl rfl ?_
    refine g_iload 136 rfl C X559 at_134 rfl ?_
    refine g_callV 139 rfl C X559 (argsL := [(.int v424)]) (hw _ (List.mem_of_getElem? (i := 64) rfl)) (hw _ (List.mem_of_getElem? (i := 65) rfl)) (hw _ (List.mem_of_getElem? (i := 67) rfl)) (hw _ (List.mem_of_getElem? (i := 66) rfl)) (hw _ (List.mem_of_getElem? (i := 68) rfl)) (hw _ (List.mem_of_getElem? (i := 2) rfl)) eh562 F521 (rm8 l Z a0 hw [] o3 v424 y43 (upd (upd (fun _ => 0) n426 (-1 : Int32)) n471 v424) n426 (-1 : Int32) (T511.heap) n0 Zs546 F521 F534 F519 (Nat.lt_trans (Nat.lt_trans (Nat.lt_trans (Nat.lt_trans (Nat.lt_trans (Nat.lt_trans (Nat.lt_trans (Nat.lt_trans (Nat.lt_trans (Nat.lt_trans (Nat.lt_trans lt90 lt77) lt78) lt79) lt80) lt81) lt82) lt83) lt84) lt85) lt86) lt87) gn10 hn426 (by omega) ((upd_ne hq491).trans (upd_same rfl))) (lenOf pd_52681284 rfl) (by decide) (by decide) (by decide) (by decide) rfl (W := 0) (Nat.le_of_eq rfl) (by decide) at_136 rfl fun r564 T565 Lc566 X567 hQ568 => ?_
    obtain ⟨rfl, Nq569, eh570⟩ := hQ568
    have N571 := Fr.app N563 Nq569
    show Goes _ _ _ _ _ _ 139 _ [(.int (-1 : Int32))]
    refine g_iconst 140 rfl C X567 (-1 : Int32) at_139 rfl ?_
    refine g_icmp_ne_f 143 rfl C X567 at_140 (by decide) ?_
    refine g_aload 145 rfl C X567 at_143 rfl rfl ?_
    refine g_iload 147 rfl C X567 at_145 rfl ?_
    refine g_callV 150 rfl C X567 (argsL := [(.int v424)]) (hw _ (List.mem_of_getElem? (i := 69) rfl)) (hw _ (List.mem_of_getElem? (i := 70) rfl)) (hw _ (List.mem_of_getElem? (i := 72) rfl)) (hw _ (List.mem_of_getElem? (i := 71) rfl)) (hw _ (List.mem_of_getElem? (i := 73) rfl)) (hw _ (List.mem_of_getElem? (i := 2) rfl)) eh570 F521 (rm9 l Z a0 hw [] o3 v424 y42 (upd (upd (fun _ => (-1 : Int32)) n426 (1 : Int32)) n471 (1 : Int32)) n426 (1 : Int32) (T511.heap) n0 Zs546 F521 F533 F518 (Nat.lt_trans (Nat.lt_trans (Nat.lt_trans (Nat.lt_trans (Nat.lt_trans (Nat.lt_trans (Nat.lt_trans (Nat.lt_trans (Nat.lt_trans (Nat.lt_trans lt90 lt77) lt78) lt79) lt80) lt81) lt82) lt83) lt84) lt85) lt86) gn10 hn426 (by omega) ((upd_ne hq491).trans (upd_same rfl))) (lenOf pd_52681284 rfl) (by decide) (by decide) (by decide) (by decide) rfl (W := 0) (Nat.le_of_eq rfl) (by decide) at_147 rfl fun r572 T573 Lc574 X575 hQ576 => ?_
    obtain ⟨rfl, Nq577, eh578⟩ := hQ576
    have N579 := Fr.app N571 Nq577
    show Goes _ _ _ _ _ _ 150 _ [(.int (1 : Int32))]
    refine g_iload 152 rfl C X575 at_150 rfl ?_
    refine g_icmp_ne_f 155 rfl C X575 at_152 (by decide) ?_
    refine g_aload 157 rfl C X575 at_155 rfl rfl ?_
    refine g_iload 159 rfl C X575 at_157 rfl ?_
    refine g_callV 162 rfl C X575 (argsL := [(.int v425)]) (hw _ (List.mem_of_getElem? (i := 69) rfl)) (hw _ (List.mem_of_getElem? (i := 70) rfl)) (hw _ (List.mem_of_getElem? (i := 72) rfl)) (hw _ (List.mem_of_getElem? (i := 71) rfl)) (hw _ (List.mem_of_getElem? (i := 73) rfl)) (hw _ (List.mem_of_getElem? (i := 2) rfl)) eh578 F521 (rm9 l Z a0 hw [] o3 v425 y42 (upd (upd (fun _ => (-1 : Int32)) n426 (1 : Int32)) n471 (1 : Int32)) n471 (1 : Int32) (T511.heap) n0 Zs546 F521 F533 F518 (Nat.lt_trans (Nat.lt_trans (Nat.lt_trans (Nat.lt_trans (Nat.lt_trans (Nat.lt_trans (Nat.lt_trans (Nat.lt_trans (Nat.lt_trans (Nat.lt_trans lt90 lt77) lt78) lt79) lt80) lt81) lt82) lt83) lt84) lt85) lt86) gn10 hn471 (by omega) (upd_same rfl)) (lenOf pd_52681284 rfl) (by decide) (by decide) (by decide) (by decide) rfl (W := 0) (Nat.le_of_eq rfl) (by decide) at_159 rfl fun r580 T581 Lc582 X583 hQ584 => ?_
    obtain ⟨rfl, Nq585, eh586⟩ := hQ584
    have N587 := Fr.app N579 Nq585
    show Goes _ _ _ _ _ _ 162 _ [(.int (1 : Int32))]
    refine g_iload 164 rfl C X583 at_162 rfl ?_
    refine g_icmp_ne_f 167 rfl C X583 at_164 (by decide) ?_
    refine g_iconst 168 rfl C X583 (1 : Int32) at_167 rfl ?_
    refine g_goto 172 C X583 at_168 (by decide) (by decide) ?_
    refine g_istore 174 rfl C X583 (1 : Int32) rfl #[.val (.int p0), .val (.int p1), .val (.int p2), .val (.int p3), .val (.ref o3), .val (.int (0 : Int32)), .val (.int (1 : Int32)), .val (.int (1 : Int32)), .val (.int (0 : Int32)), .val (.int v424), .val (.int v425), .val (.int (1 : Int32))] at_172 rfl ?_
    refine g_iload 176 rfl C X583 at_174 rfl ?_
    refine g_if_eq_f 179 rfl C X583 at_176 (by decide) ?_
    refine g_iload 181 rfl C X583 at_179 rfl ?_
    refine g_if_eq_f 184 rfl C X583 at_181 (by decide) ?_
    refine g_aload 186 rfl C X583 at_184 rfl rfl ?_
    refine g_iload 188 rfl C X583 at_186 rfl ?_
    refine g_callV 191 rfl C X583 (argsL := [(.int (0 : Int32))]) (hw _ (List.mem_of_getElem? (i := 59) rfl)) (hw _ (List.mem_of_getElem? (i := 60) rfl)) (hw _ (List.mem_of_getElem? (i := 62) rfl)) (hw _ (List.mem_of_getElem? (i := 61) rfl)) (hw _ (List.mem_of_getElem? (i := 63) rfl)) (hw _ (List.mem_of_getElem? (i := 2) rfl)) eh586 F521 (rm7 l Z a0 hw [] o3 (0 : Int32) y35 (upd (upd (upd (upd (fun _ => 0) 0 (-1 : Int32)) 1 (-1 : Int32)) 1 v424) 1 v425) 0 (-1 : Int32) (T511.heap) n0 Zs546 F521 F526 F517 (Nat.lt_trans (Nat.lt_trans (Nat.lt_trans lt90 lt77) lt78) lt79) gn10 rfl (by decide) ((upd_ne (by decide)).trans ((upd_ne (by decide)).trans ((upd_ne (by decide)).trans (upd_same rfl))))) (lenOf pd_52681284 rfl) (by decide) (by decide) (by decide) (by decide) rfl (W := 0) (Nat.le_of_eq rfl) (by decide) at_188 rfl fun r588 T589 Lc590 X591 hQ592 => ?_
    obtain ⟨rfl, Nq593, eh594⟩ := hQ592
    have N595 := Fr.app N587 Nq593
    show Goes _ _ _ _ _ _ 191 _ [(.int (-1 : Int32))]
    refine g_iconst 192 rfl C X591 (-1 : Int32) at_191 rfl ?_
    refine g_icmp_ne_f 195 rfl C X591 at_192 (by decide) ?_
    refine g_iconst 196 rfl C X591 (1 : Int32) at_195 rfl ?_
    refine g_goto 200 C X591 at_196 (by decide) (by decide) ?_
    refine g_istore 202 rfl C X591 (1 : Int32) rfl #[.val (.int p0), .val (.int p1), .val (.int p2), .val (.int p3), .val (.ref o3), .val (.int (0 : Int32)), .val (.int (1 : Int32)), .val (.int (1 : Int32)), .val (.int (0 : Int32)), .val (.int v424), .val (.int v425), .val (.int (1 : Int32))] at_200 rfl ?_
    refine g_aload 204 rfl C X591 at_202 rfl rfl ?_
    refine g_iload 206 rfl C X591 at_204 rfl ?_
    refine g_callV 209 rfl C X591 (argsL := [(.int v424)]) (hw _ (List.mem_of_getElem? (i := 74) rfl)) (hw _ (List.mem_of_getElem? (i := 75) rfl)) (hw _ (List.mem_of_getElem? (i := 77) rfl)) (hw _ (List.mem_of_getElem? (i := 76) rfl)) (hw _ (List.mem_of_getElem? (i := 78) rfl)) (hw _ (List.mem_of_getElem? (i := 2) rfl)) eh594 F521 (rm10_1 l Z a0 hw [] o3 v424 y35 (upd (upd (upd (upd (fun _ => 0) 0 (-1 : Int32)) 1 (-1 : Int32)) 1 v424) 1 v425) y42 (upd (upd (fun _ => (-1 : Int32)) n426 (1 : Int32)) n471 (1 : Int32)) y43 (upd (upd (fun _ => 0) n426 (-1 : Int32)) n471 v424) y44 (upd (upd (upd (fun _ => 0) n426 (-1 : Int32)) n471 (-1 : Int32)) n426 v425) n426 v425 n471 (T511.heap) n0 Zs546 F521 F526 F517 F533 F518 F534 F519 F535 F520 (Nat.lt_trans (Nat.lt_trans (Nat.lt_trans lt90 lt77) lt78) lt79) (Nat.lt_trans (Nat.lt_trans (Nat.lt_trans (Nat.lt_trans (Nat.lt_trans (Nat.lt_trans lt80 lt81) lt82) lt83) lt84) lt85) lt86) lt87 lt88 gn10 hn426 (by omega) ((upd_ne hq491).trans (upd_same rfl)) (upd_same rfl) ((upd_ne hq491).trans (upd_same rfl)) (upd_same rfl) hn471 (by omega)) (lenOf pd_52681297 rfl) (by decide) (by decide) (by decide) (by decide) rfl (W := 0) (Nat.le_of_eq rfl) (by decide) at_206 rfl fun r596 T597 Lc598 X599 hQ600 => ?_
    obtain ⟨rfl, Nq601, Kc602, B603, f604, B605⟩ := hQ600
    have F606 := F521.keep Kc602
    have F607 := F522.keep Kc602 (ninS (Nat.ne_of_lt (Nat.lt_trans (Nat.lt_trans (Nat.lt_trans lt83 lt84) lt85) lt86)) (ninS (Nat.ne_of_lt (Nat.lt_trans (Nat.lt_trans (Nat.lt_trans (Nat.lt_trans lt83 lt84) lt85) lt86) lt87)) nin0))
    have F608 := F523.keep Kc602 (ninS (Nat.ne_of_lt (Nat.lt_trans (Nat.lt_trans (Nat.lt_trans (Nat.lt_trans (Nat.lt_trans (Nat.lt_trans (Nat.lt_trans (Nat.lt_trans (Nat.lt_trans (Nat.lt_trans lt90 lt77) lt78) lt79) lt80) lt81) lt82) lt83) lt84) lt85) lt86)) (ninS (Nat.ne_of_lt (Nat.lt_trans (Nat.lt_trans (Nat.lt_trans (Nat.lt_trans (Nat.lt_trans (Nat.lt_trans (Nat.lt_trans (Nat.lt_trans (Nat.lt_trans (Nat.lt_trans (Nat.lt_trans lt90 lt77) lt78) lt79) lt80) lt81) lt82) lt83) lt84) lt85) lt86) lt87)) nin0))
    have F609 := F524.keep Kc602 (ninS (Nat.ne_of_lt (Nat.lt_trans (Nat.lt_trans (Nat.lt_trans (Nat.lt_trans (Nat.lt_trans (Nat.lt_trans (Nat.lt_trans (Nat.lt_trans (Nat.lt_trans (Nat.lt_trans lt90 lt77) lt78) lt79) lt80) lt81) lt82) lt83) lt84) lt85) lt86)) (ninS (Nat.ne_of_lt (Nat.lt_trans (Nat.lt_trans (Nat.lt_trans (Nat.lt_trans (Nat.lt_trans (Nat.lt_trans (Nat.lt_trans (Nat.lt_trans (Nat.lt_trans (Nat.lt_trans (Nat.lt_trans lt90 lt77) lt78) lt79) lt80) lt81) lt82) lt83) lt84) lt85) lt86) lt87)) nin0))
    have F610 := F525.keep Kc602 (ninS (Nat.ne_of_lt (Nat.lt_trans (Nat.lt_trans (Nat.lt_trans (Nat.lt_trans (Nat.lt_trans (Nat.lt_trans (Nat.lt_trans (Nat.lt_trans (Nat.lt_trans (Nat.lt_trans lt90 lt77) lt78) lt79) lt80) lt81) lt82) lt83) lt84) lt85) lt86)) (ninS (Nat.ne_of_lt (Nat.lt_trans (Nat.lt_trans (Nat.lt_trans (Nat.lt_trans (Nat.lt_trans (Nat.lt_trans (Nat.lt_trans (Nat.lt_trans (Nat.lt_trans (Nat.lt_trans (Nat.lt_trans lt90 lt77) lt78) lt79) lt80) lt81) lt82) lt83) lt84) lt85) lt86) lt87)) nin0))
    have F611 := F526.keep Kc602 (ninS (Nat.ne_of_lt (Nat.lt_trans (Nat.lt_trans (Nat.lt_trans (Nat.lt_trans (Nat.lt_trans (Nat.lt_trans (Nat.lt_trans (Nat.lt_trans (Nat.lt_trans (Nat.lt_trans lt90 lt77) lt78) lt79) lt80) lt81) lt82) lt83) lt84) lt85) lt86)) (ninS (Nat.ne_of_lt (Nat.lt_trans (Nat.lt_trans (Nat.lt_trans (Nat.lt_trans (Nat.lt_trans (Nat.lt_trans (Nat.lt_trans (Nat.lt_trans (Nat.lt_trans (Nat.lt_trans (Nat.lt_trans lt90 lt77) lt78) lt79) lt80) lt81) lt82) lt83) lt84) lt85) lt86) lt87)) nin0))
    have F612 := F527.keep Kc602 (ninS (Nat.ne_of_lt (Nat.lt_trans (Nat.lt_trans (Nat.lt_trans (Nat.lt_trans (Nat.lt_trans (Nat.lt_trans (Nat.lt_trans (Nat.lt_trans (Nat.lt_trans (Nat.lt_trans lt90 lt77) lt78) lt79) lt80) lt81) lt82) lt83) lt84) lt85) lt86)) (ninS (Nat.ne_of_lt (Nat.lt_trans (Nat.lt_trans (Nat.lt_trans (Nat.lt_trans (Nat.lt_trans (Nat.lt_trans (Nat.lt_trans (Nat.lt_trans (Nat.lt_trans (Nat.lt_trans (Nat.lt_trans lt90 lt77) lt78) lt79) lt80) lt81) lt82) lt83) lt84) lt85) lt86) lt87)) nin0))
    have F613 := F528.keep Kc602 (ninS (Nat.ne_of_lt (Nat.lt_trans (Nat.lt_trans (Nat.lt_trans (Nat.lt_trans (Nat.lt_trans (Nat.lt_trans (Nat.lt_trans (Nat.lt_trans (Nat.lt_trans (Nat.lt_trans lt90 lt77) lt78) lt79) lt80) lt81) lt82) lt83) lt84) lt85) lt86)) (ninS (Nat.ne_of_lt (Nat.lt_trans (Nat.lt_trans (Nat.lt_trans (Nat.lt_trans (Nat.lt_trans (Nat.lt_trans (Nat.lt_trans (Nat.lt_trans (Nat.lt_trans (Nat.lt_trans (Nat.lt_trans lt90 lt77) lt78) lt79) lt80) lt81) lt82) lt83) lt84) lt85) lt86) lt87)) nin0))
    have F614 := F529.keep Kc602 (ninS (Nat.ne_of_lt (Nat.lt_trans (Nat.lt_trans (Nat.lt_trans (Nat.lt_trans (Nat.lt_trans (Nat.lt_trans (Nat.lt_trans (Nat.lt_trans (Nat.lt_trans (Nat.lt_trans lt90 lt77) lt78) lt79) lt80) lt81) lt82) lt83) lt84) lt85) lt86)) (ninS (Nat.ne_of_lt (Nat.lt_trans (Nat.lt_trans (Nat.lt_trans (Nat.lt_trans (Nat.lt_trans (Nat.lt_trans (Nat.lt_trans (Nat.lt_trans (Nat.lt_trans (Nat.lt_trans (Nat.lt_trans lt90 lt77) lt78) lt79) lt80) lt81) lt82) lt83) lt84) lt85) lt86) lt87)) nin0))
    have F615 := F530.keep Kc602 (ninS (Nat.ne_of_lt (Nat.lt_trans (Nat.lt_trans (Nat.lt_trans (Nat.lt_trans (Nat.lt_trans (Nat.lt_trans (Nat.lt_trans (Nat.lt_trans (Nat.lt_trans (Nat.lt_trans lt90 lt77) lt78) lt79) lt80) lt81) lt82) lt83) lt84) lt85) lt86)) (ninS (Nat.ne_of_lt (Nat.lt_trans (Nat.lt_trans (Nat.lt_trans (Nat.lt_trans (Nat.lt_trans (Nat.lt_trans (Nat.lt_trans (Nat.lt_trans (Nat.lt_trans (Nat.lt_trans (Nat.lt_trans lt90 lt77) lt78) lt79) lt80) lt81) lt82) lt83) lt84) lt85) lt86) lt87)) nin0))
    have F616 := F531.keep Kc602 (ninS (Nat.ne_of_lt (Nat.lt_trans (Nat.lt_trans (Nat.lt_trans (Nat.lt_trans (Nat.lt_trans (Nat.lt_trans (Nat.lt_trans (Nat.lt_trans (Nat.lt_trans (Nat.lt_trans lt90 lt77) lt78) lt79) lt80) lt81) lt82) lt83) lt84) lt85) lt86)) (ninS (Nat.ne_of_lt (Nat.lt_trans (Nat.lt_trans (Nat.lt_trans (Nat.lt_trans (Nat.lt_trans (Nat.lt_trans (Nat.lt_trans (Nat.lt_trans (Nat.lt_trans (Nat.lt_trans (Nat.lt_trans lt90 lt77) lt78) lt79) lt80) lt81) lt82) lt83) lt84) lt85) lt86) lt87)) nin0))
    have F617 := F532.keep Kc602 (ninS (Nat.ne_of_lt (Nat.lt_trans (Nat.lt_trans (Nat.lt_trans (Nat.lt_trans (Nat.lt_trans (Nat.lt_trans (Nat.lt_trans (Nat.lt_trans (Nat.lt_trans (Nat.lt_trans lt90 lt77) lt78) lt79) lt80) lt81) lt82) lt83) lt84) lt85) lt86)) (ninS (Nat.ne_of_lt (Nat.lt_trans (Nat.lt_trans (Nat.lt_trans (Nat.lt_trans (Nat.lt_trans (Nat.lt_trans (Nat.lt_trans (Nat.lt_trans (Nat.lt_trans (Nat.lt_trans (Nat.lt_trans lt90 lt77) lt78) lt79) lt80) lt81) lt82) lt83) lt84) lt85) lt86) lt87)) nin0))
    have F618 := F533.keep Kc602 (ninS (Nat.ne_of_lt (Nat.lt_trans (Nat.lt_trans (Nat.lt_trans (Nat.lt_trans (Nat.lt_trans (Nat.lt_trans (Nat.lt_trans (Nat.lt_trans (Nat.lt_trans (Nat.lt_trans lt90 lt77) lt78) lt79) lt80) lt81) lt82) lt83) lt84) lt85) lt86)) (ninS (Nat.ne_of_lt (Nat.lt_trans (Nat.lt_trans (Nat.lt_trans (Nat.lt_trans (Nat.lt_trans (Nat.lt_trans (Nat.lt_trans (Nat.lt_trans (Nat.lt_trans (Nat.lt_trans (Nat.lt_trans lt90 lt77) lt78) lt79) lt80) lt81) lt82) lt83) lt84) lt85) lt86) lt87)) nin0))
    have F619 := F534.keep Kc602 (ninS (Nat.ne_of_lt (Nat.lt_trans (Nat.lt_trans (Nat.lt_trans (Nat.lt_trans (Nat.lt_trans (Nat.lt_trans (Nat.lt_trans (Nat.lt_trans (Nat.lt_trans (Nat.lt_trans lt90 lt77) lt78) lt79) lt80) lt81) lt82) lt83) lt84) lt85) lt86)) (ninS (Nat.ne_of_lt (Nat.lt_trans (Nat.lt_trans (Nat.lt_trans (Nat.lt_trans (Nat.lt_trans (Nat.lt_trans (Nat.lt_trans (Nat.lt_trans (Nat.lt_trans (Nat.lt_trans (Nat.lt_trans lt90 lt77) lt78) lt79) lt80) lt81) lt82) lt83) lt84) lt85) lt86) lt87)) nin0))
    have F620 := F535.keep Kc602 (ninS (Nat.ne_of_lt (Nat.lt_trans (Nat.lt_trans (Nat.lt_trans (Nat.lt_trans (Nat.lt_trans (Nat.lt_trans (Nat.lt_trans (Nat.lt_trans (Nat.lt_trans (Nat.lt_trans lt90 lt77) lt78) lt79) lt80) lt81) lt82) lt83) lt84) lt85) lt86)) (ninS (Nat.ne_of_lt (Nat.lt_trans (Nat.lt_trans (Nat.lt_trans (Nat.lt_trans (Nat.lt_trans (Nat.lt_trans (Nat.lt_trans (Nat.lt_trans (Nat.lt_trans (Nat.lt_trans (Nat.lt_trans lt90 lt77) lt78) lt79) lt80) lt81) lt82) lt83) lt84) lt85) lt86) lt87)) nin0))
    have F621 := F536.keep Kc602 (ninS (Nat.ne_of_lt (Nat.lt_trans (Nat.lt_trans (Nat.lt_trans (Nat.lt_trans (Nat.lt_trans (Nat.lt_trans (Nat.lt_trans (Nat.lt_trans (Nat.lt_trans (Nat.lt_trans lt90 lt77) lt78) lt79) lt80) lt81) lt82) lt83) lt84) lt85) lt86)) (ninS (Nat.ne_of_lt (Nat.lt_trans (Nat.lt_trans (Nat.lt_trans (Nat.lt_trans (Nat.lt_trans (Nat.lt_trans (Nat.lt_trans (Nat.lt_trans (Nat.lt_trans (Nat.lt_trans (Nat.lt_trans lt90 lt77) lt78) lt79) lt80) lt81) lt82) lt83) lt84) lt85) lt86) lt87)) nin0))
    have F622 := F537.keep Kc602 (ninS (Nat.ne_of_lt (Nat.lt_trans (Nat.lt_trans (Nat.lt_trans (Nat.lt_trans (Nat.lt_trans (Nat.lt_trans (Nat.lt_trans (Nat.lt_trans (Nat.lt_trans (Nat.lt_trans lt90 lt77) lt78) lt79) lt80) lt81) lt82) lt83) lt84) lt85) lt86)) (ninS (Nat.ne_of_lt (Nat.lt_trans (Nat.lt_trans (Nat.lt_trans (Nat.lt_trans (Nat.lt_trans (Nat.lt_trans (Nat.lt_trans (Nat.lt_trans (Nat.lt_trans (Nat.lt_trans (Nat.lt_trans lt90 lt77) lt78) lt79) lt80) lt81) lt82) lt83) lt84) lt85) lt86) lt87)) nin0))
    have F623 := F538.keep Kc602 (ninS (Nat.ne_of_lt (Nat.lt_trans (Nat.lt_trans (Nat.lt_trans (Nat.lt_trans (Nat.lt_trans (Nat.lt_trans (Nat.lt_trans (Nat.lt_trans (Nat.lt_trans lt77 lt78) lt79) lt80) lt81) lt82) lt83) lt84) lt85) lt86)) (ninS (Nat.ne_of_lt (Nat.lt_trans (Nat.lt_trans (Nat.lt_trans (Nat.lt_trans (Nat.lt_trans (Nat.lt_trans (Nat.lt_trans (Nat.lt_trans (Nat.lt_trans (Nat.lt_trans lt77 lt78) lt79) lt80) lt81) lt82) lt83) lt84) lt85) lt86) lt87)) nin0))
    have F624 := F539.keep Kc602 (ninS (Nat.ne_of_lt (Nat.lt_trans (Nat.lt_trans (Nat.lt_trans (Nat.lt_trans (Nat.lt_trans (Nat.lt_trans (Nat.lt_trans (Nat.lt_trans lt78 lt79) lt80) lt81) lt82) lt83) lt84) lt85) lt86)) (ninS (Nat.ne_of_lt (Nat.lt_trans (Nat.lt_trans (Nat.lt_trans (Nat.lt_trans (Nat.lt_trans (Nat.lt_trans (Nat.lt_trans (Nat.lt_trans (Nat.lt_trans lt78 lt79) lt80) lt81) lt82) lt83) lt84) lt85) lt86) lt87)) nin0))
    have F625 := F540.keep Kc602 (ninS (Nat.ne_of_lt (Nat.lt_trans (Nat.lt_trans (Nat.lt_trans (Nat.lt_trans (Nat.lt_trans (Nat.lt_trans (Nat.lt_trans lt79 lt80) lt81) lt82) lt83) lt84) lt85) lt86)) (ninS (Nat.ne_of_lt (Nat.lt_trans (Nat.lt_trans (Nat.lt_trans (Nat.lt_trans (Nat.lt_trans (Nat.lt_trans (Nat.lt_trans (Nat.lt_trans lt79 lt80) lt81) lt82) lt83) lt84) lt85) lt86) lt87)) nin0))
    have F626 := F541.keep Kc602 (ninS (Nat.ne_of_lt (Nat.lt_trans (Nat.lt_trans (Nat.lt_trans (Nat.lt_trans (Nat.lt_trans lt81 lt82) lt83) lt84) lt85) lt86)) (ninS (Nat.ne_of_lt (Nat.lt_trans (Nat.lt_trans (Nat.lt_trans (Nat.lt_trans (Nat.lt_trans (Nat.lt_trans lt81 lt82) lt83) lt84) lt85) lt86) lt87)) nin0))
    have F627 := F542.keep Kc602 (ninS (Nat.ne_of_lt (Nat.lt_trans (Nat.lt_trans (Nat.lt_trans (Nat.lt_trans lt82 lt83) lt84) lt85) lt86)) (ninS (Nat.ne_of_lt (Nat.lt_trans (Nat.lt_trans (Nat.lt_trans (Nat.lt_trans (Nat.lt_trans lt82 lt83) lt84) lt85) lt86) lt87)) nin0))
    have F628 := F543.keep Kc602 (ninS (Nat.ne_of_lt (Nat.lt_trans (Nat.lt_trans lt84 lt85) lt86)) (ninS (Nat.ne_of_lt (Nat.lt_trans (Nat.lt_trans (Nat.lt_trans lt84 lt85) lt86) lt87)) nin0))
    have F629 := F544.keep Kc602 (ninS (Nat.ne_of_lt lt86) (ninS (Nat.ne_of_lt (Nat.lt_trans lt86 lt87)) nin0))
    have F630 := F545.keep Kc602 (ninS (Nat.ne_of_lt (Nat.lt_trans lt85 lt86)) (ninS (Nat.ne_of_lt (Nat.lt_trans (Nat.lt_trans lt85 lt86) lt87)) nin0))
    have F631 := F517.keep Kc602 (ninS (Nat.ne_of_lt (Nat.lt_trans (Nat.lt_trans (Nat.lt_trans (Nat.lt_trans (Nat.lt_trans (Nat.lt_trans lt80 lt81) lt82) lt83) lt84) lt85) lt86)) (ninS (Nat.ne_of_lt (Nat.lt_trans (Nat.lt_trans (Nat.lt_trans (Nat.lt_trans (Nat.lt_trans (Nat.lt_trans (Nat.lt_trans lt80 lt81) lt82) lt83) lt84) lt85) lt86) lt87)) nin0))
    have F632 := F520.keep Kc602 (ninS (Nat.ne_of_gt (Nat.lt_trans lt87 lt88)) (ninS (Nat.ne_of_gt lt88) nin0))
    have Zs633 := Nat.le_trans Zs546 Kc602.1
    have N634 := Fr.app N595 Nq601
    show Goes _ _ _ _ _ _ 209 _ []
    refine g_iload 211 rfl C X599 at_209 rfl ?_
    refine g_if_eq_f 214 rfl C X599 at_211 (by decide) ?_
    refine g_aload 216 rfl C X599 at_214 rfl rfl ?_
    refine g_iload 218 rfl C X599 at_216 rfl ?_
    refine g_callV 221 rfl C X599 (argsL := [(.int v425)]) (hw _ (List.mem_of_getElem? (i := 64) rfl)) (hw _ (List.mem_of_getElem? (i := 65) rfl)) (hw _ (List.mem_of_getElem? (i := 67) rfl)) (hw _ (List.mem_of_getElem? (i := 66) rfl)) (hw _ (List.mem_of_getElem? (i := 68) rfl)) (hw _ (List.mem_of_getElem? (i := 2) rfl)) rfl F606 (rm8 l Z a0 hw [] o3 v425 y43 (upd (upd (upd (fun _ => 0) n426 (-1 : Int32)) n471 v424) n471 (-1 : Int32)) n471 (-1 : Int32) (T597.heap) n0 Zs633 F606 F619 B603 (Nat.lt_trans (Nat.lt_trans (Nat.lt_trans (Nat.lt_trans (Nat.lt_trans (Nat.lt_trans (Nat.lt_trans (Nat.lt_trans (Nat.lt_trans (Nat.lt_trans (Nat.lt_trans lt90 lt77) lt78) lt79) lt80) lt81) lt82) lt83) lt84) lt85) lt86) lt87) gn10 hn471 (by omega) (upd_same rfl)) (lenOf pd_52681284 rfl) (by decide) (by decide) (by decide) (by decide) rfl (W := 0) (Nat.le_of_eq rfl) (by decide) at_218 rfl fun r635 T636 Lc637 X638 hQ639 => ?_
    obtain ⟨rfl, Nq640, eh641⟩ := hQ639
    have N642 := Fr.app N634 Nq640
    show Goes _ _ _ _ _ _ 221 _ [(.int (-1 : Int32))]
    refine g_iconst 222 rfl C X638 (-1 : Int32) at_221 rfl ?_
    refine g_icmp_ne_f 225 rfl C X638 at_222 (by decide) ?_
    refine g_iconst 226 rfl C X638 (1 : Int32) at_225 rfl ?_
    refine g_goto 230 C X638 at_226 (by decide) (by decide) ?_
    refine g_istore 232 rfl C X638 (1 : Int32) rfl #[.val (.int p0), .val (.int p1), .val (.int p2), .val (.int p3), .val (.ref o3), .val (.int (0 : Int32)), .val (.int (1 : Int32)), .val (.int (1 : Int32)), .val (.int (0 : Int32)), .val (.int v424), .val (.int v425), .val (.int (1 : Int32))] at_230 rfl ?_
    refine g_iload 234 rfl C X638 at_232 rfl ?_
    exact g_retN C X638 (z' := (1 : Int32)) rfl (Or.inl rfl) at_234 eh641 (by decide) (by decide) rfl ⟨rfl, N642⟩
set_option maxRecDepth 65536 in
set_option maxHeartbeats 40000000 in
theorem comes_1 {Post : Tables → Env → Array Value → State → Outcome → State → Prop} (hpost : ∀ tb e args s v u, (limb_1_1.after args s (.returned v) u = true ∧ limb_1_2.after args s (.returned v) u = true ∧ True) → FrameEnd s (.returned v) u (Jvm.fieldLocs frame_1_writes args s ++ Jvm.arrayLocs frame_1_arrays args s ++ Jvm.staticLocs frame_1_statics s) 40 192 → Post tb e args s (.returned v) u) :
    ArmFor flags0 classFile x code maxLocals ret World_1 tables_1 room_1 Calls_1 rest_1 Pre_1 Post := by
  intro l hfl _ _ p e ha hc hk s m args below hf hA hF happ hP
  obtain ⟨hcalls, hrest, hpre⟩ := hP
  obtain ⟨-, -, -, hnamed, -, -, -, hat⟩ := (Spec.applies_iff hf).mp happ
  obtain ⟨hg, hn⟩ := and_e (Cond.before_iff.mp (show (Jvm.Cond.and given_1 narrow_1).before args s = true from hpre))
  obtain ⟨g1, g2⟩ := and_e hg
  obtain ⟨g3, g4⟩ := and_e g2
  obtain ⟨g5, g6⟩ := and_e g4
  obtain ⟨g7, g8⟩ := and_e g6
  obtain ⟨w0, w1, w2, w3, rfl⟩ : ∃ w0 w1 w2 w3 : Value, args = #[w0, w1, w2, w3] := by
    have hs : args.size = 4 := by simpa [Cond.value, given_1] using g1
    obtain ⟨L⟩ := args
    match L, hs with
    | [w0, w1, w2, w3], _ => exact ⟨w0, w1, w2, w3, rfl⟩
  have hw := fun d (hd : d ∈ tables_1) => atoms_spec (ws := Jvm.Cond.code x code maxLocals ret :: tables_1) hat d (List.mem_cons_of_mem _ hd)
  obtain ⟨i0, ei0⟩ := is_v g3
  obtain rfl : w0 = (.int i0) := Option.some.inj ei0
  obtain ⟨i1, ei1⟩ := is_v g5
  obtain rfl : w1 = (.int i1) := Option.some.inj ei1
  obtain ⟨i2, ei2⟩ := is_v g7
  obtain rfl : w2 = (.int i2) := Option.some.inj ei2
  obtain ⟨i3, ei3⟩ := is_v g8
  obtain rfl : w3 = (.int i3) := Option.some.inj ei3
  obtain ⟨n, o, h1, h2, h3, _, L, rfl, ⟨rfl, N⟩, hq⟩ := rm0 l s _ hw tables_1 i0 i1 i2 i3 s.heap s.heap.size (Nat.le_refl _) p e ha hc hk s m _ below hf ((Spec.applies_iff_loose hf).mp happ).1 ⟨rfl, State.Warmed39.refl s, rfl⟩ trivial
  refine ⟨n, _, h1, h2, h3, hpost _ _ _ _ _ _ ⟨Cond.after_iff.mpr rfl, Cond.after_iff.mpr (eq_i res_at (Term.int_eval (1)) rfl), trivial⟩ ⟨hq.1, hq.2.1, (hq.2.2.sift fun y hy => Or.inr (N y hy)).mono (by decide) (by decide)⟩⟩
theorem main_1_1 : Claimed_1_1 := comes_1 fun _ _ _ _ _ _ h hF => ⟨h.1, hF⟩
theorem main_1_2 : Claimed_1_2 := comes_1 fun _ _ _ _ _ _ h hF => ⟨h.2.1, hF⟩
end Jvm.Pilot.@@N@@
namespace Jvm.Pilot.@@N@@
open Jvm Jvm.ClassFile Sem Op Lib Jvm.Free Jvm.Stand Jvm.Pilot.@@N@@.Jvm.D
/-! MADE BY PROGRAM (witnessworld.py) out of the Statement's table words and the real class files: 10 classes; the members and pool entries that the words name. The judged class is class 1, her method 1. -/
namespace start1
open Jvm.ClassFile
def u (s : String) : CpInfo := .utf8 (stringToUtf16 s)
/-- a pool by its gaps: so many unusable entries, then the entry; so many at the end -/
def gap : Nat → List CpInfo → List CpInfo
  | 0, r => r
  | n + 1, r => .unusable :: gap n r
def poolList (es : List (Nat × CpInfo)) (last : Nat) : List CpInfo := es.foldr (fun e r => gap e.1 (e.2 :: r)) (gap last [])
def pool (es : List (Nat × CpInfo)) (last : Nat) : Array CpInfo := ⟨poolList es last⟩
def fileOf (pool : Array CpInfo) (this : Nat) (attrs : Array Attribute := #[]) (ms : Array MethodInfo := #[]) (fl : Nat := 33) (sup : Nat := 0) (ifs : Array Nat := #[]) (fds : Array FieldInfo := #[]) : ClassFile where
  minorVersion := 0
  majorVersion := 65
  constantPool := pool
  accessFlags := fl
  thisClass := this
  superClass := sup
  interfaces := ifs
  fields := fds
  methods := ms
  attributes := attrs
def plain (name : String) (sup : Option ClassId) : Class where
  name := name
  kind := .ordinary
  loader := none
  accessFlags := 33
  super := sup
  interfaces := #[]
  cf := none
  fields := #[]
  methods := #[]
  instanceTypes := #[]
  staticTypes := #[]
  resolved := #[]
  callSites := []
  init := .initialized
  statics := none
  mirror := none

def pool0 : Array CpInfo := pool [(5, u "<init>"), (0, u "()V"), (1, .class_ 10), (1, u "java/lang/Object")] 113

def k0c0 : Code := { maxStack := 0, maxLocals := 1, code := object_method_1_code, exceptionTable := #[], attributes := #[] }
def k0m0 : Method := { name := "<init>", desc := "()V", sig := { parameters := [], returnType := none }, accessFlags := 1, code := some k0c0 }
/-- java/lang/Object -/
def k0 : Class := { plain "java/lang/Object" none with
  accessFlags := 33
  interfaces := #[]
  cf := some (fileOf pool0 8 #[] #[{ accessFlags := 1, nameIndex := 5, descriptorIndex := 6, attributes := #[] }] 33 0 #[] #[])
  fields := #[]
  methods := #[k0m0]
  instanceTypes := #[]
  staticTypes := #[]
  resolved := Array.replicate 124 none
  statics := none }

def pool1 : Array CpInfo := pool [(2, .class_ 4), (1, u "java/lang/Object"), (0, u "<init>"), (0, u "()V"), (0, .class_ 8), (0, u "com/example/bisimulation/bisimulation/lts/Exits"), (0, .methodref 7 10), (0, .nameAndType 5 11), (0, u "(II)V"), (0, .methodref 7 13), (0, .nameAndType 14 15), (0, u "open"), (0, u "(III)I"), (0, .integer 2147483647), (0, .methodref 7 18), (0, .nameAndType 19 11), (0, u "join"), (0, .methodref 7 21), (0, .nameAndType 22 23), (0, u "firstMember"), (0, u "(I)I"), (0, .methodref 7 25), (0, .nameAndType 26 23), (0, u "nextMember"), (0, .methodref 7 28), (0, .nameAndType 29 23), (0, u "exitOf"), (0, .methodref 7 31), (0, .nameAndType 32 33), (0, u "leave"), (0, u "(I)V"), (0, .class_ 35), (0, u "com/example/bisimulation/bisimulation/lts/ExitsJoinPinLaw"), (2, u "law"), (0, u "(IIII)Z")] 3

def k1m0 : Method := { name := "<init>", desc := "()V", sig := { parameters := [], returnType := none }, accessFlags := 1, code := none }
def k1c1 : Code := { maxStack := 4, maxLocals := 12, code := code, exceptionTable := #[], attributes := #[] }
def k1m1 : Method := { name := "law", desc := "(IIII)Z", sig := { parameters := [.int, .int, .int, .int], returnType := some .boolean }, accessFlags := 9, code := some k1c1 }
/-- com/example/bisimulation/bisimulation/lts/ExitsJoinPinLaw -/
def k1 : Class := { plain "com/example/bisimulation/bisimulation/lts/ExitsJoinPinLaw" (some 0) with
  accessFlags := 49
  interfaces := #[]
  cf := some (fileOf pool1 34 #[] #[{ accessFlags := 1, nameIndex := 5, descriptorIndex := 6, attributes := #[] }, { accessFlags := 9, nameIndex := 38, descriptorIndex := 39, attributes := #[] }] 49 2 #[] #[])
  fields := #[]
  methods := #[k1m0, k1m1]
  instanceTypes := #[]
  staticTypes := #[]
  resolved := Array.replicate 43 none
  statics := none }

def pool2 : Array CpInfo := pool [(1, .methodref 2 3), (0, .class_ 4), (0, .nameAndType 5 6), (0, u "java/lang/Object"), (0, u "<init>"), (0, u "()V"), (0, .fieldref 8 9), (0, .class_ 10), (0, .nameAndType 11 12), (0, u "com/example/bisimulation/bisimulation/lts/Exits"), (0, u "blockOf"), (0, u "[I"), (0, .fieldref 8 14), (0, .nameAndType 15 12), (0, u "labelOf"), (0, .fieldref 8 17), (0, .nameAndType 18 12), (0, u "coarseOf"), (0, .fieldref 8 20), (0, .nameAndType 21 12), (0, u "firstMember"), (0, .fieldref 8 23), (0, .nameAndType 24 12), (0, u "nextExit"), (0, .fieldref 8 26), (0, .nameAndType 27 12), (0, u "previousExit"), (0, .fieldref 8 29), (0, .nameAndType 30 12), (0, u "freeExits"), (0, .fieldref 8 32), (0, .nameAndType 33 12), (0, u "firstExit"), (0, .fieldref 8 35), (0, .nameAndType 36 12), (0, u "lastExit"), (0, .fieldref 8 38), (0, .nameAndType 39 12), (0, u "exitCount"), (0, .methodref 41 42), (0, .class_ 43), (0, .nameAndType 44 45), (0, u "java/util/Arrays"), (0, u "fill"), (0, u "([II)V"), (0, .fieldref 8 47), (0, .nameAndType 48 12), (0, u "exitOfCounter"), (0, .fieldref 8 50), (0, .nameAndType 51 12), (0, u "nextMember"), (0, .fieldref 8 53), (0, .nameAndType 54 12), (0, u "previousMember"), (0, .fieldref 8 56), (0, .nameAndType 57 58), (0, u "freeCount"), (0, u "I"), (0, .fieldref 8 60), (0, .nameAndType 61 58), (0, u "limit"), (0, .methodref 8 63), (0, .nameAndType 64 65), (0, u "link"), (0, u "(I)V"), (3, u "NONE"), (2, u "(II)V"), (2, u "open"), (0, u "(III)I"), (1, u "join"), (0, u "leave"), (1, u "exitOf"), (0, u "(I)I")] 7

def k2c0 : Code := { maxStack := 2, maxLocals := 3, code := prog_51_method_1_code, exceptionTable := #[], attributes := #[] }
def k2m0 : Method := { name := "<init>", desc := "(II)V", sig := { parameters := [.int, .int], returnType := none }, accessFlags := 0, code := some k2c0 }
def k2c1 : Code := { maxStack := 4, maxLocals := 5, code := prog_51_method_2_code, exceptionTable := #[], attributes := #[] }
def k2m1 : Method := { name := "open", desc := "(III)I", sig := { parameters := [.int, .int, .int], returnType := some .int }, accessFlags := 0, code := some k2c1 }
def k2c2 : Code := { maxStack := 3, maxLocals := 4, code := prog_51_method_3_code, exceptionTable := #[], attributes := #[] }
def k2m2 : Method := { name := "join", desc := "(II)V", sig := { parameters := [.int, .int], returnType := none }, accessFlags := 0, code := some k2c2 }
def k2c3 : Code := { maxStack := 5, maxLocals := 5, code := prog_51_method_4_code, exceptionTable := #[], attributes := #[] }
def k2m3 : Method := { name := "leave", desc := "(I)V", sig := { parameters := [.int], returnType := none }, accessFlags := 0, code := some k2c3 }
def k2c4 : Code := { maxStack := 2, maxLocals := 2, code := prog_51_method_6_code, exceptionTable := #[], attributes := #[] }
def k2m4 : Method := { name := "exitOf", desc := "(I)I", sig := { parameters := [.int], returnType := some .int }, accessFlags := 0, code := some k2c4 }
def k2c5 : Code := { maxStack := 2, maxLocals := 2, code := prog_51_method_12_code, exceptionTable := #[], attributes := #[] }
def k2m5 : Method := { name := "firstMember", desc := "(I)I", sig := { parameters := [.int], returnType := some .int }, accessFlags := 0, code := some k2c5 }
def k2c6 : Code := { maxStack := 2, maxLocals := 2, code := prog_51_method_13_code, exceptionTable := #[], attributes := #[] }
def k2m6 : Method := { name := "nextMember", desc := "(I)I", sig := { parameters := [.int], returnType := some .int }, accessFlags := 0, code := some k2c6 }
def k2c7 : Code := { maxStack := 3, maxLocals := 4, code := prog_51_method_14_code, exceptionTable := #[], attributes := #[] }
def k2m7 : Method := { name := "link", desc := "(I)V", sig := { parameters := [.int], returnType := none }, accessFlags := 2, code := some k2c7 }
/-- com/example/bisimulation/bisimulation/lts/Exits -/
def k2 : Class := { plain "com/example/bisimulation/bisimulation/lts/Exits" (some 0) with
  accessFlags := 48
  interfaces := #[]
  cf := some (fileOf pool2 8 #[] #[{ accessFlags := 0, nameIndex := 5, descriptorIndex := 72, attributes := #[] }, { accessFlags := 0, nameIndex := 75, descriptorIndex := 76, attributes := #[] }, { accessFlags := 0, nameIndex := 78, descriptorIndex := 72, attributes := #[] }, { accessFlags := 0, nameIndex := 79, descriptorIndex := 65, attributes := #[] }, { accessFlags := 0, nameIndex := 81, descriptorIndex := 82, attributes := #[] }, { accessFlags := 0, nameIndex := 21, descriptorIndex := 82, attributes := #[] }, { accessFlags := 0, nameIndex := 51, descriptorIndex := 82, attributes := #[] }, { accessFlags := 2, nameIndex := 64, descriptorIndex := 65, attributes := #[] }] 48 2 #[] #[{ accessFlags := 24, nameIndex := 69, descriptorIndex := 58, attributes := #[] }, { accessFlags := 18, nameIndex := 11, descriptorIndex := 12, attributes := #[] }, { accessFlags := 18, nameIndex := 15, descriptorIndex := 12, attributes := #[] }, { accessFlags := 18, nameIndex := 18, descriptorIndex := 12, attributes := #[] }, { accessFlags := 18, nameIndex := 21, descriptorIndex := 12, attributes := #[] }, { accessFlags := 18, nameIndex := 24, descriptorIndex := 12, attributes := #[] }, { accessFlags := 18, nameIndex := 27, descriptorIndex := 12, attributes := #[] }, { accessFlags := 18, nameIndex := 30, descriptorIndex := 12, attributes := #[] }, { accessFlags := 2, nameIndex := 57, descriptorIndex := 58, attributes := #[] }, { accessFlags := 2, nameIndex := 61, descriptorIndex := 58, attributes := #[] }, { accessFlags := 18, nameIndex := 33, descriptorIndex := 12, attributes := #[] }, { accessFlags := 18, nameIndex := 36, descriptorIndex := 12, attributes := #[] }, { accessFlags := 18, nameIndex := 39, descriptorIndex := 12, attributes := #[] }, { accessFlags := 18, nameIndex := 48, descriptorIndex := 12, attributes := #[] }, { accessFlags := 18, nameIndex := 51, descriptorIndex := 12, attributes := #[] }, { accessFlags := 18, nameIndex := 54, descriptorIndex := 12, attributes := #[] }])
  fields := #[{ name := "NONE", type := .int, accessFlags := 24, slot := 0, constantValue := 0 }, { name := "blockOf", type := (.array .int), accessFlags := 18, slot := 0, constantValue := 0 }, { name := "labelOf", type := (.array .int), accessFlags := 18, slot := 1, constantValue := 0 }, { name := "coarseOf", type := (.array .int), accessFlags := 18, slot := 2, constantValue := 0 }, { name := "firstMember", type := (.array .int), accessFlags := 18, slot := 3, constantValue := 0 }, { name := "nextExit", type := (.array .int), accessFlags := 18, slot := 4, constantValue := 0 }, { name := "previousExit", type := (.array .int), accessFlags := 18, slot := 5, constantValue := 0 }, { name := "freeExits", type := (.array .int), accessFlags := 18, slot := 6, constantValue := 0 }, { name := "freeCount", type := .int, accessFlags := 2, slot := 7, constantValue := 0 }, { name := "limit", type := .int, accessFlags := 2, slot := 8, constantValue := 0 }, { name := "firstExit", type := (.array .int), accessFlags := 18, slot := 9, constantValue := 0 }, { name := "lastExit", type := (.array .int), accessFlags := 18, slot := 10, constantValue := 0 }, { name := "exitCount", type := (.array .int), accessFlags := 18, slot := 11, constantValue := 0 }, { name := "exitOfCounter", type := (.array .int), accessFlags := 18, slot := 12, constantValue := 0 }, { name := "nextMember", type := (.array .int), accessFlags := 18, slot := 13, constantValue := 0 }, { name := "previousMember", type := (.array .int), accessFlags := 18, slot := 14, constantValue := 0 }]
  methods := #[k2m0, k2m1, k2m2, k2m3, k2m4, k2m5, k2m6, k2m7]
  instanceTypes := #[(.array .int), (.array .int), (.array .int), (.array .int), (.array .int), (.array .int), (.array .int), .int, .int, (.array .int), (.array .int), (.array .int), (.array .int), (.array .int), (.array .int)]
  staticTypes := #[.int]
  resolved := Array.replicate 90 none
  statics := none }

def pool3 : Array CpInfo := pool [(2, .class_ 4), (1, u "java/lang/Object"), (0, u "<init>"), (0, u "()V"), (7, .class_ 16), (1, u "java/util/Arrays"), (57, .class_ 76), (1, u "java/util/Arrays$NaturalOrder"), (36, .class_ 115), (1, u "java/util/Arrays$LegacyMergeSort"), (1, u "Z"), (257, .class_ 376), (0, u "java/util/Arrays$ArrayList"), (68, u "$assertionsDisabled"), (269, u "MIN_ARRAY_SORT_GRAN"), (0, u "I"), (2, u "INSERTIONSORT_THRESHOLD"), (120, u "fill"), (4, u "([II)V"), (129, .class_ 976), (0, u "java/util/Arrays$ArrayItr")] 52

def k3m0 : Method := { name := "<init>", desc := "()V", sig := { parameters := [], returnType := none }, accessFlags := 2, code := none }
def k3c1 : Code := { maxStack := 3, maxLocals := 4, code := jdk_65_method_103_code, exceptionTable := #[], attributes := #[] }
def k3m1 : Method := { name := "fill", desc := "([II)V", sig := { parameters := [(.array .int), .int], returnType := none }, accessFlags := 9, code := some k3c1 }
/-- java/util/Arrays -/
def k3 : Class := { plain "java/util/Arrays" (some 0) with
  accessFlags := 49
  interfaces := #[]
  cf := some (fileOf pool3 14 #[.nestMembers #[975, 375, 113, 74]] #[{ accessFlags := 2, nameIndex := 5, descriptorIndex := 6, attributes := #[] }, { accessFlags := 9, nameIndex := 840, descriptorIndex := 845, attributes := #[] }] 49 2 #[] #[{ accessFlags := 26, nameIndex := 715, descriptorIndex := 716, attributes := #[] }, { accessFlags := 26, nameIndex := 719, descriptorIndex := 716, attributes := #[] }, { accessFlags := 4120, nameIndex := 445, descriptorIndex := 117, attributes := #[] }])
  fields := #[{ name := "MIN_ARRAY_SORT_GRAN", type := .int, accessFlags := 26, slot := 0, constantValue := 0 }, { name := "INSERTIONSORT_THRESHOLD", type := .int, accessFlags := 26, slot := 1, constantValue := 0 }, { name := "$assertionsDisabled", type := .boolean, accessFlags := 4120, slot := 2, constantValue := 0 }]
  methods := #[k3m0, k3m1]
  instanceTypes := #[]
  staticTypes := #[.int, .int, .boolean]
  resolved := Array.replicate 1029 none
  statics := none }

def pool4 : Array CpInfo := pool [(1, u "java/lang/Cloneable"), (0, .class_ 1), (0, u "java/lang/Object"), (0, .class_ 3)] 3

/-- java/lang/Cloneable -/
def k4 : Class := { plain "java/lang/Cloneable" (some 0) with
  accessFlags := 1537
  interfaces := #[]
  cf := some (fileOf pool4 2 #[] #[] 1537 4 #[] #[])
  fields := #[]
  methods := #[]
  instanceTypes := #[]
  staticTypes := #[]
  resolved := Array.replicate 8 none
  statics := none }

def pool5 : Array CpInfo := pool [(1, u "java/io/Serializable"), (0, .class_ 1), (0, u "java/lang/Object"), (0, .class_ 3)] 3

/-- java/io/Serializable -/
def k5 : Class := { plain "java/io/Serializable" (some 0) with
  accessFlags := 1537
  interfaces := #[]
  cf := some (fileOf pool5 2 #[] #[] 1537 4 #[] #[])
  fields := #[]
  methods := #[]
  instanceTypes := #[]
  staticTypes := #[]
  resolved := Array.replicate 8 none
  statics := none }

/-- the primitive byte -/
def k6 : Class := { plain "byte" none with kind := .primitive 'B', accessFlags := 0x411 }
/-- [B -/
def k7 : Class := { plain "[B" (some 0) with kind := .array 6 .byte, interfaces := #[4, 5], accessFlags := 1041 }

/-- the primitive int -/
def k8 : Class := { plain "int" none with kind := .primitive 'I', accessFlags := 0x411 }
/-- [I -/
def k9 : Class := { plain "[I" (some 0) with kind := .array 8 .int, interfaces := #[4, 5], accessFlags := 1041 }

def heap : Heap := #[]
def classes : Array Class := #[k0, k1, k2, k3, k4, k5, k6, k7, k8, k9]
def interned : List (Array UInt16 × Addr) := []
def slotsUsed : Nat := 0
def theMethod : MethodId := ⟨1, 1⟩
def args0 : Array Value := #[.int 5, .int 7, .int 9, .int 3]
def aboutOver (below : List Frame) : State where
  vm := { classes := classes, interned := interned.toArray }
  heap := heap
  slotsUsed := slotsUsed
  threads := #[{ frames := .invoking theMethod args0 :: below }]
def below0 : List Frame := [.native { method := ⟨0, 0⟩, args := #[] }]
def about1 : State := aboutOver below0
def p0 : Program := .bare "" "" ""
def e0 : Env := launch0.env 0 0 0
theorem w_frames : about1.frames = Frame.invoking theMethod args0 :: below0 := rfl
set_option maxRecDepth 65536 in
theorem w_args : argsFit about1.vm theMethod args0 = true := by decide +kernel
set_option maxRecDepth 65536 in
theorem w_heap : heapFits about1 = true := by decide +kernel
set_option maxRecDepth 65536 in
theorem w_runnable : about1.curStatus? = some .runnable := by decide +kernel
set_option maxRecDepth 65536 in
theorem w_alone : about1.alone = true := by decide +kernel
set_option maxRecDepth 65536 in
theorem w_named : about1.methodNamed? x = some theMethod := by decide +kernel
set_option maxRecDepth 65536 in
theorem w_hears : about1.hears theMethod below0 = true := by decide +kernel
set_option maxRecDepth 65536 in
theorem w_ripe : about1.ripe theMethod args0 below0 = true := by decide +kernel
theorem w_running : about1.status = .running := rfl
set_option maxRecDepth 65536 in
theorem w_room : about1.hasRoom e0.platform room_1 = true :=
  launch0.hasRoom_least _ room_1 (by decide +kernel) (by decide +kernel) (by decide +kernel) (by decide +kernel) (by decide +kernel) (by decide +kernel)
theorem allAtoms_all (ts : List Jvm.Cond) (a : Array Jvm.Value) (st : Jvm.State) : (allAtoms ts).before a st = ts.all (fun c => c.before a st) := by
  induction ts with
  | nil => rfl
  | cons c t ih =>
    show (Jvm.Cond.and c (allAtoms t)).before a st = _
    rw [Jvm.Cond.before_and, ih, List.all_cons]
def words1 : List Jvm.Cond := Jvm.Cond.code x code maxLocals ret :: tables_1
/-- a 'code' word, met by the world's own term for the bytes: nothing is compared byte by byte -/
theorem code_word {y : MethodName} {bytes : ByteArray} {mx : Nat} {rt : Option FieldType} {a : Array Value} {s : State} {m : MethodId} {meth : Method} {c : Code} (h1 : s.methodNamed? y = some m) (h2 : s.vm.method? m = some meth) (h3 : meth.code = some c) (h4 : c.code = bytes)
    (h5 : (c.maxLocals == mx && c.exceptionTable.isEmpty && decide (c.maxStack ≤ mostOperands) && decide (meth.sig.returnType = rt) && !meth.locks && decide (parseMethodDescriptor y.desc = some meth.sig)) = true) : (Jvm.Cond.code y bytes mx rt).before a s = true := by
  simp only [Bool.and_eq_true, beq_iff_eq, Bool.not_eq_true', decide_eq_true_eq] at h5
  obtain ⟨⟨⟨⟨⟨g1, g2⟩, g3⟩, g4⟩, g5⟩, g6⟩ := h5
  simp [Cond.before, Cond.holds, Cond.value, h1, h2, h3, h4, g1, g2, g3, g4, g5, g6]
def isCode : Jvm.Cond → Bool
  | .code _ _ _ _ => true
  | _ => false
theorem all_split {L : List Jvm.Cond} {P : Jvm.Cond → Bool} (h1 : L.all (fun c => isCode c || P c) = true) (h2 : ∀ c ∈ L.filter isCode, P c = true) : L.all P = true := by
  refine List.all_eq_true.mpr fun c hc => ?_
  have h := List.all_eq_true.mp h1 c hc
  rcases Bool.eq_false_or_eq_true (isCode c) with hi | hi
  · exact h2 c (List.mem_filter.mpr ⟨hc, hi⟩)
  · simpa [hi] using h
set_option maxRecDepth 65536 in
theorem w_c0 : (Jvm.Cond.code x code maxLocals ret).before args0 about1 = true := code_word (m := ⟨1, 1⟩) (meth := k1m1) (c := k1c1) (by decide +kernel) rfl rfl rfl (by decide +kernel)
set_option maxRecDepth 65536 in
theorem w_c1 : (Jvm.Cond.code ({ cls := "com/example/bisimulation/bisimulation/lts/Exits", name := "<init>", desc := "(II)V" } : Jvm.MethodName) prog_51_method_1_code (3 : Nat) (Option.none : Option Jvm.ClassFile.FieldType)).before args0 about1 = true := code_word (m := ⟨2, 0⟩) (meth := k2m0) (c := k2c0) (by decide +kernel) rfl rfl rfl (by decide +kernel)
set_option maxRecDepth 65536 in
theorem w_c2 : (Jvm.Cond.code ({ cls := "java/lang/Object", name := "<init>", desc := "()V" } : Jvm.MethodName) object_method_1_code (1 : Nat) (Option.none : Option Jvm.ClassFile.FieldType)).before args0 about1 = true := code_word (m := ⟨0, 0⟩) (meth := k0m0) (c := k0c0) (by decide +kernel) rfl rfl rfl (by decide +kernel)
set_option maxRecDepth 65536 in
theorem w_c3 : (Jvm.Cond.code ({ cls := "java/util/Arrays", name := "fill", desc := "([II)V" } : Jvm.MethodName) jdk_65_method_103_code (4 : Nat) (Option.none : Option Jvm.ClassFile.FieldType)).before args0 about1 = true := code_word (m := ⟨3, 1⟩) (meth := k3m1) (c := k3c1) (by decide +kernel) rfl rfl rfl (by decide +kernel)
set_option maxRecDepth 65536 in
theorem w_c4 : (Jvm.Cond.code ({ cls := "com/example/bisimulation/bisimulation/lts/Exits", name := "open", desc := "(III)I" } : Jvm.MethodName) prog_51_method_2_code (5 : Nat) (Option.some Jvm.ClassFile.FieldType.int)).before args0 about1 = true := code_word (m := ⟨2, 1⟩) (meth := k2m1) (c := k2c1) (by decide +kernel) rfl rfl rfl (by decide +kernel)
set_option maxRecDepth 65536 in
theorem w_c5 : (Jvm.Cond.code ({ cls := "com/example/bisimulation/bisimulation/lts/Exits", name := "link", desc := "(I)V" } : Jvm.MethodName) prog_51_method_14_code (4 : Nat) (Option.none : Option Jvm.ClassFile.FieldType)).before args0 about1 = true := code_word (m := ⟨2, 7⟩) (meth := k2m7) (c := k2c7) (by decide +kernel) rfl rfl rfl (by decide +kernel)
set_option maxRecDepth 65536 in
theorem w_c6 : (Jvm.Cond.code ({ cls := "com/example/bisimulation/bisimulation/lts/Exits", name := "join", desc := "(II)V" } : Jvm.MethodName) prog_51_method_3_code (4 : Nat) (Option.none : Option Jvm.ClassFile.FieldType)).before args0 about1 = true := code_word (m := ⟨2, 2⟩) (meth := k2m2) (c := k2c2) (by decide +kernel) rfl rfl rfl (by decide +kernel)
set_option maxRecDepth 65536 in
theorem w_c7 : (Jvm.Cond.code ({ cls := "com/example/bisimulation/bisimulation/lts/Exits", name := "firstMember", desc := "(I)I" } : Jvm.MethodName) prog_51_method_12_code (2 : Nat) (Option.some Jvm.ClassFile.FieldType.int)).before args0 about1 = true := code_word (m := ⟨2, 5⟩) (meth := k2m5) (c := k2c5) (by decide +kernel) rfl rfl rfl (by decide +kernel)
set_option maxRecDepth 65536 in
theorem w_c8 : (Jvm.Cond.code ({ cls := "com/example/bisimulation/bisimulation/lts/Exits", name := "nextMember", desc := "(I)I" } : Jvm.MethodName) prog_51_method_13_code (2 : Nat) (Option.some Jvm.ClassFile.FieldType.int)).before args0 about1 = true := code_word (m := ⟨2, 6⟩) (meth := k2m6) (c := k2c6) (by decide +kernel) rfl rfl rfl (by decide +kernel)
set_option maxRecDepth 65536 in
theorem w_c9 : (Jvm.Cond.code ({ cls := "com/example/bisimulation/bisimulation/lts/Exits", name := "exitOf", desc := "(I)I" } : Jvm.MethodName) prog_51_method_6_code (2 : Nat) (Option.some Jvm.ClassFile.FieldType.int)).before args0 about1 = true := code_word (m := ⟨2, 4⟩) (meth := k2m4) (c := k2c4) (by decide +kernel) rfl rfl rfl (by decide +kernel)
set_option maxRecDepth 65536 in
theorem w_c10 : (Jvm.Cond.code ({ cls := "com/example/bisimulation/bisimulation/lts/Exits", name := "leave", desc := "(I)V" } : Jvm.MethodName) prog_51_method_4_code (5 : Nat) (Option.none : Option Jvm.ClassFile.FieldType)).before args0 about1 = true := code_word (m := ⟨2, 3⟩) (meth := k2m3) (c := k2c3) (by decide +kernel) rfl rfl rfl (by decide +kernel)
def codes1 : List Jvm.Cond := [Jvm.Cond.code x code maxLocals ret, Jvm.Cond.code ({ cls := "com/example/bisimulation/bisimulation/lts/Exits", name := "<init>", desc := "(II)V" } : Jvm.MethodName) prog_51_method_1_code (3 : Nat) (Option.none : Option Jvm.ClassFile.FieldType), Jvm.Cond.code ({ cls := "java/lang/Object", name := "<init>", desc := "()V" } : Jvm.MethodName) object_method_1_code (1 : Nat) (Option.none : Option Jvm.ClassFile.FieldType), Jvm.Cond.code ({ cls := "java/util/Arrays", name := "fill", desc := "([II)V" } : Jvm.MethodName) jdk_65_method_103_code (4 : Nat) (Option.none : Option Jvm.ClassFile.FieldType), Jvm.Cond.code ({ cls := "com/example/bisimulation/bisimulation/lts/Exits", name := "open", desc := "(III)I" } : Jvm.MethodName) prog_51_method_2_code (5 : Nat) (Option.some Jvm.ClassFile.FieldType.int), Jvm.Cond.code ({ cls := "com/example/bisimulation/bisimulation/lts/Exits", name := "link", desc := "(I)V" } : Jvm.MethodName) prog_51_method_14_code (4 : Nat) (Option.none : Option Jvm.ClassFile.FieldType), Jvm.Cond.code ({ cls := "com/example/bisimulation/bisimulation/lts/Exits", name := "join", desc := "(II)V" } : Jvm.MethodName) prog_51_method_3_code (4 : Nat) (Option.none : Option Jvm.ClassFile.FieldType), Jvm.Cond.code ({ cls := "com/example/bisimulation/bisimulation/lts/Exits", name := "firstMember", desc := "(I)I" } : Jvm.MethodName) prog_51_method_12_code (2 : Nat) (Option.some Jvm.ClassFile.FieldType.int), Jvm.Cond.code ({ cls := "com/example/bisimulation/bisimulation/lts/Exits", name := "nextMember", desc := "(I)I" } : Jvm.MethodName) prog_51_method_13_code (2 : Nat) (Option.some Jvm.ClassFile.FieldType.int), Jvm.Cond.code ({ cls := "com/example/bisimulation/bisimulation/lts/Exits", name := "exitOf", desc := "(I)I" } : Jvm.MethodName) prog_51_method_6_code (2 : Nat) (Option.some Jvm.ClassFile.FieldType.int), Jvm.Cond.code ({ cls := "com/example/bisimulation/bisimulation/lts/Exits", name := "leave", desc := "(I)V" } : Jvm.MethodName) prog_51_method_4_code (5 : Nat) (Option.none : Option Jvm.ClassFile.FieldType)]
set_option maxRecDepth 65536 in
theorem codes_eq : words1.filter isCode = codes1 := rfl
theorem w_codes : ∀ c ∈ words1.filter isCode, c.before args0 about1 = true := by
  rw [codes_eq]
  intro c hc
  simp only [codes1, List.mem_cons, List.not_mem_nil, or_false] at hc
  rcases hc with rfl | rfl | rfl | rfl | rfl | rfl | rfl | rfl | rfl | rfl | rfl
  · exact w_c0
  · exact w_c1
  · exact w_c2
  · exact w_c3
  · exact w_c4
  · exact w_c5
  · exact w_c6
  · exact w_c7
  · exact w_c8
  · exact w_c9
  · exact w_c10
set_option maxRecDepth 65536 in
theorem w_t1 : (words1.take 24).all (fun c => isCode c || c.before args0 about1) = true := by decide +kernel
set_option maxRecDepth 65536 in
theorem w_t2 : ((words1.drop 24).take 24).all (fun c => isCode c || c.before args0 about1) = true := by decide +kernel
set_option maxRecDepth 65536 in
theorem w_t3 : (((words1.drop 24).drop 24).take 24).all (fun c => isCode c || c.before args0 about1) = true := by decide +kernel
set_option maxRecDepth 65536 in
theorem w_t4 : (((words1.drop 24).drop 24).drop 24).all (fun c => isCode c || c.before args0 about1) = true := by decide +kernel
theorem w_tables : (allAtoms (Jvm.Cond.code x code maxLocals ret :: tables_1)).before args0 about1 = true := by
  rw [allAtoms_all]
  show words1.all (fun c => c.before args0 about1) = true
  refine all_split ?_ w_codes
  rw [← List.take_append_drop 24 words1, List.all_append, w_t1, ← List.take_append_drop 24 (words1.drop 24), List.all_append, w_t2, ← List.take_append_drop 24 ((words1.drop 24).drop 24), List.all_append, w_t3, w_t4]
  rfl
set_option maxRecDepth 65536 in
theorem w_case : (Jvm.Cond.and given_1 narrow_1).before args0 about1 = true := by decide +kernel
theorem w_applies : (headSpec (Jvm.Cond.code x code maxLocals ret :: tables_1) room_1).applies x e0.platform about1 = true :=
  (Spec.applies_iff w_frames).mpr ⟨w_running, w_runnable, w_alone, w_named, w_hears, w_ripe, w_room, w_tables⟩
theorem atStart : AtStart classFile x code maxLocals ret World_1 tables_1 room_1 Calls_1 rest_1 Pre_1 launch0 p0 e0 about1 theMethod args0 below0 :=
  ⟨lists_1, trivial, launch0.admits_env _ _ _, launch0.least_env, fairChoices_fair.cas, fairChoices_fair.clock, w_frames, w_args, w_heap, w_applies, trivial, trivial, w_case⟩
end start1
theorem witness_1 : WitnessClaimed_1 := ⟨start1.p0, start1.e0, start1.about1, start1.theMethod, start1.args0, start1.below0, start1.atStart⟩
end Jvm.Pilot.@@N@@
