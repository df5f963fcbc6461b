import JvmDerived
import JvmDerived.Pilot.@@N@@Statement
import JvmDerived.Pilot.@@N@@Code
set_option linter.unusedVariables false
set_option linter.unusedSimpArgs false
namespace Jvm.Pilot.@@N@@
open Jvm Jvm.ClassFile Sem Op Lib Jvm.Free Jvm.Stand Jvm.LawKit Jvm.RoadKit Bundle Jvm.Pilot.@@N@@.Jvm.D
section Own
set_option maxHeartbeats 4000000
variable {p : Program} {l : Launch} {e : Env} {R : Room} {s : State} {m : MethodId} {args : Array Value} {below : List Frame} {meth : Method} {c : Code} {T : State} {locs : List Loc} {cells slots : Nat} {Z : State} {a0 : Array Value} {h : Heap} {own nm : String} {bytes : ByteArray} {ml : Nat} {rt : Option FieldType} {Q : Option Value → Heap → List Loc → Prop} {CC SS : Nat} {E : Outcome → State → Prop} {pc : Nat} {Ls : Array Slot} {St : List Value}
def Ctx (p : Program) (s : State) (m : MethodId) (meth : Method) (c : Code) (Z : State) (own nm : String) (bytes : ByteArray) (ml : Nat) (rt : Option FieldType) : Prop :=
  p.tables.exec = Jvm.exec ∧ Z.Warmed39 s.vm ∧ c.code = bytes ∧ c.maxLocals = ml ∧ s.vm.findClass own = some m.cls ∧ meth.locks = false ∧ meth.sig.returnType = rt ∧ meth.name = nm
theorem Ctx.c_x (C : Ctx p s m meth c Z own nm bytes ml rt) : p.tables.exec = Jvm.exec := C.1
theorem Ctx.c_z (C : Ctx p s m meth c Z own nm bytes ml rt) : Z.Warmed39 s.vm := C.2.1
theorem Ctx.c_by (C : Ctx p s m meth c Z own nm bytes ml rt) : c.code = bytes := C.2.2.1
theorem Ctx.c_ml (C : Ctx p s m meth c Z own nm bytes ml rt) : c.maxLocals = ml := C.2.2.2.1
theorem Ctx.c_own (C : Ctx p s m meth c Z own nm bytes ml rt) : s.vm.findClass own = some m.cls := C.2.2.2.2.1
theorem Ctx.c_lk (C : Ctx p s m meth c Z own nm bytes ml rt) : meth.locks = false := C.2.2.2.2.2.1
theorem Ctx.c_rt (C : Ctx p s m meth c Z own nm bytes ml rt) : meth.sig.returnType = rt := C.2.2.2.2.2.2.1
theorem Ctx.c_nm (C : Ctx p s m meth c Z own nm bytes ml rt) : meth.name = nm := C.2.2.2.2.2.2.2
def EndN (s : State) (Q : Option Value → Heap → List Loc → Prop) (CC SS : Nat) (o : Outcome) (t : State) : Prop := ∃ v L, o = .returned v ∧ Q v t.heap L ∧ FrameEnd s o t L CC SS
def Goes (p : Program) (e : Env) (below : List Frame) (E : Outcome → State → Prop) (T : State) (m : MethodId) (pc : Nat) (Ls : Array Slot) (St : List Value) : Prop :=
  ∃ s₂ o, Steps p.tables e below (T.setTop (mkF m pc Ls St)) s₂ ∧ s₂.status = .running ∧ Ended s₂ below o ∧ E o s₂
theorem Goes.back {T' : State} {q : Nat} {Ls' : Array Slot} {St' : List Value} (k : Goes p e below E T' m q Ls' St') (f : ∀ t, Steps p.tables e below (T'.setTop (mkF m q Ls' St')) t → Steps p.tables e below (T.setTop (mkF m pc Ls St)) t) : Goes p e below E T m pc Ls St := by
  obtain ⟨s2, o, h1, h2⟩ := k
  exact ⟨s2, o, f _ h1, h2⟩
theorem Goes.enter {g : JFrame} (hg : g = mkF m 0 Ls []) (k : Goes p e below (EndN s Q CC SS) T m 0 Ls []) : ∃ s₂ o, Steps p.tables e below (T.setTop g) s₂ ∧ s₂.status = .running ∧ Ended s₂ below o ∧ ∃ v L, o = .returned v ∧ Q v s₂.heap L ∧ FrameEnd s o s₂ L CC SS := by
  subst hg
  exact k
theorem Ctx.of {x : MethodName} {S : Spec} {s₁ : State} (Bd : BodyLoose p l x S bytes ml rt e s m args below meth c s₁) (hml : c.maxLocals = ml) (hZ : Z.Warmed39 s.vm) : Ctx p s m meth c Z x.cls x.name bytes ml rt :=
  ⟨Bd.exec, hZ, Bd.bytes, hml, findClass_of_methodNamed Bd.named, Bd.notSynchronized, Bd.returns, (name_of_methodNamed Bd.named Bd.method).1⟩
theorem g_iadd (q : Nat) (hq : pc + 1 = q) (C : Ctx p s m meth c Z own nm bytes ml rt) (X : Stand p l e R s m args below meth c T locs cells slots) {x y : Int32} (hd : decode bytes pc = .ok (.iadd, 1)) (k : Goes p e below E T m q Ls (.int (x + y) :: St)) : Goes p e below E T m pc Ls (.int y :: .int x :: St) := by
  subst hq
  exact k.back fun t kt => XS.iadd (g := mkF m pc Ls (.int y :: .int x :: St)) X.here C.c_x rfl (hb C.c_by hd) rfl kt
theorem g_imul (q : Nat) (hq : pc + 1 = q) (C : Ctx p s m meth c Z own nm bytes ml rt) (X : Stand p l e R s m args below meth c T locs cells slots) {x y : Int32} (hd : decode bytes pc = .ok (.imul, 1)) (k : Goes p e below E T m q Ls (.int (x * y) :: St)) : Goes p e below E T m pc Ls (.int y :: .int x :: St) := by
  subst hq
  exact k.back fun t kt => XS.imul (g := mkF m pc Ls (.int y :: .int x :: St)) X.here C.c_x rfl (hb C.c_by hd) rfl kt
theorem g_iand (q : Nat) (hq : pc + 1 = q) (C : Ctx p s m meth c Z own nm bytes ml rt) (X : Stand p l e R s m args below meth c T locs cells slots) {x y : Int32} (hd : decode bytes pc = .ok (.iand, 1)) (k : Goes p e below E T m q Ls (.int (x &&& y) :: St)) : Goes p e below E T m pc Ls (.int y :: .int x :: St) := by
  subst hq
  exact k.back fun t kt => XS.iand (g := mkF m pc Ls (.int y :: .int x :: St)) X.here C.c_x rfl (hb C.c_by hd) rfl kt
theorem g_ior (q : Nat) (hq : pc + 1 = q) (C : Ctx p s m meth c Z own nm bytes ml rt) (X : Stand p l e R s m args below meth c T locs cells slots) {x y : Int32} (hd : decode bytes pc = .ok (.ior, 1)) (k : Goes p e below E T m q Ls (.int (x ||| y) :: St)) : Goes p e below E T m pc Ls (.int y :: .int x :: St) := by
  subst hq
  exact k.back fun t kt => XS.ior (g := mkF m pc Ls (.int y :: .int x :: St)) X.here C.c_x rfl (hb C.c_by hd) rfl kt
theorem g_irem (q : Nat) (hq : pc + 1 = q) (C : Ctx p s m meth c Z own nm bytes ml rt) (X : Stand p l e R s m args below meth c T locs cells slots) {x y : Int32} (hd : decode bytes pc = .ok (.irem, 1)) (hy : y ≠ 0) (k : Goes p e below E T m q Ls (.int (x % y) :: St)) : Goes p e below E T m pc Ls (.int y :: .int x :: St) := by
  subst hq
  exact k.back fun t kt => XS.irem (g := mkF m pc Ls (.int y :: .int x :: St)) X.here C.c_x rfl (hb C.c_by hd) rfl hy (by rw [irem_eq_mod]; exact kt)
theorem g_ishr (q : Nat) (hq : pc + 1 = q) (C : Ctx p s m meth c Z own nm bytes ml rt) (X : Stand p l e R s m args below meth c T locs cells slots) {x y : Int32} (hd : decode bytes pc = .ok (.ishr, 1)) (k : Goes p e below E T m q Ls (.int (x >>> (y &&& 31)) :: St)) : Goes p e below E T m pc Ls (.int y :: .int x :: St) := by
  subst hq
  exact k.back fun t kt => XS.ishr (g := mkF m pc Ls (.int y :: .int x :: St)) X.here C.c_x rfl (hb C.c_by hd) rfl kt
theorem g_i2b (q : Nat) (hq : pc + 1 = q) (C : Ctx p s m meth c Z own nm bytes ml rt) (X : Stand p l e R s m args below meth c T locs cells slots) {x : Int32} (hd : decode bytes pc = .ok (.i2b, 1)) (k : Goes p e below E T m q Ls (.int (x.toInt8.toInt32) :: St)) : Goes p e below E T m pc Ls (.int x :: St) := by
  subst hq
  exact k.back fun t kt => XS.i2b (g := mkF m pc Ls (.int x :: St)) X.here C.c_x rfl (hb C.c_by hd) rfl kt
theorem g_iconst (q : Nat) (hq : pc + 1 = q) (C : Ctx p s m meth c Z own nm bytes ml rt) (X : Stand p l e R s m args below meth c T locs cells slots) {i : Int} (v : Int32) (hd : decode bytes pc = .ok (.iconst i, 1)) (hv : Int32.ofInt i = v) (k : Goes p e below E T m q Ls (.int v :: St)) : Goes p e below E T m pc Ls St := by
  subst hq
  exact k.back fun t kt => XS.iconst (g := mkF m pc Ls St) X.here C.c_x rfl (hb C.c_by hd) (by subst hv; exact kt)
theorem g_bipush (q : Nat) (hq : pc + 2 = q) (C : Ctx p s m meth c Z own nm bytes ml rt) (X : Stand p l e R s m args below meth c T locs cells slots) {i : Int} (v : Int32) (hd : decode bytes pc = .ok (.bipush i, 2)) (hv : (Int8.ofInt i).toInt32 = v) (k : Goes p e below E T m q Ls (.int v :: St)) : Goes p e below E T m pc Ls St := by
  subst hq
  exact k.back fun t kt => XS.bipush (g := mkF m pc Ls St) X.here C.c_x rfl (hb C.c_by hd) (by subst hv; exact kt)
theorem g_sipush (q : Nat) (hq : pc + 3 = q) (C : Ctx p s m meth c Z own nm bytes ml rt) (X : Stand p l e R s m args below meth c T locs cells slots) {i : Int} (v : Int32) (hd : decode bytes pc = .ok (.sipush i, 3)) (hv : (Int16.ofInt i).toInt32 = v) (k : Goes p e below E T m q Ls (.int v :: St)) : Goes p e below E T m pc Ls St := by
  subst hq
  exact k.back fun t kt => XS.sipush (g := mkF m pc Ls St) X.here C.c_x rfl (hb C.c_by hd) (by subst hv; exact kt)
theorem g_iloadN (q : Nat) (hq : pc + 1 = q) (C : Ctx p s m meth c Z own nm bytes ml rt) (X : Stand p l e R s m args below meth c T locs cells slots) {k0 : Fin 4} {v : Int32} (hd : decode bytes pc = .ok (.iload_n k0, 1)) (hl : Ls[k0.val]? = some (.val (.int v))) (k : Goes p e below E T m q Ls (.int v :: St)) : Goes p e below E T m pc Ls St := by
  subst hq
  exact k.back fun t kt => XS.iloadN (g := mkF m pc Ls St) X.here C.c_x rfl (hb C.c_by hd) hl kt
theorem g_iload (q : Nat) (hq : pc + 2 = q) (C : Ctx p s m meth c Z own nm bytes ml rt) (X : Stand p l e R s m args below meth c T locs cells slots) {k0 : Nat} {v : Int32} (hd : decode bytes pc = .ok (.iload k0, 2)) (hl : Ls[k0]? = some (.val (.int v))) (k : Goes p e below E T m q Ls (.int v :: St)) : Goes p e below E T m pc Ls St := by
  subst hq
  exact k.back fun t kt => XS.iload (g := mkF m pc Ls St) X.here C.c_x rfl (hb C.c_by hd) hl kt
theorem g_aloadN (q : Nat) (hq : pc + 1 = q) (C : Ctx p s m meth c Z own nm bytes ml rt) (X : Stand p l e R s m args below meth c T locs cells slots) {k0 : Fin 4} {v : Value} (hd : decode bytes pc = .ok (.aload_n k0, 1)) (hl : Ls[k0.val]? = some (.val v)) (hv : v.isRef = true) (k : Goes p e below E T m q Ls (v :: St)) : Goes p e below E T m pc Ls St := by
  subst hq
  exact k.back fun t kt => XS.aloadN (g := mkF m pc Ls St) X.here C.c_x rfl (hb C.c_by hd) hl hv kt
theorem g_aload (q : Nat) (hq : pc + 2 = q) (C : Ctx p s m meth c Z own nm bytes ml rt) (X : Stand p l e R s m args below meth c T locs cells slots) {k0 : Nat} {v : Value} (hd : decode bytes pc = .ok (.aload k0, 2)) (hl : Ls[k0]? = some (.val v)) (hv : v.isRef = true) (k : Goes p e below E T m q Ls (v :: St)) : Goes p e below E T m pc Ls St := by
  subst hq
  exact k.back fun t kt => XS.aload (g := mkF m pc Ls St) X.here C.c_x rfl (hb C.c_by hd) hl hv kt
theorem g_istore (q : Nat) (hq : pc + 2 = q) (C : Ctx p s m meth c Z own nm bytes ml rt) (X : Stand p l e R s m args below meth c T locs cells slots) {k0 : Nat} {x : Int32} (v : Int32) (hv : x = v) (Ls' : Array Slot) (hd : decode bytes pc = .ok (.istore k0, 2)) (hl : storeLocals Ls k0 (.int v) = some Ls') (k : Goes p e below E T m q Ls' St) : Goes p e below E T m pc Ls (.int x :: St) := by
  subst hq
  exact k.back fun t kt => XS.istore (g := mkF m pc Ls (.int x :: St)) X.here C.c_x rfl (hb C.c_by hd) rfl (by subst hv; exact hl) kt
theorem g_astore (q : Nat) (hq : pc + 2 = q) (C : Ctx p s m meth c Z own nm bytes ml rt) (X : Stand p l e R s m args below meth c T locs cells slots) {k0 : Nat} {x : Value} (Ls' : Array Slot) (hd : decode bytes pc = .ok (.astore k0, 2)) (hv : x.isRef = true) (hl : storeLocals Ls k0 x = some Ls') (k : Goes p e below E T m q Ls' St) : Goes p e below E T m pc Ls (x :: St) := by
  subst hq
  exact k.back fun t kt => XS.astore (g := mkF m pc Ls (x :: St)) X.here C.c_x rfl (hb C.c_by hd) rfl hv hl kt
theorem g_dup (q : Nat) (hq : pc + 1 = q) (C : Ctx p s m meth c Z own nm bytes ml rt) (X : Stand p l e R s m args below meth c T locs cells slots) {v : Value} (hd : decode bytes pc = .ok (.dup, 1)) (hv : v.category = 1) (k : Goes p e below E T m q Ls (v :: v :: St)) : Goes p e below E T m pc Ls (v :: St) := by
  subst hq
  exact k.back fun t kt => XS.dup (g := mkF m pc Ls (v :: St)) X.here C.c_x rfl (hb C.c_by hd) rfl hv kt
theorem g_goto (q : Nat) (C : Ctx p s m meth c Z own nm bytes ml rt) (X : Stand p l e R s m args below meth c T locs cells slots) {o : Int} (hd : decode bytes pc = .ok (.goto o, 3)) (ho : 0 ≤ (pc : Int) + o) (hp : ((pc : Int) + o).toNat = q) (k : Goes p e below E T m q Ls St) : Goes p e below E T m pc Ls St :=
  k.back fun t kt => XS.goto (g := mkF m pc Ls St) X.here C.c_x rfl (pc0 := pc) (pc' := q) rfl (hb C.c_by hd) ho hp kt
theorem own_z0 : (0 : Int32).toInt = 0 := rfl
theorem g_icmp_lt_t (q : Nat) (C : Ctx p s m meth c Z own nm bytes ml rt) (X : Stand p l e R s m args below meth c T locs cells slots) {o : Int} {x y : Int32} (hd : decode bytes pc = .ok (.if_icmp .lt o, 3)) (ho : 0 ≤ (pc : Int) + o) (hp : ((pc : Int) + o).toNat = q) (h : x.toInt < y.toInt) (k : Goes p e below E T m q Ls St) : Goes p e below E T m pc Ls (.int y :: .int x :: St) :=
  k.back fun t kt => XS.icmpYes (g := mkF m pc Ls (.int y :: .int x :: St)) X.here C.c_x rfl (pc0 := pc) (pc' := q) rfl (hb C.c_by hd) rfl (tlt (Int32.lt_iff_toInt_lt.mpr h)).1 ho hp kt
theorem g_icmp_lt_f (q : Nat) (hq : pc + 3 = q) (C : Ctx p s m meth c Z own nm bytes ml rt) (X : Stand p l e R s m args below meth c T locs cells slots) {o : Int} {x y : Int32} (hd : decode bytes pc = .ok (.if_icmp .lt o, 3)) (h : ¬ x.toInt < y.toInt) (k : Goes p e below E T m q Ls St) : Goes p e below E T m pc Ls (.int y :: .int x :: St) := by
  subst hq
  exact k.back fun t kt => XS.icmpNo (g := mkF m pc Ls (.int y :: .int x :: St)) X.here C.c_x rfl (hb C.c_by hd) rfl (flt (fun r => h (Int32.lt_iff_toInt_lt.mp r))).1 kt
theorem g_icmp_ge_t (q : Nat) (C : Ctx p s m meth c Z own nm bytes ml rt) (X : Stand p l e R s m args below meth c T locs cells slots) {o : Int} {x y : Int32} (hd : decode bytes pc = .ok (.if_icmp .ge o, 3)) (ho : 0 ≤ (pc : Int) + o) (hp : ((pc : Int) + o).toNat = q) (h : ¬ x.toInt < y.toInt) (k : Goes p e below E T m q Ls St) : Goes p e below E T m pc Ls (.int y :: .int x :: St) :=
  k.back fun t kt => XS.icmpYes (g := mkF m pc Ls (.int y :: .int x :: St)) X.here C.c_x rfl (pc0 := pc) (pc' := q) rfl (hb C.c_by hd) rfl (flt (fun r => h (Int32.lt_iff_toInt_lt.mp r))).2.1 ho hp kt
theorem g_icmp_ge_f (q : Nat) (hq : pc + 3 = q) (C : Ctx p s m meth c Z own nm bytes ml rt) (X : Stand p l e R s m args below meth c T locs cells slots) {o : Int} {x y : Int32} (hd : decode bytes pc = .ok (.if_icmp .ge o, 3)) (h : x.toInt < y.toInt) (k : Goes p e below E T m q Ls St) : Goes p e below E T m pc Ls (.int y :: .int x :: St) := by
  subst hq
  exact k.back fun t kt => XS.icmpNo (g := mkF m pc Ls (.int y :: .int x :: St)) X.here C.c_x rfl (hb C.c_by hd) rfl (tlt (Int32.lt_iff_toInt_lt.mpr h)).2.1 kt
theorem g_icmp_eq_t (q : Nat) (C : Ctx p s m meth c Z own nm bytes ml rt) (X : Stand p l e R s m args below meth c T locs cells slots) {o : Int} {x y : Int32} (hd : decode bytes pc = .ok (.if_icmp .eq o, 3)) (ho : 0 ≤ (pc : Int) + o) (hp : ((pc : Int) + o).toNat = q) (h : x.toInt = y.toInt) (k : Goes p e below E T m q Ls St) : Goes p e below E T m pc Ls (.int y :: .int x :: St) :=
  k.back fun t kt => XS.icmpYes (g := mkF m pc Ls (.int y :: .int x :: St)) X.here C.c_x rfl (pc0 := pc) (pc' := q) rfl (hb C.c_by hd) rfl (teq (Int32.toInt_inj.mp h)).1 ho hp kt
theorem g_if_eq_f (q : Nat) (hq : pc + 3 = q) (C : Ctx p s m meth c Z own nm bytes ml rt) (X : Stand p l e R s m args below meth c T locs cells slots) {o : Int} {x : Int32} (hd : decode bytes pc = .ok (.ifCond .eq o, 3)) (h : ¬ x.toInt = 0) (k : Goes p e below E T m q Ls St) : Goes p e below E T m pc Ls (.int x :: St) := by
  subst hq
  exact k.back fun t kt => XS.ifNo (g := mkF m pc Ls (.int x :: St)) X.here C.c_x rfl (hb C.c_by hd) rfl ((if0 _ _).trans (feq (fun r => h (congrArg Int32.toInt r))).1) kt
theorem g_icmp_ne_t (q : Nat) (C : Ctx p s m meth c Z own nm bytes ml rt) (X : Stand p l e R s m args below meth c T locs cells slots) {o : Int} {x y : Int32} (hd : decode bytes pc = .ok (.if_icmp .ne o, 3)) (ho : 0 ≤ (pc : Int) + o) (hp : ((pc : Int) + o).toNat = q) (h : ¬ x.toInt = y.toInt) (k : Goes p e below E T m q Ls St) : Goes p e below E T m pc Ls (.int y :: .int x :: St) :=
  k.back fun t kt => XS.icmpYes (g := mkF m pc Ls (.int y :: .int x :: St)) X.here C.c_x rfl (pc0 := pc) (pc' := q) rfl (hb C.c_by hd) rfl (feq (fun r => h (congrArg Int32.toInt r))).2 ho hp kt
theorem g_if_ne_t (q : Nat) (C : Ctx p s m meth c Z own nm bytes ml rt) (X : Stand p l e R s m args below meth c T locs cells slots) {o : Int} {x : Int32} (hd : decode bytes pc = .ok (.ifCond .ne o, 3)) (ho : 0 ≤ (pc : Int) + o) (hp : ((pc : Int) + o).toNat = q) (h : ¬ x.toInt = 0) (k : Goes p e below E T m q Ls St) : Goes p e below E T m pc Ls (.int x :: St) :=
  k.back fun t kt => XS.ifYes (g := mkF m pc Ls (.int x :: St)) X.here C.c_x rfl (pc0 := pc) (pc' := q) rfl (hb C.c_by hd) rfl ((if0 _ _).trans (feq (fun r => h (congrArg Int32.toInt r))).2) ho hp kt
theorem g_icmp_ne_f (q : Nat) (hq : pc + 3 = q) (C : Ctx p s m meth c Z own nm bytes ml rt) (X : Stand p l e R s m args below meth c T locs cells slots) {o : Int} {x y : Int32} (hd : decode bytes pc = .ok (.if_icmp .ne o, 3)) (h : x.toInt = y.toInt) (k : Goes p e below E T m q Ls St) : Goes p e below E T m pc Ls (.int y :: .int x :: St) := by
  subst hq
  exact k.back fun t kt => XS.icmpNo (g := mkF m pc Ls (.int y :: .int x :: St)) X.here C.c_x rfl (hb C.c_by hd) rfl (teq (Int32.toInt_inj.mp h)).2 kt
theorem g_if_ne_f (q : Nat) (hq : pc + 3 = q) (C : Ctx p s m meth c Z own nm bytes ml rt) (X : Stand p l e R s m args below meth c T locs cells slots) {o : Int} {x : Int32} (hd : decode bytes pc = .ok (.ifCond .ne o, 3)) (h : x.toInt = 0) (k : Goes p e below E T m q Ls St) : Goes p e below E T m pc Ls (.int x :: St) := by
  subst hq
  exact k.back fun t kt => XS.ifNo (g := mkF m pc Ls (.int x :: St)) X.here C.c_x rfl (hb C.c_by hd) rfl ((if0 _ _).trans (teq (Int32.toInt_inj.mp h)).2) kt
theorem g_ldc (q : Nat) (hq : pc + 2 = q) (C : Ctx p s m meth c Z own nm bytes ml rt) (X : Stand p l e R s m args below meth c T locs cells slots) {i : Nat} {v : Int32} (w : (Cond.constant own i v).before a0 Z = true) (hd : decode bytes pc = .ok (.ldc i, 2)) (k : Goes p e below E T m q Ls (.int v :: St)) : Goes p e below E T m pc Ls St := by
  subst hq
  exact k.back fun t kt => X.ldcInt C.c_x C.c_own (mvT C.c_z w) (g := mkF m pc Ls St) rfl (hb C.c_by hd) _ kt
theorem g_retW (C : Ctx p s m meth c Z own nm bytes ml rt) (X : Stand p l e R s m args below meth c T locs cells slots) {w : Value} {t : FieldType} {i : Instr} (hrt : rt = some t) (hn : narrow t w = w)
    (hi : (i = .ireturn ∧ (t = .int ∨ t = .boolean ∨ t = .byte ∨ t = .char ∨ t = .short) ∧ ∃ z, w = .int z) ∨ (i = .lreturn ∧ t = .long ∧ ∃ z, w = .long z) ∨ (i = .dreturn ∧ t = .double ∧ ∃ z, w = .double z) ∨ (i = .freturn ∧ t = .float ∧ ∃ z, w = .float z) ∨ (i = .areturn ∧ t.isReference = true ∧ w.isRef = true))
    (hd : decode bytes pc = .ok (i, 1)) (eT : T.heap = h) (hc : cells ≤ CC) (hs : slots ≤ SS) (hQ : Q (some w) h locs) : Goes p e below (EndN s Q CC SS) T m pc Ls (w :: St) := by
  obtain ⟨fs, hr, hrun, hended, hW, hsame⟩ := X.leave (v := some w) (fun r => by rw [C.c_rt, hrt] at r; cases r) C.c_lk
  subst eT
  exact ⟨_, _, retOut X C.c_x (C.c_rt.trans hrt) hn hi (hb C.c_by hd) hr, hrun, hended, _, _, rfl, hQ, ⟨_, rfl⟩, hW, hsame.mono hc hs⟩
theorem g_retI (C : Ctx p s m meth c Z own nm bytes ml rt) (X : Stand p l e R s m args below meth c T locs cells slots) {z : Int32} (hrt : rt = some .int) (hd : decode bytes pc = .ok (.ireturn, 1)) (eT : T.heap = h) (hc : cells ≤ CC) (hs : slots ≤ SS) (hQ : Q (some (.int z)) h locs) : Goes p e below (EndN s Q CC SS) T m pc Ls (.int z :: St) :=
  g_retW C X hrt rfl (Or.inl ⟨rfl, Or.inl rfl, z, rfl⟩) hd eT hc hs hQ
theorem g_retN (C : Ctx p s m meth c Z own nm bytes ml rt) (X : Stand p l e R s m args below meth c T locs cells slots) {z z' : Int32} {t : FieldType} (hrt : rt = some t) (ht : t = .boolean ∨ t = .byte ∨ t = .char ∨ t = .short) (hd : decode bytes pc = .ok (.ireturn, 1)) (eT : T.heap = h) (hc : cells ≤ CC) (hs : slots ≤ SS) (hz : nar t z = z') (hQ : Q (some (.int z')) h locs) : Goes p e below (EndN s Q CC SS) T m pc Ls (.int z :: St) := by
  obtain ⟨fs, hr, hrun, hended, hW, hsame⟩ := X.leave (v := some (.int (nar t z))) (fun r => by rw [C.c_rt, hrt] at r; cases r) C.c_lk
  subst eT
  subst hz
  exact ⟨_, _, retN X C.c_x (C.c_rt.trans hrt) ht (hb C.c_by hd) hr, hrun, hended, _, _, rfl, hQ, ⟨_, rfl⟩, hW, hsame.mono hc hs⟩
def Ba (Z : State) (h : Heap) (a : Addr) (ty : FieldType) (n : Nat) (f : Nat → Int32) : Prop := ∃ c : Cell, Arr Z h a c ty ∧ c.slots.size = n ∧ n < 2 ^ 31 ∧ (∀ k, k < n → c.slots[k]? = some (.int (f k)))
def upd (f : Nat → Int32) (j : Nat) (v : Int32) : Nat → Int32 := fun k => bif Nat.beq k j then v else f k
theorem upd_same {f : Nat → Int32} {j k : Nat} {v : Int32} (q : k = j) : upd f j v k = v := by subst q; simp [upd]
theorem upd_ne {f : Nat → Int32} {j k : Nat} {v : Int32} (q : k ≠ j) : upd f j v k = f k := by
  have : Nat.beq k j = false := by
    cases hb : Nat.beq k j with
    | false => rfl
    | true => exact absurd (Nat.eq_of_beq_eq_true hb) q
  show (bif Nat.beq k j then v else f k) = f k
  rw [this]; rfl
theorem upd_eq (f : Nat → Int32) (j k : Nat) (v : Int32) : upd f j v k = if k = j then v else f k := by
  split
  · rename_i q; exact upd_same q
  · rename_i q; exact upd_ne q
theorem Ba.lt {a : Addr} {ty : FieldType} {n : Nat} {f : Nat → Int32} (F : Ba Z h a ty n f) : a < h.size := by obtain ⟨c, A, -⟩ := F; exact A.lt
theorem Ba.ext {h' : Heap} {a : Addr} {ty : FieldType} {n : Nat} {f : Nat → Int32} (F : Ba Z h a ty n f) (E : Ext h h') : Ba Z h' a ty n f := by obtain ⟨c, A, r⟩ := F; exact ⟨c, A.ext E, r⟩
theorem Ba.other {h' : Heap} {a b : Addr} {ty : FieldType} {n sl : Nat} {v : Value} {f : Nat → Int32} (F : Ba Z h a ty n f) (W : Wr h h' b sl v) (q : a ≠ b) : Ba Z h' a ty n f := by obtain ⟨c, A, r⟩ := F; exact ⟨c, A.other W q, r⟩
theorem Ba.keep {h' : Heap} {a : Addr} {ty : FieldType} {n : Nat} {ws : List Addr} {f : Nat → Int32} (F : Ba Z h a ty n f) (K : Keep h h' ws) (q : a ∉ ws) : Ba Z h' a ty n f := by obtain ⟨c, A, r⟩ := F; exact ⟨c, ⟨K.2.1 a c A.1 q, A.2⟩, r⟩
theorem Ba.same {h' : Heap} {a : Addr} {ty : FieldType} {n j : Nat} {v : Int32} {f : Nat → Int32} (F : Ba Z h a ty n f) (W : Wr h h' a j (.int v)) : Ba Z h' a ty n (upd f j v) := by
  obtain ⟨c, A, hs, hn, hf⟩ := F
  refine ⟨_, A.same W, by simp [Cell.setSlot, hs], hn, fun k hk => ?_⟩
  rw [upd_eq]
  by_cases q : k = j
  · subst q; simp [Cell.setSlot, hs, hk]
  · rw [if_neg q]; simp only [Cell.setSlot]; rw [Array.getElem?_setIfInBounds_ne (Ne.symm q)]; exact hf k hk
theorem Ba.cong {a : Addr} {ty : FieldType} {n : Nat} {f f' : Nat → Int32} (F : Ba Z h a ty n f) (q : ∀ k, k < n → f k = f' k) : Ba Z h a ty n f' := by
  obtain ⟨c, A, hs, hn, hf⟩ := F
  exact ⟨c, A, hs, hn, fun k hk => by rw [← q k hk]; exact hf k hk⟩
theorem Ba.new {a : Addr} {cA : ClassId} {ty : FieldType} {z : Int32} {n : Nat} (A : Arr Z h a (newA cA ty z) ty) (hz : z.toInt = n) (hd : defaultValue ty = .int 0) : Ba Z h a ty n (fun _ => 0) := by
  have hr := rng32 z
  have hn : z.toNatClampNeg = n := by simp only [Int32.toNatClampNeg, hz]; rfl
  exact ⟨_, A, by rw [sz_new, hn], by omega, fun k hk => by simp [newA, hn, hk, hd]⟩
theorem own_clamp {j : Int32} {k : Nat} (hj : j.toInt = k) : j.toNatClampNeg = k ∧ ¬ j < 0 := by
  refine ⟨by simp only [Int32.toNatClampNeg, hj]; rfl, fun r => ?_⟩
  have := Int32.lt_iff_toInt_lt.mp r
  rw [hj, own_z0] at this; omega
theorem own_in {j : Int32} {k n : Nat} {c : Cell} (hs : c.slots.size = n) (hj : j.toInt = k) (hk : k < n) : ¬ (j < 0 ∨ c.slots.size ≤ j.toNatClampNeg) := by
  obtain ⟨h1, h2⟩ := own_clamp hj
  rw [h1, hs]; intro r; rcases r with r | r
  · exact h2 r
  · omega
theorem own_lenI {n : Nat} (hn : n < 2 ^ 31) : (n.toInt32).toInt = n := by
  have := len_toInt hn
  exact this
theorem g_newP (q : Nat) (hq : pc + 2 = q) (C : Ctx p s m meth c Z own nm bytes ml rt) (X : Stand p l e R s m args below meth c T locs cells slots) {aty : ArrayType} {z : Int32} (n : Nat) (hz : z.toInt = n) (cap : Nat) (hcap : n ≤ cap) (hb' : cap * 8 ≤ 536870912) (hdf : defaultValue (newarray.typeOf aty) = .int 0) (w : (Cond.arrayClass (newarray.typeOf aty)).before a0 Z = true) (eT : T.heap = h) (hd : decode bytes pc = .ok (.newarray aty, 2)) (hc : cells + 1 ≤ R.cells) (hl : slots + cap ≤ R.slots)
    (k : ∀ T' h' a, a = h.size → Stand p l e R s m args below meth c T' locs (cells + 1) (slots + cap) → T'.heap = h' → Ext h h' → Ba Z h' a (newarray.typeOf aty) n (fun _ => 0) → Goes p e below E T' m q Ls (.ref a :: St)) : Goes p e below E T m pc Ls (.int z :: St) := by
  subst hq
  obtain ⟨h1, h2⟩ := own_clamp hz
  obtain ⟨T', h', cA, X', e', E', A', st⟩ := newP X C.c_x C.c_z w eT (g := mkF m pc Ls (.int z :: St)) rfl (hb C.c_by hd) rfl h2 (cap := cap) (by rw [h1]; exact hcap) hb' hc hl
  exact (k T' h' _ rfl X' e' E' (Ba.new A' hz hdf)).back fun t kt => st t kt
theorem g_baload (q : Nat) (hq : pc + 1 = q) (C : Ctx p s m meth c Z own nm bytes ml rt) (X : Stand p l e R s m args below meth c T locs cells slots) {a : Addr} {n : Nat} {f : Nat → Int32} {j : Int32} (eT : T.heap = h) (F : Ba Z h a .byte n f) (i : Nat) (hj : j.toInt = i) (hi : i < n) (v : Int32) (hv : f i = v) (hd : decode bytes pc = .ok (.baload, 1)) (k : Goes p e below E T m q Ls (.int v :: St)) : Goes p e below E T m pc Ls (.int j :: .ref a :: St) := by
  subst hq
  obtain ⟨c0, A, hs, hn, hf⟩ := F
  exact k.back fun t kt => X.baloadBytes C.c_x (j := j) (v := .int v) (by rw [eT]; exact A.1) (State.isArrayOf_alike C.c_z.alike A.2.1) A.2.2 (own_in hs hj hi) (by rw [(own_clamp hj).1, ← hv]; exact hf i hi) (g := mkF m pc Ls (.int j :: .ref a :: St)) rfl rfl (hb C.c_by hd) t kt
theorem g_bastore (q : Nat) (hq : pc + 1 = q) (C : Ctx p s m meth c Z own nm bytes ml rt) (X : Stand p l e R s m args below meth c T locs cells slots) {a : Addr} {n : Nat} {f : Nat → Int32} {j x : Int32} (eT : T.heap = h) (F : Ba Z h a .byte n f) (i : Nat) (hj : j.toInt = i) (hi : i < n) (v : Int32) (hv : x.toInt8.toInt32 = v) (hd : decode bytes pc = .ok (.bastore, 1)) {n0 : Nat} (N : Fr n0 locs) (hn0 : n0 ≤ a)
    (k : ∀ T' h' locs', Stand p l e R s m args below meth c T' locs' cells slots → T'.heap = h' → Wr h h' a i (.int v) → Ba Z h' a .byte n (upd f i v) → Fr n0 locs' → Goes p e below E T' m q Ls St) : Goes p e below E T m pc Ls (.int x :: .int j :: .ref a :: St) := by
  subst hq hv
  have F0 := F
  obtain ⟨c0, A, hs, hn, hf⟩ := F
  obtain ⟨T', h', X', e', W', st⟩ := stB X C.c_x C.c_z eT A (j := j) (own_in hs hj hi) (g := mkF m pc Ls (.int x :: .int j :: .ref a :: St)) rfl rfl (hb C.c_by hd)
  rw [(own_clamp hj).1] at W' X'
  exact (k T' h' _ X' e' W' (F0.same W') (Fr.snoc X' N hn0)).back fun t kt => st t kt
theorem own_narByte {b : Int32} (h0 : -128 ≤ b.toInt) (h1 : b.toInt < 128) : b.toInt8.toInt32 = b := by
  have := c_i2b b
  exact Int32.toInt_inj.mp (by omega)
theorem own_fitB {x : Int32} (h0 : -128 ≤ x.toInt) (h1 : x.toInt < 128) : fits .byte (.int x) = true := by
  have e := own_narByte h0 h1
  rw [← e]; exact fits_nar_byte x

theorem g_callS (q : Nat) (hq : pc + 3 = q) (C : Ctx p s m meth c Z own nm bytes ml rt) (X : Stand p l e R s m args below meth c T locs cells slots) {y : MethodName} {bytes' : ByteArray} {maxL' : Nat} {ret' : Option FieldType} {rm : Room} {Q' : Option Value → Heap → List Loc → Prop} {i W : Nat} {argsL : List Value} (w1 : (Cond.methodLink own i y).before a0 Z = true) (w2 : (Cond.static y).before a0 Z = true) (wc : (Cond.code y bytes' maxL' ret').before a0 Z = true) (wz : (Cond.initialized y.cls).before a0 Z = true) (eT : T.heap = h) (M : MetFree l y (head1 [Cond.code y bytes' maxL' ret'] rm) (fun a' U => a' = argsL.toArray ∧ Z.Warmed39 U.vm ∧ U.heap = h) (fun _ _ _ _ _ => True) (fun _ U o U' => ∃ v L, o = .returned v ∧ Q' v U'.heap L ∧ FrameEnd U o U' L rm.cells rm.slots)) (hlen : ∀ sig, parseMethodDescriptor y.desc = some sig → argsL.length = sig.parameters.length) (hf : rm.frames + 1 ≤ R.frames) (hl : W + (maxL' + 11) + rm.locals ≤ R.locals) (hc : cells + rm.cells ≤ R.cells) (hsl : slots + rm.slots ≤ R.slots) (hsz : Ls.size = ml) (hW : (St.map fun v => v.category).sum ≤ W) (hy : y.cls ≠ "java/lang/invoke/MethodHandle" ∧ y.cls ≠ "java/lang/invoke/VarHandle") (hd : decode bytes pc = .ok (.invokestatic i, 3)) {St0 : List Value} (hst : St0 = argsL.reverse ++ St)
    (k : ∀ v T' L, Stand p l e R s m args below meth c T' (locs ++ L) (cells + rm.cells) (slots + rm.slots) → Q' v T'.heap L → Goes p e below E T' m q Ls (v.toList ++ St)) : Goes p e below E T m pc Ls St0 := by
  subst hq hst
  obtain ⟨v, _, ⟨T', L', k', n'⟩, -, X', ⟨Lc, hQ', l', y', z'⟩, st⟩ := Jvm.LawKit.callS X C.c_x (y := y) C.c_own (mvT C.c_z w1) (mvT C.c_z w2) (mvT C.c_z wz) (mvT C.c_z wc) hy (backOf (W := W) M C.c_z wc wz hf hl) (g := mkF m pc Ls (argsL.reverse ++ St)) rfl (hsz.trans C.c_ml.symm) (argsL := argsL) (rest := St) hlen rfl (by show 2 * 0 + _ ≤ _; omega) (hb C.c_by hd) (fun _ _ => ⟨rfl, eT, hc, hsl⟩)
  dsimp only [Pt.U, Pt.locs, Pt.cells, Pt.slots] at X' l' y' z' st hQ'
  subst l' y' z'
  exact (k v T' Lc X' hQ').back fun t kt => st t kt
end Own
section OwnArith
theorem own_mulc (x y : Int32) (k : Int) (hk : y.toInt = k) : ((x * y).toInt - x.toInt * k) % 4294967296 = 0 := hk ▸ c_imul x y
theorem own_mulc' (x y : Int32) (k : Int) (hk : x.toInt = k) : ((x * y).toInt - k * y.toInt) % 4294967296 = 0 := hk ▸ c_imul x y
theorem own_lmulc (x y : Int64) (k : Int) (hk : y.toInt = k) : ((x * y).toInt - x.toInt * k) % 18446744073709551616 = 0 := hk ▸ c_lmul x y
theorem own_lmulc' (x y : Int64) (k : Int) (hk : x.toInt = k) : ((x * y).toInt - k * y.toInt) % 18446744073709551616 = 0 := hk ▸ c_lmul x y
theorem own_bvor (x y : BitVec 32) : (x ||| y) + (x &&& y) = x + y := by
  have h1 : x = (x &&& y) + (x &&& ~~~y) := by
    rw [BitVec.add_eq_or_of_and_eq_zero]
    · ext i; simp; cases x[i] <;> cases y[i] <;> rfl
    · ext i; simp; cases x[i] <;> cases y[i] <;> simp
  have h2 : x ||| y = y + (x &&& ~~~y) := by
    rw [BitVec.add_eq_or_of_and_eq_zero]
    · ext i; simp; cases x[i] <;> cases y[i] <;> rfl
    · ext i; simp; cases x[i] <;> cases y[i] <;> simp
  rw [h2]
  conv => rhs; rw [h1]
  ac_rfl
theorem own_or0 (x y : Int32) : (x ||| y) + (x &&& y) = x + y := Int32.toBitVec_inj.mp (by simpa using own_bvor x.toBitVec y.toBitVec)
theorem own_or (x y : Int32) : ((x ||| y).toInt + (x &&& y).toInt - (x.toInt + y.toInt)) % 4294967296 = 0 := by
  have h1 := c_iadd (x ||| y) (x &&& y)
  have h2 := c_iadd x y
  rw [own_or0] at h1; omega
theorem own_bvblk (x m a b : BitVec 32) (h1 : m ||| a = b) (h2 : m &&& a = 0#32) : (x &&& m) + (x &&& a) = x &&& b := by
  rw [BitVec.add_eq_or_of_and_eq_zero, ← h1]
  · ext i; simp; cases x[i] <;> simp
  · have : (x &&& m) &&& (x &&& a) = x &&& (m &&& a) := by ext i; simp; cases x[i] <;> simp
    rw [this, h2]; simp
theorem own_blk (x m a b : Int32) (h1 : m ||| a = b) (h2 : m &&& a = 0) : ((x &&& m).toInt + (x &&& a).toInt - (x &&& b).toInt) % 4294967296 = 0 := by
  have e : (x &&& m) + (x &&& a) = x &&& b := Int32.toBitVec_inj.mp (by
    have q1 := congrArg Int32.toBitVec h1
    have q2 := congrArg Int32.toBitVec h2
    simpa using own_bvblk x.toBitVec m.toBitVec a.toBitVec b.toBitVec (by simpa using q1) (by simpa using q2))
  have := c_iadd (x &&& m) (x &&& a)
  rw [e] at this; omega
theorem own_andM1 (x : Int32) : x &&& (-1) = x := Int32.toBitVec_inj.mp (by ext i; simp)
theorem own_narZ {b : Int32} (hb : b.toInt = 0 ∨ b.toInt = 1) : nar .boolean b = b := by
  have : b = 0 ∨ b = 1 := by
    rcases hb with q | q
    · exact Or.inl (Int32.toInt_inj.mp q)
    · exact Or.inr (Int32.toInt_inj.mp q)
  rcases this with rfl | rfl <;> decide
theorem own_narC {b : Int32} (h0 : 0 ≤ b.toInt) (h1 : b.toInt < 65536) : nar .char b = b := by
  have := c_i2c b
  exact Int32.toInt_inj.mp (by show b.toUInt32.toUInt16.toUInt32.toInt32.toInt = _; omega)
theorem own_narB {b : Int32} (h0 : -128 ≤ b.toInt) (h1 : b.toInt < 128) : nar .byte b = b := by
  have := c_i2b b
  exact Int32.toInt_inj.mp (by show b.toInt8.toInt32.toInt = _; omega)
theorem own_eq {x y : Int32} (q : x.toInt = y.toInt) : x = y := Int32.toInt_inj.mp q
theorem own_eqL {x y : Int64} (q : x.toInt = y.toInt) : x = y := Int64.toInt_inj.mp q
end OwnArith


theorem d1_0 : decode prog_60_method_2_code 0 = .ok (.iload_n 0, 1) := by decide +kernel
theorem d1_1 : decode prog_60_method_2_code 1 = .ok (.sipush 128, 3) := by decide +kernel
theorem d1_4 : decode prog_60_method_2_code 4 = .ok (.if_icmp .ge 10, 3) := by decide +kernel
theorem d1_7 : decode prog_60_method_2_code 7 = .ok (.aload_n 1, 1) := by decide +kernel
theorem d1_8 : decode prog_60_method_2_code 8 = .ok (.iload_n 2, 1) := by decide +kernel
theorem d1_9 : decode prog_60_method_2_code 9 = .ok (.iload_n 0, 1) := by decide +kernel
theorem d1_10 : decode prog_60_method_2_code 10 = .ok (.i2b, 1) := by decide +kernel
theorem d1_11 : decode prog_60_method_2_code 11 = .ok (.bastore, 1) := by decide +kernel
theorem d1_12 : decode prog_60_method_2_code 12 = .ok (.iconst 1, 1) := by decide +kernel
theorem d1_13 : decode prog_60_method_2_code 13 = .ok (.ireturn, 1) := by decide +kernel
theorem pn_25196549 : plainName "com/example/fieldpare/fieldpare/Utf8" = true := by first | (simp [plainName, overriddenIn]; done) | decide +kernel
theorem ef_1_1 (m : MethodId) (p0 : Int32) (b1 : Addr) (p2 : Int32) : entryFrame m #[(.int p0), (.ref b1), (.int p2)] 3 = mkF m 0 #[.val (.int p0), .val (.ref b1), .val (.int p2)] [] := by first | (simp [entryFrame, mkF, argsToLocals, Value.category]; done) | rfl
def Q1_1 (Z : State) (p0 : Int32) (b1 : Addr) (p2 : Int32) (f : Nat → Int32) (n : Nat) (h0 : Heap) (n0 : Nat) (v : Option Value) (h : Heap) (L : List Loc) : Prop := ∃ f' : Nat → Int32, v = some (.int 1) ∧ ((f' n).toInt = p0.toInt) ∧ (∀ k, (k < n ∨ n + 1 ≤ k) → (f' k).toInt = (f k).toInt) ∧ Fr n0 L ∧ Keep h0 h [b1] ∧ Ba Z h b1 .byte 8 f'
set_option maxRecDepth 65536 in
set_option maxHeartbeats 40000000 in
theorem rm1_1 (l : Launch) (Z : State) (a0 : Array Value) (hw : ∀ d ∈ tables_1, d.before a0 Z = true) (ws : List Jvm.Cond) (p0 : Int32) (b1 : Addr) (p2 : Int32) (f : Nat → Int32) (n : Nat) (h0 : Heap) (n0 : Nat) (Z0 : n0 ≤ h0.size) (B_b1 : Ba Z h0 b1 .byte 8 f) (hn : p2.toInt = n) (hn8 : n + 1 ≤ 8) (hc : 0 ≤ p0.toInt ∧ p0.toInt < 128) (g_b1 : n0 ≤ b1) :
    MetFree l (⟨"com/example/fieldpare/fieldpare/Utf8", "encode", "(I[BI)I"⟩ : MethodName) (head1 (Jvm.Cond.code (⟨"com/example/fieldpare/fieldpare/Utf8", "encode", "(I[BI)I"⟩ : MethodName) prog_60_method_2_code 3 (some .int) :: ws) ({ frames := 0, cells := 0, slots := 0, locals := 0 } : Room)) (fun a U => a = #[(.int p0), (.ref b1), (.int p2)] ∧ Z.Warmed39 U.vm ∧ U.heap = h0) (fun _ _ _ _ _ => True) (fun _ U o U' => ∃ v L, o = .returned v ∧ Q1_1 Z p0 b1 p2 f n h0 n0 v U'.heap L ∧ FrameEnd U o U' L ({ frames := 0, cells := 0, slots := 0, locals := 0 } : Room).cells ({ frames := 0, cells := 0, slots := 0, locals := 0 } : Room).slots) := by
  refine MetFree.of_bodySF (plainFor_of_name pn_25196549) hisR ?_
  intro p e s m args below meth c s₁ Bd hml0 hP hK
  obtain ⟨rfl, hZ, hh⟩ := hP
  have C : Ctx p s m meth c Z "com/example/fieldpare/fieldpare/Utf8" "encode" prog_60_method_2_code 3 (some .int) := Ctx.of Bd hml0 hZ
  have X0 : Stand p l e ({ frames := 0, cells := 0, slots := 0, locals := 0 } : Room) s m #[(.int p0), (.ref b1), (.int p2)] below meth c s₁ [] 0 0 := Stand.of_body Bd
  have e0 : s₁.heap = h0 := by rw [← hh, Bd.state]; rfl
  have N0 := Fr.nil n0
  refine Goes.enter (ef_1_1 m p0 b1 p2) ?_
  clear hK hml0 hh
  refine g_iloadN 1 rfl C X0 d1_0 rfl ?_
  refine g_sipush 4 rfl C X0 (128 : Int32) d1_1 rfl ?_
  have fr1 := rng32 p0
  have fc2 : (128 : Int32).toInt = 128 := rfl
  have hb3 : p0.toInt < (128 : Int32).toInt := by omega
  refine g_icmp_ge_f 7 rfl C X0 d1_4 hb3 ?_
  refine g_aloadN 8 rfl C X0 d1_7 rfl rfl ?_
  refine g_iloadN 9 rfl C X0 d1_8 rfl ?_
  refine g_iloadN 10 rfl C X0 d1_9 rfl ?_
  refine g_i2b 11 rfl C X0 d1_10 ?_
  have fr4 := rng32 p2
  obtain ⟨w5, hw5⟩ : ∃ z : Int32, ((((p0).toInt8.toInt32)).toInt8.toInt32) = z := ⟨_, rfl⟩
  refine g_bastore 12 rfl C X0 e0 B_b1 (n) (by omega) (by omega) w5 hw5 d1_11 N0 g_b1 fun T6 h7 ls8 X9 e10 W11 B12 N13 => ?_
  have Zs14 := Nat.le_trans Z0 (Nat.le_of_eq W11.size.symm)
  have Kp15 : Keep h0 h7 [b1] := (Keep.refl h0 [b1]).wr W11 (Or.inl (List.mem_of_getElem? (i := 0) rfl))
  refine g_iconst 13 rfl C X9 (1 : Int32) d1_12 rfl ?_
  have fr16 := rng32 w5
  have fo17 := c_i2b p0
  have fo18 := c_i2b ((p0).toInt8.toInt32)
  have fe19 : ((((p0).toInt8.toInt32)).toInt8.toInt32).toInt = w5.toInt := congrArg Int32.toInt hw5
  have hv20 : ((upd f (n) w5) n).toInt = w5.toInt := congrArg Int32.toInt (upd_same (by omega))
  exact g_retI C X9 rfl d1_13 e10 (by decide) (by decide) ⟨_, rfl, (by omega), (fun k hk => congrArg Int32.toInt (upd_ne (by omega))), N13, Kp15, B12⟩
theorem d1_14 : decode prog_60_method_2_code 14 = .ok (.iload_n 0, 1) := by decide +kernel
theorem d1_15 : decode prog_60_method_2_code 15 = .ok (.sipush 2048, 3) := by decide +kernel
theorem d1_18 : decode prog_60_method_2_code 18 = .ok (.if_icmp .ge 31, 3) := by decide +kernel
theorem d1_21 : decode prog_60_method_2_code 21 = .ok (.aload_n 1, 1) := by decide +kernel
theorem d1_22 : decode prog_60_method_2_code 22 = .ok (.iload_n 2, 1) := by decide +kernel
theorem d1_23 : decode prog_60_method_2_code 23 = .ok (.sipush 192, 3) := by decide +kernel
theorem d1_26 : decode prog_60_method_2_code 26 = .ok (.iload_n 0, 1) := by decide +kernel
theorem d1_27 : decode prog_60_method_2_code 27 = .ok (.bipush 6, 2) := by decide +kernel
theorem d1_29 : decode prog_60_method_2_code 29 = .ok (.ishr, 1) := by decide +kernel
theorem d1_30 : decode prog_60_method_2_code 30 = .ok (.ior, 1) := by decide +kernel
theorem d1_31 : decode prog_60_method_2_code 31 = .ok (.i2b, 1) := by decide +kernel
theorem d1_32 : decode prog_60_method_2_code 32 = .ok (.bastore, 1) := by decide +kernel
theorem d1_33 : decode prog_60_method_2_code 33 = .ok (.aload_n 1, 1) := by decide +kernel
theorem d1_34 : decode prog_60_method_2_code 34 = .ok (.iload_n 2, 1) := by decide +kernel
theorem d1_35 : decode prog_60_method_2_code 35 = .ok (.iconst 1, 1) := by decide +kernel
theorem d1_36 : decode prog_60_method_2_code 36 = .ok (.iadd, 1) := by decide +kernel
theorem d1_37 : decode prog_60_method_2_code 37 = .ok (.sipush 128, 3) := by decide +kernel
theorem d1_40 : decode prog_60_method_2_code 40 = .ok (.iload_n 0, 1) := by decide +kernel
theorem d1_41 : decode prog_60_method_2_code 41 = .ok (.bipush 63, 2) := by decide +kernel
theorem d1_43 : decode prog_60_method_2_code 43 = .ok (.iand, 1) := by decide +kernel
theorem d1_44 : decode prog_60_method_2_code 44 = .ok (.ior, 1) := by decide +kernel
theorem d1_45 : decode prog_60_method_2_code 45 = .ok (.i2b, 1) := by decide +kernel
theorem d1_46 : decode prog_60_method_2_code 46 = .ok (.bastore, 1) := by decide +kernel
theorem d1_47 : decode prog_60_method_2_code 47 = .ok (.iconst 2, 1) := by decide +kernel
theorem d1_48 : decode prog_60_method_2_code 48 = .ok (.ireturn, 1) := by decide +kernel
theorem ef_1_2 (m : MethodId) (p0 : Int32) (b1 : Addr) (p2 : Int32) : entryFrame m #[(.int p0), (.ref b1), (.int p2)] 3 = mkF m 0 #[.val (.int p0), .val (.ref b1), .val (.int p2)] [] := by first | (simp [entryFrame, mkF, argsToLocals, Value.category]; done) | rfl
def Q1_2 (Z : State) (p0 : Int32) (b1 : Addr) (p2 : Int32) (f : Nat → Int32) (n : Nat) (h0 : Heap) (n0 : Nat) (v : Option Value) (h : Heap) (L : List Loc) : Prop := ∃ f' : Nat → Int32, v = some (.int 2) ∧ ((f' n).toInt = p0.toInt / 64 - 64 ∧ (f' (n + 1)).toInt = p0.toInt % 64 - 128) ∧ (∀ k, (k < n ∨ n + 2 ≤ k) → (f' k).toInt = (f k).toInt) ∧ Fr n0 L ∧ Keep h0 h [b1] ∧ Ba Z h b1 .byte 8 f'
set_option maxRecDepth 65536 in
set_option maxHeartbeats 40000000 in
theorem rm1_2 (l : Launch) (Z : State) (a0 : Array Value) (hw : ∀ d ∈ tables_1, d.before a0 Z = true) (ws : List Jvm.Cond) (p0 : Int32) (b1 : Addr) (p2 : Int32) (f : Nat → Int32) (n : Nat) (h0 : Heap) (n0 : Nat) (Z0 : n0 ≤ h0.size) (B_b1 : Ba Z h0 b1 .byte 8 f) (hn : p2.toInt = n) (hn8 : n + 2 ≤ 8) (hc : 128 ≤ p0.toInt ∧ p0.toInt < 2048) (g_b1 : n0 ≤ b1) :
    MetFree l (⟨"com/example/fieldpare/fieldpare/Utf8", "encode", "(I[BI)I"⟩ : MethodName) (head1 (Jvm.Cond.code (⟨"com/example/fieldpare/fieldpare/Utf8", "encode", "(I[BI)I"⟩ : MethodName) prog_60_method_2_code 3 (some .int) :: ws) ({ frames := 0, cells := 0, slots := 0, locals := 0 } : Room)) (fun a U => a = #[(.int p0), (.ref b1), (.int p2)] ∧ Z.Warmed39 U.vm ∧ U.heap = h0) (fun _ _ _ _ _ => True) (fun _ U o U' => ∃ v L, o = .returned v ∧ Q1_2 Z p0 b1 p2 f n h0 n0 v U'.heap L ∧ FrameEnd U o U' L ({ frames := 0, cells := 0, slots := 0, locals := 0 } : Room).cells ({ frames := 0, cells := 0, slots := 0, locals := 0 } : Room).slots) := by
  refine MetFree.of_bodySF (plainFor_of_name pn_25196549) hisR ?_
  intro p e s m args below meth c s₁ Bd hml0 hP hK
  obtain ⟨rfl, hZ, hh⟩ := hP
  have C : Ctx p s m meth c Z "com/example/fieldpare/fieldpare/Utf8" "encode" prog_60_method_2_code 3 (some .int) := Ctx.of Bd hml0 hZ
  have X0 : Stand p l e ({ frames := 0, cells := 0, slots := 0, locals := 0 } : Room) s m #[(.int p0), (.ref b1), (.int p2)] below meth c s₁ [] 0 0 := Stand.of_body Bd
  have e0 : s₁.heap = h0 := by rw [← hh, Bd.state]; rfl
  have N0 := Fr.nil n0
  refine Goes.enter (ef_1_2 m p0 b1 p2) ?_
  clear hK hml0 hh
  refine g_iloadN 1 rfl C X0 d1_0 rfl ?_
  refine g_sipush 4 rfl C X0 (128 : Int32) d1_1 rfl ?_
  have fr1 := rng32 p0
  have fc2 : (128 : Int32).toInt = 128 := rfl
  have hb3 : ¬ (p0.toInt < (128 : Int32).toInt) := by omega
  refine g_icmp_ge_t 14 C X0 d1_4 (by decide) (by decide) hb3 ?_
  refine g_iloadN 15 rfl C X0 d1_14 rfl ?_
  refine g_sipush 18 rfl C X0 (2048 : Int32) d1_15 rfl ?_
  have fc4 : (2048 : Int32).toInt = 2048 := rfl
  have hb5 : p0.toInt < (2048 : Int32).toInt := by omega
  refine g_icmp_ge_f 21 rfl C X0 d1_18 hb5 ?_
  refine g_aloadN 22 rfl C X0 d1_21 rfl rfl ?_
  refine g_iloadN 23 rfl C X0 d1_22 rfl ?_
  refine g_sipush 26 rfl C X0 (192 : Int32) d1_23 rfl ?_
  refine g_iloadN 27 rfl C X0 d1_26 rfl ?_
  refine g_bipush 29 rfl C X0 (6 : Int32) d1_27 rfl ?_
  refine g_ishr 30 rfl C X0 d1_29 ?_
  refine g_ior 31 rfl C X0 d1_30 ?_
  refine g_i2b 32 rfl C X0 d1_31 ?_
  have fr6 := rng32 p2
  obtain ⟨w7, hw7⟩ : ∃ z : Int32, ((((((192 : Int32) ||| (p0 >>> ((6 : Int32) &&& 31)))).toInt8.toInt32)).toInt8.toInt32) = z := ⟨_, rfl⟩
  refine g_bastore 33 rfl C X0 e0 B_b1 (n) (by omega) (by omega) w7 hw7 d1_32 N0 g_b1 fun T8 h9 ls10 X11 e12 W13 B14 N15 => ?_
  have Zs16 := Nat.le_trans Z0 (Nat.le_of_eq W13.size.symm)
  have Kp17 : Keep h0 h9 [b1] := (Keep.refl h0 [b1]).wr W13 (Or.inl (List.mem_of_getElem? (i := 0) rfl))
  refine g_aloadN 34 rfl C X11 d1_33 rfl rfl ?_
  refine g_iloadN 35 rfl C X11 d1_34 rfl ?_
  refine g_iconst 36 rfl C X11 (1 : Int32) d1_35 rfl ?_
  refine g_iadd 37 rfl C X11 d1_36 ?_
  refine g_sipush 40 rfl C X11 (128 : Int32) d1_37 rfl ?_
  refine g_iloadN 41 rfl C X11 d1_40 rfl ?_
  refine g_bipush 43 rfl C X11 (63 : Int32) d1_41 rfl ?_
  refine g_iand 44 rfl C X11 d1_43 ?_
  refine g_ior 45 rfl C X11 d1_44 ?_
  refine g_i2b 46 rfl C X11 d1_45 ?_
  have fc18 : (1 : Int32).toInt = 1 := rfl
  have fo19 := c_iadd p2 (1 : Int32)
  have fr20 := rng32 (p2 + (1 : Int32))
  obtain ⟨w21, hw21⟩ : ∃ z : Int32, ((((((128 : Int32) ||| (p0 &&& (63 : Int32)))).toInt8.toInt32)).toInt8.toInt32) = z := ⟨_, rfl⟩
  refine g_bastore 47 rfl C X11 e12 B14 (n + 1) (by omega) (by omega) w21 hw21 d1_46 N15 g_b1 fun T22 h23 ls24 X25 e26 W27 B28 N29 => ?_
  have Zs30 := Nat.le_trans Zs16 (Nat.le_of_eq W27.size.symm)
  have Kp31 : Keep h0 h23 [b1] := Kp17.wr W27 (Or.inl (List.mem_of_getElem? (i := 0) rfl))
  refine g_iconst 48 rfl C X25 (2 : Int32) d1_47 rfl ?_
  have fr32 := rng32 w7
  have fc33 : (192 : Int32).toInt = 192 := rfl
  have fc34 : (6 : Int32).toInt = 6 := rfl
  have fo35 : ((p0 >>> ((6 : Int32) &&& 31))).toInt = p0.toInt / 64 := c_ishr p0 (6 : Int32) 6 (by decide)
  have fo36 := c_or (192 : Int32) (p0 >>> ((6 : Int32) &&& 31)) 6 (by decide) 64 (by decide) (by omega) (by omega) (by omega)
  have fr37 := rng32 ((192 : Int32) ||| (p0 >>> ((6 : Int32) &&& 31)))
  have fo38 := c_i2b ((192 : Int32) ||| (p0 >>> ((6 : Int32) &&& 31)))
  have fo39 := c_i2b ((((192 : Int32) ||| (p0 >>> ((6 : Int32) &&& 31)))).toInt8.toInt32)
  have fe40 : ((((((192 : Int32) ||| (p0 >>> ((6 : Int32) &&& 31)))).toInt8.toInt32)).toInt8.toInt32).toInt = w7.toInt := congrArg Int32.toInt hw7
  have fr41 := rng32 w21
  have fc42 : (63 : Int32).toInt = 63 := rfl
  have fo43 : (p0 &&& (63 : Int32)).toInt = p0.toInt % 64 := c_mask p0 (63 : Int32) 6 (by decide) (by decide)
  have fo44 := c_or (128 : Int32) (p0 &&& (63 : Int32)) 7 (by decide) 128 (by decide) (by omega) (by omega) (by omega)
  have fr45 := rng32 ((128 : Int32) ||| (p0 &&& (63 : Int32)))
  have fo46 := c_i2b ((128 : Int32) ||| (p0 &&& (63 : Int32)))
  have fo47 := c_i2b ((((128 : Int32) ||| (p0 &&& (63 : Int32)))).toInt8.toInt32)
  have fe48 : ((((((128 : Int32) ||| (p0 &&& (63 : Int32)))).toInt8.toInt32)).toInt8.toInt32).toInt = w21.toInt := congrArg Int32.toInt hw21
  have hv49 : ((upd (upd f (n) w7) (n + 1) w21) n).toInt = w7.toInt := congrArg Int32.toInt ((upd_ne (by omega)).trans (upd_same (by omega)))
  have hv50 : ((upd (upd f (n) w7) (n + 1) w21) (n + 1)).toInt = w21.toInt := congrArg Int32.toInt (upd_same (by omega))
  exact g_retI C X25 rfl d1_48 e26 (by decide) (by decide) ⟨_, rfl, ⟨(by omega), (by omega)⟩, (fun k hk => congrArg Int32.toInt ((upd_ne (by omega)).trans (upd_ne (by omega)))), N29, Kp31, B28⟩
theorem d1_49 : decode prog_60_method_2_code 49 = .ok (.iload_n 0, 1) := by decide +kernel
theorem d1_50 : decode prog_60_method_2_code 50 = .ok (.ldc 7, 2) := by decide +kernel
theorem d1_52 : decode prog_60_method_2_code 52 = .ok (.if_icmp .ge 48, 3) := by decide +kernel
theorem d1_55 : decode prog_60_method_2_code 55 = .ok (.aload_n 1, 1) := by decide +kernel
theorem d1_56 : decode prog_60_method_2_code 56 = .ok (.iload_n 2, 1) := by decide +kernel
theorem d1_57 : decode prog_60_method_2_code 57 = .ok (.sipush 224, 3) := by decide +kernel
theorem d1_60 : decode prog_60_method_2_code 60 = .ok (.iload_n 0, 1) := by decide +kernel
theorem d1_61 : decode prog_60_method_2_code 61 = .ok (.bipush 12, 2) := by decide +kernel
theorem d1_63 : decode prog_60_method_2_code 63 = .ok (.ishr, 1) := by decide +kernel
theorem d1_64 : decode prog_60_method_2_code 64 = .ok (.ior, 1) := by decide +kernel
theorem d1_65 : decode prog_60_method_2_code 65 = .ok (.i2b, 1) := by decide +kernel
theorem d1_66 : decode prog_60_method_2_code 66 = .ok (.bastore, 1) := by decide +kernel
theorem d1_67 : decode prog_60_method_2_code 67 = .ok (.aload_n 1, 1) := by decide +kernel
theorem d1_68 : decode prog_60_method_2_code 68 = .ok (.iload_n 2, 1) := by decide +kernel
theorem d1_69 : decode prog_60_method_2_code 69 = .ok (.iconst 1, 1) := by decide +kernel
theorem d1_70 : decode prog_60_method_2_code 70 = .ok (.iadd, 1) := by decide +kernel
theorem d1_71 : decode prog_60_method_2_code 71 = .ok (.sipush 128, 3) := by decide +kernel
theorem d1_74 : decode prog_60_method_2_code 74 = .ok (.iload_n 0, 1) := by decide +kernel
theorem d1_75 : decode prog_60_method_2_code 75 = .ok (.bipush 6, 2) := by decide +kernel
theorem d1_77 : decode prog_60_method_2_code 77 = .ok (.ishr, 1) := by decide +kernel
theorem d1_78 : decode prog_60_method_2_code 78 = .ok (.bipush 63, 2) := by decide +kernel
theorem d1_80 : decode prog_60_method_2_code 80 = .ok (.iand, 1) := by decide +kernel
theorem d1_81 : decode prog_60_method_2_code 81 = .ok (.ior, 1) := by decide +kernel
theorem d1_82 : decode prog_60_method_2_code 82 = .ok (.i2b, 1) := by decide +kernel
theorem d1_83 : decode prog_60_method_2_code 83 = .ok (.bastore, 1) := by decide +kernel
theorem d1_84 : decode prog_60_method_2_code 84 = .ok (.aload_n 1, 1) := by decide +kernel
theorem d1_85 : decode prog_60_method_2_code 85 = .ok (.iload_n 2, 1) := by decide +kernel
theorem d1_86 : decode prog_60_method_2_code 86 = .ok (.iconst 2, 1) := by decide +kernel
theorem d1_87 : decode prog_60_method_2_code 87 = .ok (.iadd, 1) := by decide +kernel
theorem d1_88 : decode prog_60_method_2_code 88 = .ok (.sipush 128, 3) := by decide +kernel
theorem d1_91 : decode prog_60_method_2_code 91 = .ok (.iload_n 0, 1) := by decide +kernel
theorem d1_92 : decode prog_60_method_2_code 92 = .ok (.bipush 63, 2) := by decide +kernel
theorem d1_94 : decode prog_60_method_2_code 94 = .ok (.iand, 1) := by decide +kernel
theorem d1_95 : decode prog_60_method_2_code 95 = .ok (.ior, 1) := by decide +kernel
theorem d1_96 : decode prog_60_method_2_code 96 = .ok (.i2b, 1) := by decide +kernel
theorem d1_97 : decode prog_60_method_2_code 97 = .ok (.bastore, 1) := by decide +kernel
theorem d1_98 : decode prog_60_method_2_code 98 = .ok (.iconst 3, 1) := by decide +kernel
theorem d1_99 : decode prog_60_method_2_code 99 = .ok (.ireturn, 1) := by decide +kernel
theorem ef_1_3 (m : MethodId) (p0 : Int32) (b1 : Addr) (p2 : Int32) : entryFrame m #[(.int p0), (.ref b1), (.int p2)] 3 = mkF m 0 #[.val (.int p0), .val (.ref b1), .val (.int p2)] [] := by first | (simp [entryFrame, mkF, argsToLocals, Value.category]; done) | rfl
def Q1_3 (Z : State) (p0 : Int32) (b1 : Addr) (p2 : Int32) (f : Nat → Int32) (n : Nat) (h0 : Heap) (n0 : Nat) (v : Option Value) (h : Heap) (L : List Loc) : Prop := ∃ f' : Nat → Int32, v = some (.int 3) ∧ ((f' n).toInt = p0.toInt / 4096 - 32 ∧ (f' (n + 1)).toInt = p0.toInt / 64 % 64 - 128 ∧ (f' (n + 2)).toInt = p0.toInt % 64 - 128) ∧ (∀ k, (k < n ∨ n + 3 ≤ k) → (f' k).toInt = (f k).toInt) ∧ Fr n0 L ∧ Keep h0 h [b1] ∧ Ba Z h b1 .byte 8 f'
set_option maxRecDepth 65536 in
set_option maxHeartbeats 40000000 in
theorem rm1_3 (l : Launch) (Z : State) (a0 : Array Value) (hw : ∀ d ∈ tables_1, d.before a0 Z = true) (ws : List Jvm.Cond) (p0 : Int32) (b1 : Addr) (p2 : Int32) (f : Nat → Int32) (n : Nat) (h0 : Heap) (n0 : Nat) (Z0 : n0 ≤ h0.size) (B_b1 : Ba Z h0 b1 .byte 8 f) (hn : p2.toInt = n) (hn8 : n + 3 ≤ 8) (hc : 2048 ≤ p0.toInt ∧ p0.toInt < 65536) (g_b1 : n0 ≤ b1) :
    MetFree l (⟨"com/example/fieldpare/fieldpare/Utf8", "encode", "(I[BI)I"⟩ : MethodName) (head1 (Jvm.Cond.code (⟨"com/example/fieldpare/fieldpare/Utf8", "encode", "(I[BI)I"⟩ : MethodName) prog_60_method_2_code 3 (some .int) :: ws) ({ frames := 0, cells := 0, slots := 0, locals := 0 } : Room)) (fun a U => a = #[(.int p0), (.ref b1), (.int p2)] ∧ Z.Warmed39 U.vm ∧ U.heap = h0) (fun _ _ _ _ _ => True) (fun _ U o U' => ∃ v L, o = .returned v ∧ Q1_3 Z p0 b1 p2 f n h0 n0 v U'.heap L ∧ FrameEnd U o U' L ({ frames := 0, cells := 0, slots := 0, locals := 0 } : Room).cells ({ frames := 0, cells := 0, slots := 0, locals := 0 } : Room).slots) := by
  refine MetFree.of_bodySF (plainFor_of_name pn_25196549) hisR ?_
  intro p e s m args below meth c s₁ Bd hml0 hP hK
  obtain ⟨rfl, hZ, hh⟩ := hP
  have C : Ctx p s m meth c Z "com/example/fieldpare/fieldpare/Utf8" "encode" prog_60_method_2_code 3 (some .int) := Ctx.of Bd hml0 hZ
  have X0 : Stand p l e ({ frames := 0, cells := 0, slots := 0, locals := 0 } : Room) s m #[(.int p0), (.ref b1), (.int p2)] below meth c s₁ [] 0 0 := Stand.of_body Bd
  have e0 : s₁.heap = h0 := by rw [← hh, Bd.state]; rfl
  have N0 := Fr.nil n0
  refine Goes.enter (ef_1_3 m p0 b1 p2) ?_
  clear hK hml0 hh
  refine g_iloadN 1 rfl C X0 d1_0 rfl ?_
  refine g_sipush 4 rfl C X0 (128 : Int32) d1_1 rfl ?_
  have fr1 := rng32 p0
  have fc2 : (128 : Int32).toInt = 128 := rfl
  have hb3 : ¬ (p0.toInt < (128 : Int32).toInt) := by omega
  refine g_icmp_ge_t 14 C X0 d1_4 (by decide) (by decide) hb3 ?_
  refine g_iloadN 15 rfl C X0 d1_14 rfl ?_
  refine g_sipush 18 rfl C X0 (2048 : Int32) d1_15 rfl ?_
  have fc4 : (2048 : Int32).toInt = 2048 := rfl
  have hb5 : ¬ (p0.toInt < (2048 : Int32).toInt) := by omega
  refine g_icmp_ge_t 49 C X0 d1_18 (by decide) (by decide) hb5 ?_
  refine g_iloadN 50 rfl C X0 d1_49 rfl ?_
  refine g_ldc 52 rfl C X0 (hw _ (List.mem_of_getElem? (i := 12) rfl)) d1_50 ?_
  have fc6 : (65536 : Int32).toInt = 65536 := rfl
  have hb7 : p0.toInt < (65536 : Int32).toInt := by omega
  refine g_icmp_ge_f 55 rfl C X0 d1_52 hb7 ?_
  refine g_aloadN 56 rfl C X0 d1_55 rfl rfl ?_
  refine g_iloadN 57 rfl C X0 d1_56 rfl ?_
  refine g_sipush 60 rfl C X0 (224 : Int32) d1_57 rfl ?_
  refine g_iloadN 61 rfl C X0 d1_60 rfl ?_
  refine g_bipush 63 rfl C X0 (12 : Int32) d1_61 rfl ?_
  refine g_ishr 64 rfl C X0 d1_63 ?_
  refine g_ior 65 rfl C X0 d1_64 ?_
  refine g_i2b 66 rfl C X0 d1_65 ?_
  have fr8 := rng32 p2
  obtain ⟨w9, hw9⟩ : ∃ z : Int32, ((((((224 : Int32) ||| (p0 >>> ((12 : Int32) &&& 31)))).toInt8.toInt32)).toInt8.toInt32) = z := ⟨_, rfl⟩
  refine g_bastore 67 rfl C X0 e0 B_b1 (n) (by omega) (by omega) w9 hw9 d1_66 N0 g_b1 fun T10 h11 ls12 X13 e14 W15 B16 N17 => ?_
  have Zs18 := Nat.le_trans Z0 (Nat.le_of_eq W15.size.symm)
  have Kp19 : Keep h0 h11 [b1] := (Keep.refl h0 [b1]).wr W15 (Or.inl (List.mem_of_getElem? (i := 0) rfl))
  refine g_aloadN 68 rfl C X13 d1_67 rfl rfl ?_
  refine g_iloadN 69 rfl C X13 d1_68 rfl ?_
  refine g_iconst 70 rfl C X13 (1 : Int32) d1_69 rfl ?_
  refine g_iadd 71 rfl C X13 d1_70 ?_
  refine g_sipush 74 rfl C X13 (128 : Int32) d1_71 rfl ?_
  refine g_iloadN 75 rfl C X13 d1_74 rfl ?_
  refine g_bipush 77 rfl C X13 (6 : Int32) d1_75 rfl ?_
  refine g_ishr 78 rfl C X13 d1_77 ?_
  refine g_bipush 80 rfl C X13 (63 : Int32) d1_78 rfl ?_
  refine g_iand 81 rfl C X13 d1_80 ?_
  refine g_ior 82 rfl C X13 d1_81 ?_
  refine g_i2b 83 rfl C X13 d1_82 ?_
  have fc20 : (1 : Int32).toInt = 1 := rfl
  have fo21 := c_iadd p2 (1 : Int32)
  have fr22 := rng32 (p2 + (1 : Int32))
  obtain ⟨w23, hw23⟩ : ∃ z : Int32, ((((((128 : Int32) ||| ((p0 >>> ((6 : Int32) &&& 31)) &&& (63 : Int32)))).toInt8.toInt32)).toInt8.toInt32) = z := ⟨_, rfl⟩
  refine g_bastore 84 rfl C X13 e14 B16 (n + 1) (by omega) (by omega) w23 hw23 d1_83 N17 g_b1 fun T24 h25 ls26 X27 e28 W29 B30 N31 => ?_
  have Zs32 := Nat.le_trans Zs18 (Nat.le_of_eq W29.size.symm)
  have Kp33 : Keep h0 h25 [b1] := Kp19.wr W29 (Or.inl (List.mem_of_getElem? (i := 0) rfl))
  refine g_aloadN 85 rfl C X27 d1_84 rfl rfl ?_
  refine g_iloadN 86 rfl C X27 d1_85 rfl ?_
  refine g_iconst 87 rfl C X27 (2 : Int32) d1_86 rfl ?_
  refine g_iadd 88 rfl C X27 d1_87 ?_
  refine g_sipush 91 rfl C X27 (128 : Int32) d1_88 rfl ?_
  refine g_iloadN 92 rfl C X27 d1_91 rfl ?_
  refine g_bipush 94 rfl C X27 (63 : Int32) d1_92 rfl ?_
  refine g_iand 95 rfl C X27 d1_94 ?_
  refine g_ior 96 rfl C X27 d1_95 ?_
  refine g_i2b 97 rfl C X27 d1_96 ?_
  have fc34 : (2 : Int32).toInt = 2 := rfl
  have fo35 := c_iadd p2 (2 : Int32)
  have fr36 := rng32 (p2 + (2 : Int32))
  obtain ⟨w37, hw37⟩ : ∃ z : Int32, ((((((128 : Int32) ||| (p0 &&& (63 : Int32)))).toInt8.toInt32)).toInt8.toInt32) = z := ⟨_, rfl⟩
  refine g_bastore 98 rfl C X27 e28 B30 (n + 2) (by omega) (by omega) w37 hw37 d1_97 N31 g_b1 fun T38 h39 ls40 X41 e42 W43 B44 N45 => ?_
  have Zs46 := Nat.le_trans Zs32 (Nat.le_of_eq W43.size.symm)
  have Kp47 : Keep h0 h39 [b1] := Kp33.wr W43 (Or.inl (List.mem_of_getElem? (i := 0) rfl))
  refine g_iconst 99 rfl C X41 (3 : Int32) d1_98 rfl ?_
  have fr48 := rng32 w9
  have fc49 : (224 : Int32).toInt = 224 := rfl
  have fc50 : (12 : Int32).toInt = 12 := rfl
  have fo51 : ((p0 >>> ((12 : Int32) &&& 31))).toInt = p0.toInt / 4096 := c_ishr p0 (12 : Int32) 12 (by decide)
  have fo52 := c_or (224 : Int32) (p0 >>> ((12 : Int32) &&& 31)) 5 (by decide) 32 (by decide) (by omega) (by omega) (by omega)
  have fr53 := rng32 ((224 : Int32) ||| (p0 >>> ((12 : Int32) &&& 31)))
  have fo54 := c_i2b ((224 : Int32) ||| (p0 >>> ((12 : Int32) &&& 31)))
  have fo55 := c_i2b ((((224 : Int32) ||| (p0 >>> ((12 : Int32) &&& 31)))).toInt8.toInt32)
  have fe56 : ((((((224 : Int32) ||| (p0 >>> ((12 : Int32) &&& 31)))).toInt8.toInt32)).toInt8.toInt32).toInt = w9.toInt := congrArg Int32.toInt hw9
  have fr57 := rng32 w23
  have fc58 : (6 : Int32).toInt = 6 := rfl
  have fo59 : ((p0 >>> ((6 : Int32) &&& 31))).toInt = p0.toInt / 64 := c_ishr p0 (6 : Int32) 6 (by decide)
  have fc60 : (63 : Int32).toInt = 63 := rfl
  have fo61 : ((p0 >>> ((6 : Int32) &&& 31)) &&& (63 : Int32)).toInt = (p0 >>> ((6 : Int32) &&& 31)).toInt % 64 := c_mask (p0 >>> ((6 : Int32) &&& 31)) (63 : Int32) 6 (by decide) (by decide)
  have fo62 := c_or (128 : Int32) ((p0 >>> ((6 : Int32) &&& 31)) &&& (63 : Int32)) 7 (by decide) 128 (by decide) (by omega) (by omega) (by omega)
  have fr63 := rng32 ((128 : Int32) ||| ((p0 >>> ((6 : Int32) &&& 31)) &&& (63 : Int32)))
  have fo64 := c_i2b ((128 : Int32) ||| ((p0 >>> ((6 : Int32) &&& 31)) &&& (63 : Int32)))
  have fo65 := c_i2b ((((128 : Int32) ||| ((p0 >>> ((6 : Int32) &&& 31)) &&& (63 : Int32)))).toInt8.toInt32)
  have fe66 : ((((((128 : Int32) ||| ((p0 >>> ((6 : Int32) &&& 31)) &&& (63 : Int32)))).toInt8.toInt32)).toInt8.toInt32).toInt = w23.toInt := congrArg Int32.toInt hw23
  have fr67 := rng32 w37
  have fo68 : (p0 &&& (63 : Int32)).toInt = p0.toInt % 64 := c_mask p0 (63 : Int32) 6 (by decide) (by decide)
  have fo69 := c_or (128 : Int32) (p0 &&& (63 : Int32)) 7 (by decide) 128 (by decide) (by omega) (by omega) (by omega)
  have fr70 := rng32 ((128 : Int32) ||| (p0 &&& (63 : Int32)))
  have fo71 := c_i2b ((128 : Int32) ||| (p0 &&& (63 : Int32)))
  have fo72 := c_i2b ((((128 : Int32) ||| (p0 &&& (63 : Int32)))).toInt8.toInt32)
  have fe73 : ((((((128 : Int32) ||| (p0 &&& (63 : Int32)))).toInt8.toInt32)).toInt8.toInt32).toInt = w37.toInt := congrArg Int32.toInt hw37
  have hv74 : ((upd (upd (upd f (n) w9) (n + 1) w23) (n + 2) w37) n).toInt = w9.toInt := congrArg Int32.toInt ((upd_ne (by omega)).trans ((upd_ne (by omega)).trans (upd_same (by omega))))
  have hv75 : ((upd (upd (upd f (n) w9) (n + 1) w23) (n + 2) w37) (n + 1)).toInt = w23.toInt := congrArg Int32.toInt ((upd_ne (by omega)).trans (upd_same (by omega)))
  have hv76 : ((upd (upd (upd f (n) w9) (n + 1) w23) (n + 2) w37) (n + 2)).toInt = w37.toInt := congrArg Int32.toInt (upd_same (by omega))
  exact g_retI C X41 rfl d1_99 e42 (by decide) (by decide) ⟨_, rfl, ⟨(by omega), (by omega), (by omega)⟩, (fun k hk => congrArg Int32.toInt ((upd_ne (by omega)).trans ((upd_ne (by omega)).trans (upd_ne (by omega))))), N45, Kp47, B44⟩
theorem d1_100 : decode prog_60_method_2_code 100 = .ok (.aload_n 1, 1) := by decide +kernel
theorem d1_101 : decode prog_60_method_2_code 101 = .ok (.iload_n 2, 1) := by decide +kernel
theorem d1_102 : decode prog_60_method_2_code 102 = .ok (.sipush 240, 3) := by decide +kernel
theorem d1_105 : decode prog_60_method_2_code 105 = .ok (.iload_n 0, 1) := by decide +kernel
theorem d1_106 : decode prog_60_method_2_code 106 = .ok (.bipush 18, 2) := by decide +kernel
theorem d1_108 : decode prog_60_method_2_code 108 = .ok (.ishr, 1) := by decide +kernel
theorem d1_109 : decode prog_60_method_2_code 109 = .ok (.ior, 1) := by decide +kernel
theorem d1_110 : decode prog_60_method_2_code 110 = .ok (.i2b, 1) := by decide +kernel
theorem d1_111 : decode prog_60_method_2_code 111 = .ok (.bastore, 1) := by decide +kernel
theorem d1_112 : decode prog_60_method_2_code 112 = .ok (.aload_n 1, 1) := by decide +kernel
theorem d1_113 : decode prog_60_method_2_code 113 = .ok (.iload_n 2, 1) := by decide +kernel
theorem d1_114 : decode prog_60_method_2_code 114 = .ok (.iconst 1, 1) := by decide +kernel
theorem d1_115 : decode prog_60_method_2_code 115 = .ok (.iadd, 1) := by decide +kernel
theorem d1_116 : decode prog_60_method_2_code 116 = .ok (.sipush 128, 3) := by decide +kernel
theorem d1_119 : decode prog_60_method_2_code 119 = .ok (.iload_n 0, 1) := by decide +kernel
theorem d1_120 : decode prog_60_method_2_code 120 = .ok (.bipush 12, 2) := by decide +kernel
theorem d1_122 : decode prog_60_method_2_code 122 = .ok (.ishr, 1) := by decide +kernel
theorem d1_123 : decode prog_60_method_2_code 123 = .ok (.bipush 63, 2) := by decide +kernel
theorem d1_125 : decode prog_60_method_2_code 125 = .ok (.iand, 1) := by decide +kernel
theorem d1_126 : decode prog_60_method_2_code 126 = .ok (.ior, 1) := by decide +kernel
theorem d1_127 : decode prog_60_method_2_code 127 = .ok (.i2b, 1) := by decide +kernel
theorem d1_128 : decode prog_60_method_2_code 128 = .ok (.bastore, 1) := by decide +kernel
theorem d1_129 : decode prog_60_method_2_code 129 = .ok (.aload_n 1, 1) := by decide +kernel
theorem d1_130 : decode prog_60_method_2_code 130 = .ok (.iload_n 2, 1) := by decide +kernel
theorem d1_131 : decode prog_60_method_2_code 131 = .ok (.iconst 2, 1) := by decide +kernel
theorem d1_132 : decode prog_60_method_2_code 132 = .ok (.iadd, 1) := by decide +kernel
theorem d1_133 : decode prog_60_method_2_code 133 = .ok (.sipush 128, 3) := by decide +kernel
theorem d1_136 : decode prog_60_method_2_code 136 = .ok (.iload_n 0, 1) := by decide +kernel
theorem d1_137 : decode prog_60_method_2_code 137 = .ok (.bipush 6, 2) := by decide +kernel
theorem d1_139 : decode prog_60_method_2_code 139 = .ok (.ishr, 1) := by decide +kernel
theorem d1_140 : decode prog_60_method_2_code 140 = .ok (.bipush 63, 2) := by decide +kernel
theorem d1_142 : decode prog_60_method_2_code 142 = .ok (.iand, 1) := by decide +kernel
theorem d1_143 : decode prog_60_method_2_code 143 = .ok (.ior, 1) := by decide +kernel
theorem d1_144 : decode prog_60_method_2_code 144 = .ok (.i2b, 1) := by decide +kernel
theorem d1_145 : decode prog_60_method_2_code 145 = .ok (.bastore, 1) := by decide +kernel
theorem d1_146 : decode prog_60_method_2_code 146 = .ok (.aload_n 1, 1) := by decide +kernel
theorem d1_147 : decode prog_60_method_2_code 147 = .ok (.iload_n 2, 1) := by decide +kernel
theorem d1_148 : decode prog_60_method_2_code 148 = .ok (.iconst 3, 1) := by decide +kernel
theorem d1_149 : decode prog_60_method_2_code 149 = .ok (.iadd, 1) := by decide +kernel
theorem d1_150 : decode prog_60_method_2_code 150 = .ok (.sipush 128, 3) := by decide +kernel
theorem d1_153 : decode prog_60_method_2_code 153 = .ok (.iload_n 0, 1) := by decide +kernel
theorem d1_154 : decode prog_60_method_2_code 154 = .ok (.bipush 63, 2) := by decide +kernel
theorem d1_156 : decode prog_60_method_2_code 156 = .ok (.iand, 1) := by decide +kernel
theorem d1_157 : decode prog_60_method_2_code 157 = .ok (.ior, 1) := by decide +kernel
theorem d1_158 : decode prog_60_method_2_code 158 = .ok (.i2b, 1) := by decide +kernel
theorem d1_159 : decode prog_60_method_2_code 159 = .ok (.bastore, 1) := by decide +kernel
theorem d1_160 : decode prog_60_method_2_code 160 = .ok (.iconst 4, 1) := by decide +kernel
theorem d1_161 : decode prog_60_method_2_code 161 = .ok (.ireturn, 1) := by decide +kernel
theorem ef_1_4 (m : MethodId) (p0 : Int32) (b1 : Addr) (p2 : Int32) : entryFrame m #[(.int p0), (.ref b1), (.int p2)] 3 = mkF m 0 #[.val (.int p0), .val (.ref b1), .val (.int p2)] [] := by first | (simp [entryFrame, mkF, argsToLocals, Value.category]; done) | rfl
def Q1_4 (Z : State) (p0 : Int32) (b1 : Addr) (p2 : Int32) (f : Nat → Int32) (n : Nat) (h0 : Heap) (n0 : Nat) (v : Option Value) (h : Heap) (L : List Loc) : Prop := ∃ f' : Nat → Int32, v = some (.int 4) ∧ ((f' n).toInt = p0.toInt / 262144 - 16 ∧ (f' (n + 1)).toInt = p0.toInt / 4096 % 64 - 128 ∧ (f' (n + 2)).toInt = p0.toInt / 64 % 64 - 128 ∧ (f' (n + 3)).toInt = p0.toInt % 64 - 128) ∧ (∀ k, (k < n ∨ n + 4 ≤ k) → (f' k).toInt = (f k).toInt) ∧ Fr n0 L ∧ Keep h0 h [b1] ∧ Ba Z h b1 .byte 8 f'
set_option maxRecDepth 65536 in
set_option maxHeartbeats 40000000 in
theorem rm1_4 (l : Launch) (Z : State) (a0 : Array Value) (hw : ∀ d ∈ tables_1, d.before a0 Z = true) (ws : List Jvm.Cond) (p0 : Int32) (b1 : Addr) (p2 : Int32) (f : Nat → Int32) (n : Nat) (h0 : Heap) (n0 : Nat) (Z0 : n0 ≤ h0.size) (B_b1 : Ba Z h0 b1 .byte 8 f) (hn : p2.toInt = n) (hn8 : n + 4 ≤ 8) (hc : 65536 ≤ p0.toInt ∧ p0.toInt < 1114112) (g_b1 : n0 ≤ b1) :
    MetFree l (⟨"com/example/fieldpare/fieldpare/Utf8", "encode", "(I[BI)I"⟩ : MethodName) (head1 (Jvm.Cond.code (⟨"com/example/fieldpare/fieldpare/Utf8", "encode", "(I[BI)I"⟩ : MethodName) prog_60_method_2_code 3 (some .int) :: ws) ({ frames := 0, cells := 0, slots := 0, locals := 0 } : Room)) (fun a U => a = #[(.int p0), (.ref b1), (.int p2)] ∧ Z.Warmed39 U.vm ∧ U.heap = h0) (fun _ _ _ _ _ => True) (fun _ U o U' => ∃ v L, o = .returned v ∧ Q1_4 Z p0 b1 p2 f n h0 n0 v U'.heap L ∧ FrameEnd U o U' L ({ frames := 0, cells := 0, slots := 0, locals := 0 } : Room).cells ({ frames := 0, cells := 0, slots := 0, locals := 0 } : Room).slots) := by
  refine MetFree.of_bodySF (plainFor_of_name pn_25196549) hisR ?_
  intro p e s m args below meth c s₁ Bd hml0 hP hK
  obtain ⟨rfl, hZ, hh⟩ := hP
  have C : Ctx p s m meth c Z "com/example/fieldpare/fieldpare/Utf8" "encode" prog_60_method_2_code 3 (some .int) := Ctx.of Bd hml0 hZ
  have X0 : Stand p l e ({ frames := 0, cells := 0, slots := 0, locals := 0 } : Room) s m #[(.int p0), (.ref b1), (.int p2)] below meth c s₁ [] 0 0 := Stand.of_body Bd
  have e0 : s₁.heap = h0 := by rw [← hh, Bd.state]; rfl
  have N0 := Fr.nil n0
  refine Goes.enter (ef_1_4 m p0 b1 p2) ?_
  clear hK hml0 hh
  refine g_iloadN 1 rfl C X0 d1_0 rfl ?_
  refine g_sipush 4 rfl C X0 (128 : Int32) d1_1 rfl ?_
  have fr1 := rng32 p0
  have fc2 : (128 : Int32).toInt = 128 := rfl
  have hb3 : ¬ (p0.toInt < (128 : Int32).toInt) := by omega
  refine g_icmp_ge_t 14 C X0 d1_4 (by decide) (by decide) hb3 ?_
  refine g_iloadN 15 rfl C X0 d1_14 rfl ?_
  refine g_sipush 18 rfl C X0 (2048 : Int32) d1_15 rfl ?_
  have fc4 : (2048 : Int32).toInt = 2048 := rfl
  have hb5 : ¬ (p0.toInt < (2048 : Int32).toInt) := by omega
  refine g_icmp_ge_t 49 C X0 d1_18 (by decide) (by decide) hb5 ?_
  refine g_iloadN 50 rfl C X0 d1_49 rfl ?_
  refine g_ldc 52 rfl C X0 (hw _ (List.mem_of_getElem? (i := 12) rfl)) d1_50 ?_
  have fc6 : (65536 : Int32).toInt = 65536 := rfl
  have hb7 : ¬ (p0.toInt < (65536 : Int32).toInt) := by omega
  refine g_icmp_ge_t 100 C X0 d1_52 (by decide) (by decide) hb7 ?_
  refine g_aloadN 101 rfl C X0 d1_100 rfl rfl ?_
  refine g_iloadN 102 rfl C X0 d1_101 rfl ?_
  refine g_sipush 105 rfl C X0 (240 : Int32) d1_102 rfl ?_
  refine g_iloadN 106 rfl C X0 d1_105 rfl ?_
  refine g_bipush 108 rfl C X0 (18 : Int32) d1_106 rfl ?_
  refine g_ishr 109 rfl C X0 d1_108 ?_
  refine g_ior 110 rfl C X0 d1_109 ?_
  refine g_i2b 111 rfl C X0 d1_110 ?_
  have fr8 := rng32 p2
  obtain ⟨w9, hw9⟩ : ∃ z : Int32, ((((((240 : Int32) ||| (p0 >>> ((18 : Int32) &&& 31)))).toInt8.toInt32)).toInt8.toInt32) = z := ⟨_, rfl⟩
  refine g_bastore 112 rfl C X0 e0 B_b1 (n) (by omega) (by omega) w9 hw9 d1_111 N0 g_b1 fun T10 h11 ls12 X13 e14 W15 B16 N17 => ?_
  have Zs18 := Nat.le_trans Z0 (Nat.le_of_eq W15.size.symm)
  have Kp19 : Keep h0 h11 [b1] := (Keep.refl h0 [b1]).wr W15 (Or.inl (List.mem_of_getElem? (i := 0) rfl))
  refine g_aloadN 113 rfl C X13 d1_112 rfl rfl ?_
  refine g_iloadN 114 rfl C X13 d1_113 rfl ?_
  refine g_iconst 115 rfl C X13 (1 : Int32) d1_114 rfl ?_
  refine g_iadd 116 rfl C X13 d1_115 ?_
  refine g_sipush 119 rfl C X13 (128 : Int32) d1_116 rfl ?_
  refine g_iloadN 120 rfl C X13 d1_119 rfl ?_
  refine g_bipush 122 rfl C X13 (12 : Int32) d1_120 rfl ?_
  refine g_ishr 123 rfl C X13 d1_122 ?_
  refine g_bipush 125 rfl C X13 (63 : Int32) d1_123 rfl ?_
  refine g_iand 126 rfl C X13 d1_125 ?_
  refine g_ior 127 rfl C X13 d1_126 ?_
  refine g_i2b 128 rfl C X13 d1_127 ?_
  have fc20 : (1 : Int32).toInt = 1 := rfl
  have fo21 := c_iadd p2 (1 : Int32)
  have fr22 := rng32 (p2 + (1 : Int32))
  obtain ⟨w23, hw23⟩ : ∃ z : Int32, ((((((128 : Int32) ||| ((p0 >>> ((12 : Int32) &&& 31)) &&& (63 : Int32)))).toInt8.toInt32)).toInt8.toInt32) = z := ⟨_, rfl⟩
  refine g_bastore 129 rfl C X13 e14 B16 (n + 1) (by omega) (by omega) w23 hw23 d1_128 N17 g_b1 fun T24 h25 ls26 X27 e28 W29 B30 N31 => ?_
  have Zs32 := Nat.le_trans Zs18 (Nat.le_of_eq W29.size.symm)
  have Kp33 : Keep h0 h25 [b1] := Kp19.wr W29 (Or.inl (List.mem_of_getElem? (i := 0) rfl))
  refine g_aloadN 130 rfl C X27 d1_129 rfl rfl ?_
  refine g_iloadN 131 rfl C X27 d1_130 rfl ?_
  refine g_iconst 132 rfl C X27 (2 : Int32) d1_131 rfl ?_
  refine g_iadd 133 rfl C X27 d1_132 ?_
  refine g_sipush 136 rfl C X27 (128 : Int32) d1_133 rfl ?_
  refine g_iloadN 137 rfl C X27 d1_136 rfl ?_
  refine g_bipush 139 rfl C X27 (6 : Int32) d1_137 rfl ?_
  refine g_ishr 140 rfl C X27 d1_139 ?_
  refine g_bipush 142 rfl C X27 (63 : Int32) d1_140 rfl ?_
  refine g_iand 143 rfl C X27 d1_142 ?_
  refine g_ior 144 rfl C X27 d1_143 ?_
  refine g_i2b 145 rfl C X27 d1_144 ?_
  have fc34 : (2 : Int32).toInt = 2 := rfl
  have fo35 := c_iadd p2 (2 : Int32)
  have fr36 := rng32 (p2 + (2 : Int32))
  obtain ⟨w37, hw37⟩ : ∃ z : Int32, ((((((128 : Int32) ||| ((p0 >>> ((6 : Int32) &&& 31)) &&& (63 : Int32)))).toInt8.toInt32)).toInt8.toInt32) = z := ⟨_, rfl⟩
  refine g_bastore 146 rfl C X27 e28 B30 (n + 2) (by omega) (by omega) w37 hw37 d1_145 N31 g_b1 fun T38 h39 ls40 X41 e42 W43 B44 N45 => ?_
  have Zs46 := Nat.le_trans Zs32 (Nat.le_of_eq W43.size.symm)
  have Kp47 : Keep h0 h39 [b1] := Kp33.wr W43 (Or.inl (List.mem_of_getElem? (i := 0) rfl))
  refine g_aloadN 147 rfl C X41 d1_146 rfl rfl ?_
  refine g_iloadN 148 rfl C X41 d1_147 rfl ?_
  refine g_iconst 149 rfl C X41 (3 : Int32) d1_148 rfl ?_
  refine g_iadd 150 rfl C X41 d1_149 ?_
  refine g_sipush 153 rfl C X41 (128 : Int32) d1_150 rfl ?_
  refine g_iloadN 154 rfl C X41 d1_153 rfl ?_
  refine g_bipush 156 rfl C X41 (63 : Int32) d1_154 rfl ?_
  refine g_iand 157 rfl C X41 d1_156 ?_
  refine g_ior 158 rfl C X41 d1_157 ?_
  refine g_i2b 159 rfl C X41 d1_158 ?_
  have fc48 : (3 : Int32).toInt = 3 := rfl
  have fo49 := c_iadd p2 (3 : Int32)
  have fr50 := rng32 (p2 + (3 : Int32))
  obtain ⟨w51, hw51⟩ : ∃ z : Int32, ((((((128 : Int32) ||| (p0 &&& (63 : Int32)))).toInt8.toInt32)).toInt8.toInt32) = z := ⟨_, rfl⟩
  refine g_bastore 160 rfl C X41 e42 B44 (n + 3) (by omega) (by omega) w51 hw51 d1_159 N45 g_b1 fun T52 h53 ls54 X55 e56 W57 B58 N59 => ?_
  have Zs60 := Nat.le_trans Zs46 (Nat.le_of_eq W57.size.symm)
  have Kp61 : Keep h0 h53 [b1] := Kp47.wr W57 (Or.inl (List.mem_of_getElem? (i := 0) rfl))
  refine g_iconst 161 rfl C X55 (4 : Int32) d1_160 rfl ?_
  have fr62 := rng32 w9
  have fc63 : (240 : Int32).toInt = 240 := rfl
  have fc64 : (18 : Int32).toInt = 18 := rfl
  have fo65 : ((p0 >>> ((18 : Int32) &&& 31))).toInt = p0.toInt / 262144 := c_ishr p0 (18 : Int32) 18 (by decide)
  have fo66 := c_or (240 : Int32) (p0 >>> ((18 : Int32) &&& 31)) 4 (by decide) 16 (by decide) (by omega) (by omega) (by omega)
  have fr67 := rng32 ((240 : Int32) ||| (p0 >>> ((18 : Int32) &&& 31)))
  have fo68 := c_i2b ((240 : Int32) ||| (p0 >>> ((18 : Int32) &&& 31)))
  have fo69 := c_i2b ((((240 : Int32) ||| (p0 >>> ((18 : Int32) &&& 31)))).toInt8.toInt32)
  have fe70 : ((((((240 : Int32) ||| (p0 >>> ((18 : Int32) &&& 31)))).toInt8.toInt32)).toInt8.toInt32).toInt = w9.toInt := congrArg Int32.toInt hw9
  have fr71 := rng32 w23
  have fc72 : (12 : Int32).toInt = 12 := rfl
  have fo73 : ((p0 >>> ((12 : Int32) &&& 31))).toInt = p0.toInt / 4096 := c_ishr p0 (12 : Int32) 12 (by decide)
  have fc74 : (63 : Int32).toInt = 63 := rfl
  have fo75 : ((p0 >>> ((12 : Int32) &&& 31)) &&& (63 : Int32)).toInt = (p0 >>> ((12 : Int32) &&& 31)).toInt % 64 := c_mask (p0 >>> ((12 : Int32) &&& 31)) (63 : Int32) 6 (by decide) (by decide)
  have fo76 := c_or (128 : Int32) ((p0 >>> ((12 : Int32) &&& 31)) &&& (63 : Int32)) 7 (by decide) 128 (by decide) (by omega) (by omega) (by omega)
  have fr77 := rng32 ((128 : Int32) ||| ((p0 >>> ((12 : Int32) &&& 31)) &&& (63 : Int32)))
  have fo78 := c_i2b ((128 : Int32) ||| ((p0 >>> ((12 : Int32) &&& 31)) &&& (63 : Int32)))
  have fo79 := c_i2b ((((128 : Int32) ||| ((p0 >>> ((12 : Int32) &&& 31)) &&& (63 : Int32)))).toInt8.toInt32)
  have fe80 : ((((((128 : Int32) ||| ((p0 >>> ((12 : Int32) &&& 31)) &&& (63 : Int32)))).toInt8.toInt32)).toInt8.toInt32).toInt = w23.toInt := congrArg Int32.toInt hw23
  have fr81 := rng32 w37
  have fc82 : (6 : Int32).toInt = 6 := rfl
  have fo83 : ((p0 >>> ((6 : Int32) &&& 31))).toInt = p0.toInt / 64 := c_ishr p0 (6 : Int32) 6 (by decide)
  have fo84 : ((p0 >>> ((6 : Int32) &&& 31)) &&& (63 : Int32)).toInt = (p0 >>> ((6 : Int32) &&& 31)).toInt % 64 := c_mask (p0 >>> ((6 : Int32) &&& 31)) (63 : Int32) 6 (by decide) (by decide)
  have fo85 := c_or (128 : Int32) ((p0 >>> ((6 : Int32) &&& 31)) &&& (63 : Int32)) 7 (by decide) 128 (by decide) (by omega) (by omega) (by omega)
  have fr86 := rng32 ((128 : Int32) ||| ((p0 >>> ((6 : Int32) &&& 31)) &&& (63 : Int32)))
  have fo87 := c_i2b ((128 : Int32) ||| ((p0 >>> ((6 : Int32) &&& 31)) &&& (63 : Int32)))
  have fo88 := c_i2b ((((128 : Int32) ||| ((p0 >>> ((6 : Int32) &&& 31)) &&& (63 : Int32)))).toInt8.toInt32)
  have fe89 : ((((((128 : Int32) ||| ((p0 >>> ((6 : Int32) &&& 31)) &&& (63 : Int32)))).toInt8.toInt32)).toInt8.toInt32).toInt = w37.toInt := congrArg Int32.toInt hw37
  have fr90 := rng32 w51
  have fo91 : (p0 &&& (63 : Int32)).toInt = p0.toInt % 64 := c_mask p0 (63 : Int32) 6 (by decide) (by decide)
  have fo92 := c_or (128 : Int32) (p0 &&& (63 : Int32)) 7 (by decide) 128 (by decide) (by omega) (by omega) (by omega)
  have fr93 := rng32 ((128 : Int32) ||| (p0 &&& (63 : Int32)))
  have fo94 := c_i2b ((128 : Int32) ||| (p0 &&& (63 : Int32)))
  have fo95 := c_i2b ((((128 : Int32) ||| (p0 &&& (63 : Int32)))).toInt8.toInt32)
  have fe96 : ((((((128 : Int32) ||| (p0 &&& (63 : Int32)))).toInt8.toInt32)).toInt8.toInt32).toInt = w51.toInt := congrArg Int32.toInt hw51
  have hv97 : ((upd (upd (upd (upd f (n) w9) (n + 1) w23) (n + 2) w37) (n + 3) w51) n).toInt = w9.toInt := congrArg Int32.toInt ((upd_ne (by omega)).trans ((upd_ne (by omega)).trans ((upd_ne (by omega)).trans (upd_same (by omega)))))
  have hv98 : ((upd (upd (upd (upd f (n) w9) (n + 1) w23) (n + 2) w37) (n + 3) w51) (n + 1)).toInt = w23.toInt := congrArg Int32.toInt ((upd_ne (by omega)).trans ((upd_ne (by omega)).trans (upd_same (by omega))))
  have hv99 : ((upd (upd (upd (upd f (n) w9) (n + 1) w23) (n + 2) w37) (n + 3) w51) (n + 2)).toInt = w37.toInt := congrArg Int32.toInt ((upd_ne (by omega)).trans (upd_same (by omega)))
  have hv100 : ((upd (upd (upd (upd f (n) w9) (n + 1) w23) (n + 2) w37) (n + 3) w51) (n + 3)).toInt = w51.toInt := congrArg Int32.toInt (upd_same (by omega))
  exact g_retI C X55 rfl d1_161 e56 (by decide) (by decide) ⟨_, rfl, ⟨(by omega), (by omega), (by omega), (by omega)⟩, (fun k hk => congrArg Int32.toInt ((upd_ne (by omega)).trans ((upd_ne (by omega)).trans ((upd_ne (by omega)).trans (upd_ne (by omega)))))), N59, Kp61, B58⟩
theorem d2_0 : decode method_4_code 0 = .ok (.iload_n 1, 1) := by decide +kernel
theorem d2_1 : decode method_4_code 1 = .ok (.iload_n 2, 1) := by decide +kernel
theorem d2_2 : decode method_4_code 2 = .ok (.if_icmp .lt 10, 3) := by decide +kernel
theorem d2_12 : decode method_4_code 12 = .ok (.aload_n 0, 1) := by decide +kernel
theorem d2_13 : decode method_4_code 13 = .ok (.iload_n 1, 1) := by decide +kernel
theorem d2_14 : decode method_4_code 14 = .ok (.baload, 1) := by decide +kernel
theorem d2_15 : decode method_4_code 15 = .ok (.iload 4, 2) := by decide +kernel
theorem d2_17 : decode method_4_code 17 = .ok (.if_icmp .ne 7, 3) := by decide +kernel
theorem d2_20 : decode method_4_code 20 = .ok (.iconst 1, 1) := by decide +kernel
theorem d2_21 : decode method_4_code 21 = .ok (.goto 4, 3) := by decide +kernel
theorem d2_25 : decode method_4_code 25 = .ok (.ireturn, 1) := by decide +kernel
theorem d2_24 : decode method_4_code 24 = .ok (.iconst 0, 1) := by decide +kernel
theorem d2_5 : decode method_4_code 5 = .ok (.iload_n 1, 1) := by decide +kernel
theorem d2_6 : decode method_4_code 6 = .ok (.iload_n 2, 1) := by decide +kernel
theorem d2_7 : decode method_4_code 7 = .ok (.iload_n 3, 1) := by decide +kernel
theorem d2_8 : decode method_4_code 8 = .ok (.iadd, 1) := by decide +kernel
theorem d2_9 : decode method_4_code 9 = .ok (.if_icmp .lt 11, 3) := by decide +kernel
theorem pn_80162564 : plainName "com/example/fieldpare/fieldpare/Utf8EncodePinLaw" = true := by first | (simp [plainName, overriddenIn]; done) | decide +kernel
theorem ef_2 (m : MethodId) (b0 : Addr) (p1 : Int32) (p2 : Int32) (p3 : Int32) (p4 : Int32) : entryFrame m #[(.ref b0), (.int p1), (.int p2), (.int p3), (.int p4)] 5 = mkF m 0 #[.val (.ref b0), .val (.int p1), .val (.int p2), .val (.int p3), .val (.int p4)] [] := by first | (simp [entryFrame, mkF, argsToLocals, Value.category]; done) | rfl
def Q2 (Z : State) (b0 : Addr) (p1 : Int32) (p2 : Int32) (p3 : Int32) (p4 : Int32) (f : Nat → Int32) (i : Nat) (x : Int32) (h0 : Heap) (n0 : Nat) (v : Option Value) (h : Heap) (L : List Loc) : Prop := ∃ r : Int32, v = some (.int r) ∧ ((r.toInt = 1 ∧ ((p2.toInt ≤ p1.toInt ∧ p1.toInt < p2.toInt + p3.toInt) ∨ x.toInt = p4.toInt)) ∨ (r.toInt = 0 ∧ ¬ ((p2.toInt ≤ p1.toInt ∧ p1.toInt < p2.toInt + p3.toInt) ∨ x.toInt = p4.toInt))) ∧ Fr n0 L ∧ h = h0
set_option maxRecDepth 65536 in
set_option maxHeartbeats 40000000 in
theorem rm2 (l : Launch) (Z : State) (a0 : Array Value) (hw : ∀ d ∈ tables_1, d.before a0 Z = true) (ws : List Jvm.Cond) (b0 : Addr) (p1 : Int32) (p2 : Int32) (p3 : Int32) (p4 : Int32) (f : Nat → Int32) (i : Nat) (x : Int32) (h0 : Heap) (n0 : Nat) (Z0 : n0 ≤ h0.size) (B_b0 : Ba Z h0 b0 .byte 8 f) (hi : p1.toInt = i) (hi8 : i < 8) (hx : f i = x) (hr : 0 ≤ p2.toInt ∧ p2.toInt ≤ 4 ∧ 0 ≤ p3.toInt ∧ p3.toInt ≤ 4) :
    MetFree l (⟨"com/example/fieldpare/fieldpare/Utf8EncodePinLaw", "kept", "([BIIIB)Z"⟩ : MethodName) (head1 (Jvm.Cond.code (⟨"com/example/fieldpare/fieldpare/Utf8EncodePinLaw", "kept", "([BIIIB)Z"⟩ : MethodName) method_4_code 5 (some .boolean) :: ws) ({ frames := 0, cells := 0, slots := 0, locals := 0 } : Room)) (fun a U => a = #[(.ref b0), (.int p1), (.int p2), (.int p3), (.int p4)] ∧ Z.Warmed39 U.vm ∧ U.heap = h0) (fun _ _ _ _ _ => True) (fun _ U o U' => ∃ v L, o = .returned v ∧ Q2 Z b0 p1 p2 p3 p4 f i x h0 n0 v U'.heap L ∧ FrameEnd U o U' L ({ frames := 0, cells := 0, slots := 0, locals := 0 } : Room).cells ({ frames := 0, cells := 0, slots := 0, locals := 0 } : Room).slots) := by
  refine MetFree.of_bodySF (plainFor_of_name pn_80162564) hisR ?_
  intro p e s m args below meth c s₁ Bd hml0 hP hK
  obtain ⟨rfl, hZ, hh⟩ := hP
  have C : Ctx p s m meth c Z "com/example/fieldpare/fieldpare/Utf8EncodePinLaw" "kept" method_4_code 5 (some .boolean) := Ctx.of Bd hml0 hZ
  have X0 : Stand p l e ({ frames := 0, cells := 0, slots := 0, locals := 0 } : Room) s m #[(.ref b0), (.int p1), (.int p2), (.int p3), (.int p4)] below meth c s₁ [] 0 0 := Stand.of_body Bd
  have e0 : s₁.heap = h0 := by rw [← hh, Bd.state]; rfl
  have N0 := Fr.nil n0
  refine Goes.enter (ef_2 m b0 p1 p2 p3 p4) ?_
  clear hK hml0 hh
  refine g_iloadN 1 rfl C X0 d2_0 rfl ?_
  refine g_iloadN 2 rfl C X0 d2_1 rfl ?_
  by_cases hb1 : p1.toInt < p2.toInt
  · skip
    refine g_icmp_lt_t 12 C X0 d2_2 (by decide) (by decide) hb1 ?_
    refine g_aloadN 13 rfl C X0 d2_12 rfl rfl ?_
    refine g_iloadN 14 rfl C X0 d2_13 rfl ?_
    have fr2 := rng32 p1
    refine g_baload 15 rfl C X0 e0 B_b0 (i) (by omega) (by omega) x hx d2_14 ?_
    refine g_iload 17 rfl C X0 d2_15 rfl ?_
    by_cases hb3 : x.toInt = p4.toInt
    · skip
      refine g_icmp_ne_f 20 rfl C X0 d2_17 hb3 ?_
      refine g_iconst 21 rfl C X0 (1 : Int32) d2_20 rfl ?_
      refine g_goto 25 C X0 d2_21 (by decide) (by decide) ?_
      have fr4 := rng32 p2
      have fr5 := rng32 x
      have fr6 := rng32 p4
      have fc7 : (1 : Int32).toInt = 1 := rfl
      exact g_retN C X0 (z' := (1 : Int32)) rfl (Or.inl rfl) d2_25 e0 (by decide) (by decide) rfl ⟨_, rfl, by omega, N0, rfl⟩
    · skip
      refine g_icmp_ne_t 24 C X0 d2_17 (by decide) (by decide) hb3 ?_
      refine g_iconst 25 rfl C X0 (0 : Int32) d2_24 rfl ?_
      have fr8 := rng32 p2
      have fr9 := rng32 x
      have fr10 := rng32 p4
      have fc11 : (0 : Int32).toInt = 0 := rfl
      exact g_retN C X0 (z' := (0 : Int32)) rfl (Or.inl rfl) d2_25 e0 (by decide) (by decide) rfl ⟨_, rfl, by omega, N0, rfl⟩
  · skip
    refine g_icmp_lt_f 5 rfl C X0 d2_2 hb1 ?_
    refine g_iloadN 6 rfl C X0 d2_5 rfl ?_
    refine g_iloadN 7 rfl C X0 d2_6 rfl ?_
    refine g_iloadN 8 rfl C X0 d2_7 rfl ?_
    refine g_iadd 9 rfl C X0 d2_8 ?_
    by_cases hb12 : p1.toInt < (p2 + p3).toInt
    · skip
      refine g_icmp_lt_t 20 C X0 d2_9 (by decide) (by decide) hb12 ?_
      refine g_iconst 21 rfl C X0 (1 : Int32) d2_20 rfl ?_
      refine g_goto 25 C X0 d2_21 (by decide) (by decide) ?_
      have fr13 := rng32 p1
      have fr14 := rng32 p2
      have fr15 := rng32 p3
      have fo16 := c_iadd p2 p3
      have fr17 := rng32 (p2 + p3)
      have fc18 : (1 : Int32).toInt = 1 := rfl
      exact g_retN C X0 (z' := (1 : Int32)) rfl (Or.inl rfl) d2_25 e0 (by decide) (by decide) rfl ⟨_, rfl, by omega, N0, rfl⟩
    · skip
      refine g_icmp_lt_f 12 rfl C X0 d2_9 hb12 ?_
      refine g_aloadN 13 rfl C X0 d2_12 rfl rfl ?_
      refine g_iloadN 14 rfl C X0 d2_13 rfl ?_
      have fr19 := rng32 p1
      refine g_baload 15 rfl C X0 e0 B_b0 (i) (by omega) (by omega) x hx d2_14 ?_
      refine g_iload 17 rfl C X0 d2_15 rfl ?_
      by_cases hb20 : x.toInt = p4.toInt
      · skip
        refine g_icmp_ne_f 20 rfl C X0 d2_17 hb20 ?_
        refine g_iconst 21 rfl C X0 (1 : Int32) d2_20 rfl ?_
        refine g_goto 25 C X0 d2_21 (by decide) (by decide) ?_
        have fr21 := rng32 p2
        have fr22 := rng32 p3
        have fo23 := c_iadd p2 p3
        have fr24 := rng32 (p2 + p3)
        have fr25 := rng32 x
        have fr26 := rng32 p4
        have fc27 : (1 : Int32).toInt = 1 := rfl
        exact g_retN C X0 (z' := (1 : Int32)) rfl (Or.inl rfl) d2_25 e0 (by decide) (by decide) rfl ⟨_, rfl, by omega, N0, rfl⟩
      · skip
        refine g_icmp_ne_t 24 C X0 d2_17 (by decide) (by decide) hb20 ?_
        refine g_iconst 25 rfl C X0 (0 : Int32) d2_24 rfl ?_
        have fr28 := rng32 p2
        have fr29 := rng32 p3
        have fo30 := c_iadd p2 p3
        have fr31 := rng32 (p2 + p3)
        have fr32 := rng32 x
        have fr33 := rng32 p4
        have fc34 : (0 : Int32).toInt = 0 := rfl
        exact g_retN C X0 (z' := (0 : Int32)) rfl (Or.inl rfl) d2_25 e0 (by decide) (by decide) rfl ⟨_, rfl, by omega, N0, rfl⟩
theorem d3_0 : decode method_3_code 0 = .ok (.iload_n 0, 1) := by decide +kernel
theorem d3_1 : decode method_3_code 1 = .ok (.sipush 192, 3) := by decide +kernel
theorem d3_4 : decode method_3_code 4 = .ok (.iand, 1) := by decide +kernel
theorem d3_5 : decode method_3_code 5 = .ok (.sipush 128, 3) := by decide +kernel
theorem d3_8 : decode method_3_code 8 = .ok (.if_icmp .ne 7, 3) := by decide +kernel
theorem d3_11 : decode method_3_code 11 = .ok (.iconst 1, 1) := by decide +kernel
theorem d3_12 : decode method_3_code 12 = .ok (.goto 4, 3) := by decide +kernel
theorem d3_16 : decode method_3_code 16 = .ok (.ireturn, 1) := by decide +kernel
theorem d3_15 : decode method_3_code 15 = .ok (.iconst 0, 1) := by decide +kernel
theorem ef_3 (m : MethodId) (p0 : Int32) : entryFrame m #[(.int p0)] 1 = mkF m 0 #[.val (.int p0)] [] := by first | (simp [entryFrame, mkF, argsToLocals, Value.category]; done) | rfl
def Q3 (Z : State) (p0 : Int32) (h0 : Heap) (n0 : Nat) (v : Option Value) (h : Heap) (L : List Loc) : Prop := ∃ r : Int32, v = some (.int r) ∧ ((r.toInt = 1 ∧ p0.toInt % 256 / 64 = 2) ∨ (r.toInt = 0 ∧ ¬ p0.toInt % 256 / 64 = 2)) ∧ Fr n0 L ∧ h = h0
set_option maxRecDepth 65536 in
set_option maxHeartbeats 40000000 in
theorem rm3 (l : Launch) (Z : State) (a0 : Array Value) (hw : ∀ d ∈ tables_1, d.before a0 Z = true) (ws : List Jvm.Cond) (p0 : Int32) (h0 : Heap) (n0 : Nat) (Z0 : n0 ≤ h0.size) :
    MetFree l (⟨"com/example/fieldpare/fieldpare/Utf8EncodePinLaw", "cont", "(I)Z"⟩ : MethodName) (head1 (Jvm.Cond.code (⟨"com/example/fieldpare/fieldpare/Utf8EncodePinLaw", "cont", "(I)Z"⟩ : MethodName) method_3_code 1 (some .boolean) :: ws) ({ frames := 0, cells := 0, slots := 0, locals := 0 } : Room)) (fun a U => a = #[(.int p0)] ∧ Z.Warmed39 U.vm ∧ U.heap = h0) (fun _ _ _ _ _ => True) (fun _ U o U' => ∃ v L, o = .returned v ∧ Q3 Z p0 h0 n0 v U'.heap L ∧ FrameEnd U o U' L ({ frames := 0, cells := 0, slots := 0, locals := 0 } : Room).cells ({ frames := 0, cells := 0, slots := 0, locals := 0 } : Room).slots) := by
  refine MetFree.of_bodySF (plainFor_of_name pn_80162564) hisR ?_
  intro p e s m args below meth c s₁ Bd hml0 hP hK
  obtain ⟨rfl, hZ, hh⟩ := hP
  have C : Ctx p s m meth c Z "com/example/fieldpare/fieldpare/Utf8EncodePinLaw" "cont" method_3_code 1 (some .boolean) := Ctx.of Bd hml0 hZ
  have X0 : Stand p l e ({ frames := 0, cells := 0, slots := 0, locals := 0 } : Room) s m #[(.int p0)] below meth c s₁ [] 0 0 := Stand.of_body Bd
  have e0 : s₁.heap = h0 := by rw [← hh, Bd.state]; rfl
  have N0 := Fr.nil n0
  refine Goes.enter (ef_3 m p0) ?_
  clear hK hml0 hh
  refine g_iloadN 1 rfl C X0 d3_0 rfl ?_
  refine g_sipush 4 rfl C X0 (192 : Int32) d3_1 rfl ?_
  refine g_iand 5 rfl C X0 d3_4 ?_
  refine g_sipush 8 rfl C X0 (128 : Int32) d3_5 rfl ?_
  by_cases hb1 : (p0 &&& (192 : Int32)).toInt = (128 : Int32).toInt
  · skip
    refine g_icmp_ne_f 11 rfl C X0 d3_8 hb1 ?_
    refine g_iconst 12 rfl C X0 (1 : Int32) d3_11 rfl ?_
    refine g_goto 16 C X0 d3_12 (by decide) (by decide) ?_
    have fr2 := rng32 p0
    have fc3 : (192 : Int32).toInt = 192 := rfl
    have fc5 : (63 : Int32).toInt = 63 := rfl
    have fo6 : (p0 &&& (63 : Int32)).toInt = p0.toInt % 64 := c_mask p0 (63 : Int32) 6 (by decide) (by decide)
    have fc7 : (255 : Int32).toInt = 255 := rfl
    have fo8 : (p0 &&& (255 : Int32)).toInt = p0.toInt % 256 := c_mask p0 (255 : Int32) 8 (by decide) (by decide)
    have fo4 := own_blk p0 (192 : Int32) (63 : Int32) (255 : Int32) (by decide) (by decide)
    have fo9 := c_and p0 (192 : Int32) (by decide)
    have fr10 := rng32 (p0 &&& (192 : Int32))
    have fc11 : (128 : Int32).toInt = 128 := rfl
    have fc12 : (1 : Int32).toInt = 1 := rfl
    exact g_retN C X0 (z' := (1 : Int32)) rfl (Or.inl rfl) d3_16 e0 (by decide) (by decide) rfl ⟨_, rfl, by omega, N0, rfl⟩
  · skip
    refine g_icmp_ne_t 15 C X0 d3_8 (by decide) (by decide) hb1 ?_
    refine g_iconst 16 rfl C X0 (0 : Int32) d3_15 rfl ?_
    have fr13 := rng32 p0
    have fc14 : (192 : Int32).toInt = 192 := rfl
    have fc16 : (63 : Int32).toInt = 63 := rfl
    have fo17 : (p0 &&& (63 : Int32)).toInt = p0.toInt % 64 := c_mask p0 (63 : Int32) 6 (by decide) (by decide)
    have fc18 : (255 : Int32).toInt = 255 := rfl
    have fo19 : (p0 &&& (255 : Int32)).toInt = p0.toInt % 256 := c_mask p0 (255 : Int32) 8 (by decide) (by decide)
    have fo15 := own_blk p0 (192 : Int32) (63 : Int32) (255 : Int32) (by decide) (by decide)
    have fo20 := c_and p0 (192 : Int32) (by decide)
    have fr21 := rng32 (p0 &&& (192 : Int32))
    have fc22 : (128 : Int32).toInt = 128 := rfl
    have fc23 : (0 : Int32).toInt = 0 := rfl
    exact g_retN C X0 (z' := (0 : Int32)) rfl (Or.inl rfl) d3_16 e0 (by decide) (by decide) rfl ⟨_, rfl, by omega, N0, rfl⟩
theorem pd_30946454 : parseMethodDescriptor "(I[BI)I" = some ⟨[.int, (.array .byte), .int], some .int⟩ := by decide +kernel
theorem pd_72974198 : parseMethodDescriptor "([BIIIB)Z" = some ⟨[(.array .byte), .int, .int, .int, .byte], some .boolean⟩ := by decide +kernel
theorem pd_52681301 : parseMethodDescriptor "(I)Z" = some ⟨[.int], some .boolean⟩ := by decide +kernel
theorem ef_0 (m : MethodId) (p0 : Int32) (p1 : Int32) (p2 : Int32) (p3 : Int32) : entryFrame m #[(.int p0), (.int p1), (.int p2), (.int p3)] maxLocals = mkF m 0 #[.val (.int p0), .val (.int p1), .val (.int p2), .val (.int p3), .unset, .unset, .unset, .unset, .unset, .unset, .unset, .unset, .unset, .unset, .unset, .unset, .unset] [] := by first | (simp [entryFrame, mkF, argsToLocals, Value.category, maxLocals]; done) | rfl
def Q0 (Z : State) (p0 : Int32) (p1 : Int32) (p2 : Int32) (p3 : Int32) (h0 : Heap) (n0 : Nat) (v : Option Value) (h : Heap) (L : List Loc) : Prop := v = some (.int 1) ∧ Fr n0 L
set_option maxRecDepth 65536 in
set_option maxHeartbeats 40000000 in
theorem rm0 (l : Launch) (Z : State) (a0 : Array Value) (hw : ∀ d ∈ tables_1, d.before a0 Z = true) (ws : List Jvm.Cond) (p0 : Int32) (p1 : Int32) (p2 : Int32) (p3 : Int32) (h0 : Heap) (n0 : Nat) (Z0 : n0 ≤ h0.size) :
    MetFree l x (head1 (Jvm.Cond.code x code maxLocals ret :: ws) room_1) (fun a U => a = #[(.int p0), (.int p1), (.int p2), (.int p3)] ∧ Z.Warmed39 U.vm ∧ U.heap = h0) (fun _ _ _ _ _ => True) (fun _ U o U' => ∃ v L, o = .returned v ∧ Q0 Z p0 p1 p2 p3 h0 n0 v U'.heap L ∧ FrameEnd U o U' L 16 128) := by
  refine MetFree.of_bodySF (plainFor_of_name pn_80162564) hisR ?_
  intro p e s m args below meth c s₁ Bd hml0 hP hK
  obtain ⟨rfl, hZ, hh⟩ := hP
  have C : Ctx p s m meth c Z "com/example/fieldpare/fieldpare/Utf8EncodePinLaw" "law" code maxLocals ret := Ctx.of Bd hml0 hZ
  have X0 : Stand p l e room_1 s m #[(.int p0), (.int p1), (.int p2), (.int p3)] below meth c s₁ [] 0 0 := Stand.of_body Bd
  have e0 : s₁.heap = h0 := by rw [← hh, Bd.state]; rfl
  have N0 := Fr.nil n0
  refine Goes.enter (ef_0 m p0 p1 p2 p3) ?_
  clear hK hml0 hh
  refine g_iloadN 1 rfl C X0 at_0 rfl ?_
  refine g_iconst 2 rfl C X0 (3 : Int32) at_1 rfl ?_
  refine g_iand 3 rfl C X0 at_2 ?_
  obtain ⟨v1, hv1⟩ : ∃ z : Int32, (p0 &&& (3 : Int32)) = z := ⟨_, rfl⟩
  refine g_istore 5 rfl C X0 v1 hv1 #[.val (.int p0), .val (.int p1), .val (.int p2), .val (.int p3), .val (.int v1), .unset, .unset, .unset, .unset, .unset, .unset, .unset, .unset, .unset, .unset, .unset, .unset] at_3 rfl ?_
  refine g_iloadN 6 rfl C X0 at_5 rfl ?_
  refine g_ldc 8 rfl C X0 (hw _ (List.mem_of_getElem? (i := 0) rfl)) at_6 ?_
  refine g_iand 9 rfl C X0 at_8 ?_
  obtain ⟨v2, hv2⟩ : ∃ z : Int32, (p1 &&& (2147483647 : Int32)) = z := ⟨_, rfl⟩
  refine g_istore 11 rfl C X0 v2 hv2 #[.val (.int p0), .val (.int p1), .val (.int p2), .val (.int p3), .val (.int v1), .val (.int v2), .unset, .unset, .unset, .unset, .unset, .unset, .unset, .unset, .unset, .unset, .unset] at_9 rfl ?_
  refine g_iload 13 rfl C X0 at_11 rfl ?_
  by_cases hb3 : v1.toInt = 0
  · skip
    refine g_if_ne_f 16 rfl C X0 at_13 hb3 ?_
    refine g_iload 18 rfl C X0 at_16 rfl ?_
    refine g_sipush 21 rfl C X0 (128 : Int32) at_18 rfl ?_
    refine g_irem 22 rfl C X0 at_21 (by decide) ?_
    obtain ⟨v4, hv4⟩ : ∃ z : Int32, (v2 % (128 : Int32)) = z := ⟨_, rfl⟩
    refine g_istore 24 rfl C X0 v4 hv4 #[.val (.int p0), .val (.int p1), .val (.int p2), .val (.int p3), .val (.int v1), .val (.int v2), .val (.int v4), .unset, .unset, .unset, .unset, .unset, .unset, .unset, .unset, .unset, .unset] at_22 rfl ?_
    refine g_goto 78 C X0 at_24 (by decide) (by decide) ?_
    refine g_iloadN 79 rfl C X0 at_78 rfl ?_
    refine g_ldc 81 rfl C X0 (hw _ (List.mem_of_getElem? (i := 0) rfl)) at_79 ?_
    refine g_iand 82 rfl C X0 at_81 ?_
    refine g_iconst 83 rfl C X0 (5 : Int32) at_82 rfl ?_
    refine g_irem 84 rfl C X0 at_83 (by decide) ?_
    obtain ⟨v5, hv5⟩ : ∃ z : Int32, ((p2 &&& (2147483647 : Int32)) % (5 : Int32)) = z := ⟨_, rfl⟩
    refine g_istore 86 rfl C X0 v5 hv5 #[.val (.int p0), .val (.int p1), .val (.int p2), .val (.int p3), .val (.int v1), .val (.int v2), .val (.int v4), .val (.int v5), .unset, .unset, .unset, .unset, .unset, .unset, .unset, .unset, .unset] at_84 rfl ?_
    refine g_iloadN 87 rfl C X0 at_86 rfl ?_
    refine g_i2b 88 rfl C X0 at_87 ?_
    obtain ⟨v6, hv6⟩ : ∃ z : Int32, ((p3).toInt8.toInt32) = z := ⟨_, rfl⟩
    refine g_istore 90 rfl C X0 v6 hv6 #[.val (.int p0), .val (.int p1), .val (.int p2), .val (.int p3), .val (.int v1), .val (.int v2), .val (.int v4), .val (.int v5), .val (.int v6), .unset, .unset, .unset, .unset, .unset, .unset, .unset, .unset] at_88 rfl ?_
    refine g_bipush 92 rfl C X0 (8 : Int32) at_90 rfl ?_
    refine g_newP 94 rfl C X0 8 (by decide) 8 (by decide) (by decide) rfl (hw _ (List.mem_of_getElem? (i := 1) rfl)) e0 at_92 (by decide) (by decide) fun T7 h8 o9 g10 X11 e12 E13 B14 => ?_
    have gn15 : n0 ≤ o9 := by rw [g10]; exact Z0
    have Zs16 := Nat.le_trans Z0 E13.1
    refine g_dup 95 rfl C X11 at_94 rfl ?_
    refine g_iconst 96 rfl C X11 (0 : Int32) at_95 rfl ?_
    refine g_iload 98 rfl C X11 at_96 rfl ?_
    obtain ⟨w17, hw17⟩ : ∃ z : Int32, ((v6).toInt8.toInt32) = z := ⟨_, rfl⟩
    refine g_bastore 99 rfl C X11 e12 B14 0 (by decide) (by decide) w17 hw17 at_98 N0 gn15 fun T18 h19 ls20 X21 e22 W23 B24 N25 => ?_
    have Zs26 := Nat.le_trans Zs16 (Nat.le_of_eq W23.size.symm)
    refine g_dup 100 rfl C X21 at_99 rfl ?_
    refine g_iconst 101 rfl C X21 (1 : Int32) at_100 rfl ?_
    refine g_iload 103 rfl C X21 at_101 rfl ?_
    refine g_bastore 104 rfl C X21 e22 B24 1 (by decide) (by decide) w17 hw17 at_103 N25 gn15 fun T27 h28 ls29 X30 e31 W32 B33 N34 => ?_
    have Zs35 := Nat.le_trans Zs26 (Nat.le_of_eq W32.size.symm)
    refine g_dup 105 rfl C X30 at_104 rfl ?_
    refine g_iconst 106 rfl C X30 (2 : Int32) at_105 rfl ?_
    refine g_iload 108 rfl C X30 at_106 rfl ?_
    refine g_bastore 109 rfl C X30 e31 B33 2 (by decide) (by decide) w17 hw17 at_108 N34 gn15 fun T36 h37 ls38 X39 e40 W41 B42 N43 => ?_
    have Zs44 := Nat.le_trans Zs35 (Nat.le_of_eq W41.size.symm)
    refine g_dup 110 rfl C X39 at_109 rfl ?_
    refine g_iconst 111 rfl C X39 (3 : Int32) at_110 rfl ?_
    refine g_iload 113 rfl C X39 at_111 rfl ?_
    refine g_bastore 114 rfl C X39 e40 B42 3 (by decide) (by decide) w17 hw17 at_113 N43 gn15 fun T45 h46 ls47 X48 e49 W50 B51 N52 => ?_
    have Zs53 := Nat.le_trans Zs44 (Nat.le_of_eq W50.size.symm)
    refine g_dup 115 rfl C X48 at_114 rfl ?_
    refine g_iconst 116 rfl C X48 (4 : Int32) at_115 rfl ?_
    refine g_iload 118 rfl C X48 at_116 rfl ?_
    refine g_bastore 119 rfl C X48 e49 B51 4 (by decide) (by decide) w17 hw17 at_118 N52 gn15 fun T54 h55 ls56 X57 e58 W59 B60 N61 => ?_
    have Zs62 := Nat.le_trans Zs53 (Nat.le_of_eq W59.size.symm)
    refine g_dup 120 rfl C X57 at_119 rfl ?_
    refine g_iconst 121 rfl C X57 (5 : Int32) at_120 rfl ?_
    refine g_iload 123 rfl C X57 at_121 rfl ?_
    refine g_bastore 124 rfl C X57 e58 B60 5 (by decide) (by decide) w17 hw17 at_123 N61 gn15 fun T63 h64 ls65 X66 e67 W68 B69 N70 => ?_
    have Zs71 := Nat.le_trans Zs62 (Nat.le_of_eq W68.size.symm)
    refine g_dup 125 rfl C X66 at_124 rfl ?_
    refine g_bipush 127 rfl C X66 (6 : Int32) at_125 rfl ?_
    refine g_iload 129 rfl C X66 at_127 rfl ?_
    refine g_bastore 130 rfl C X66 e67 B69 6 (by decide) (by decide) w17 hw17 at_129 N70 gn15 fun T72 h73 ls74 X75 e76 W77 B78 N79 => ?_
    have Zs80 := Nat.le_trans Zs71 (Nat.le_of_eq W77.size.symm)
    refine g_dup 131 rfl C X75 at_130 rfl ?_
    refine g_bipush 133 rfl C X75 (7 : Int32) at_131 rfl ?_
    refine g_iload 135 rfl C X75 at_133 rfl ?_
    refine g_bastore 136 rfl C X75 e76 B78 7 (by decide) (by decide) w17 hw17 at_135 N79 gn15 fun T81 h82 ls83 X84 e85 W86 B87 N88 => ?_
    have Zs89 := Nat.le_trans Zs80 (Nat.le_of_eq W86.size.symm)
    obtain ⟨f90, B91, hk92⟩ : ∃ f : Nat → Int32, Ba Z h82 o9 .byte 8 f ∧ ∀ k, k < 8 → (f k).toInt = w17.toInt := ⟨_, B87, fun k hk => by
        simp only [upd_eq]; repeat' split
        all_goals first | rfl | omega⟩
    refine g_astore 138 rfl C X84 #[.val (.int p0), .val (.int p1), .val (.int p2), .val (.int p3), .val (.int v1), .val (.int v2), .val (.int v4), .val (.int v5), .val (.int v6), .val (.ref o9), .unset, .unset, .unset, .unset, .unset, .unset, .unset] at_136 rfl rfl ?_
    refine g_iload 140 rfl C X84 at_138 rfl ?_
    refine g_aload 142 rfl C X84 at_140 rfl rfl ?_
    refine g_iload 144 rfl C X84 at_142 rfl ?_
    have hq93 : 0 ≤ v4.toInt ∧ v4.toInt < 128 := by
      have fr94 := rng32 v4
      have fr95 := rng32 v2
      have fr96 := rng32 p1
      have fc97 : (2147483647 : Int32).toInt = 2147483647 := rfl
      have fo98 : (p1 &&& (2147483647 : Int32)).toInt = p1.toInt % 2147483648 := c_mask p1 (2147483647 : Int32) 31 (by decide) (by decide)
      have fe99 : (p1 &&& (2147483647 : Int32)).toInt = v2.toInt := congrArg Int32.toInt hv2
      have fc100 : (128 : Int32).toInt = 128 := rfl
      have fo101 := c_irem v2 (128 : Int32) 128 rfl
      have fr102 := rng32 (v2 % (128 : Int32))
      have fe103 : (v2 % (128 : Int32)).toInt = v4.toInt := congrArg Int32.toInt hv4
      omega
    have hq104 : 0 ≤ v5.toInt ∧ v5.toInt ≤ 4 := by
      have fr105 := rng32 v5
      have fr106 := rng32 p2
      have fc107 : (2147483647 : Int32).toInt = 2147483647 := rfl
      have fo108 : (p2 &&& (2147483647 : Int32)).toInt = p2.toInt % 2147483648 := c_mask p2 (2147483647 : Int32) 31 (by decide) (by decide)
      have fc109 : (5 : Int32).toInt = 5 := rfl
      have fo110 := c_irem (p2 &&& (2147483647 : Int32)) (5 : Int32) 5 rfl
      have fr111 := rng32 ((p2 &&& (2147483647 : Int32)) % (5 : Int32))
      have fe112 : ((p2 &&& (2147483647 : Int32)) % (5 : Int32)).toInt = v5.toInt := congrArg Int32.toInt hv5
      omega
    obtain ⟨n113, hn113⟩ : ∃ n : Nat, v5.toInt = n := ⟨v5.toInt.toNat, by omega⟩
    have hn1134 : n113 ≤ 4 := by omega
    refine g_callS 147 rfl C X84 (argsL := [(.int v4), (.ref o9), (.int v5)]) (hw _ (List.mem_of_getElem? (i := 2) rfl)) (hw _ (List.mem_of_getElem? (i := 3) rfl)) (hw _ (List.mem_of_getElem? (i := 5) rfl)) (hw _ (List.mem_of_getElem? (i := 4) rfl)) e85 (rm1_1 l Z a0 hw [] v4 o9 v5 f90 n113 h82 n0 Zs89 B91 hn113 (by omega) hq93 gn15) (lenOf pd_30946454 rfl) (by decide) (by decide) (by decide) (by decide) rfl (W := 0) (Nat.le_of_eq rfl) (by decide) at_144 rfl fun r114 T115 Lc116 X117 hQ118 => ?_
    obtain ⟨f119, rfl, hs120, hk121, Nq122, Kc123, B124⟩ := hQ118
    have Zs125 := Nat.le_trans Zs89 Kc123.1
    have N126 := Fr.app N88 Nq122
    show Goes _ _ _ _ _ _ 147 _ [(.int (1 : Int32))]
    refine g_istore 149 rfl C X117 (1 : Int32) rfl #[.val (.int p0), .val (.int p1), .val (.int p2), .val (.int p3), .val (.int v1), .val (.int v2), .val (.int v4), .val (.int v5), .val (.int v6), .val (.ref o9), .val (.int (1 : Int32)), .unset, .unset, .unset, .unset, .unset, .unset] at_147 rfl ?_
    refine g_iload 151 rfl C X117 at_149 rfl ?_
    refine g_sipush 154 rfl C X117 (128 : Int32) at_151 rfl ?_
    have hq128 : v4.toInt < (128 : Int32).toInt := by
      have fc129 : (128 : Int32).toInt = 128 := rfl
      omega
    refine g_icmp_ge_f 157 rfl C X117 at_154 hq128 ?_
    refine g_iconst 158 rfl C X117 (1 : Int32) at_157 rfl ?_
    refine g_goto 185 C X117 at_158 (by decide) (by decide) ?_
    refine g_istore 187 rfl C X117 (1 : Int32) rfl #[.val (.int p0), .val (.int p1), .val (.int p2), .val (.int p3), .val (.int v1), .val (.int v2), .val (.int v4), .val (.int v5), .val (.int v6), .val (.ref o9), .val (.int (1 : Int32)), .val (.int (1 : Int32)), .unset, .unset, .unset, .unset, .unset] at_185 rfl ?_
    refine g_iload 189 rfl C X117 at_187 rfl ?_
    refine g_iload 191 rfl C X117 at_189 rfl ?_
    refine g_icmp_eq_t 196 C X117 at_191 (by decide) (by decide) (by decide) ?_
    refine g_aload 198 rfl C X117 at_196 rfl rfl ?_
    refine g_iconst 199 rfl C X117 (0 : Int32) at_198 rfl ?_
    refine g_iload 201 rfl C X117 at_199 rfl ?_
    refine g_iload 203 rfl C X117 at_201 rfl ?_
    refine g_iload 205 rfl C X117 at_203 rfl ?_
    have hq130 : 0 ≤ v5.toInt ∧ v5.toInt ≤ 4 ∧ 0 ≤ (1 : Int32).toInt ∧ (1 : Int32).toInt ≤ 4 := by
      have fc131 : (1 : Int32).toInt = 1 := rfl
      omega
    refine g_callS 208 rfl C X117 (argsL := [(.ref o9), (.int (0 : Int32)), (.int v5), (.int (1 : Int32)), (.int v6)]) (hw _ (List.mem_of_getElem? (i := 6) rfl)) (hw _ (List.mem_of_getElem? (i := 7) rfl)) (hw _ (List.mem_of_getElem? (i := 9) rfl)) (hw _ (List.mem_of_getElem? (i := 8) rfl)) rfl (rm2 l Z a0 hw [] o9 (0 : Int32) v5 (1 : Int32) v6 f119 0 (f119 0) (T115.heap) n0 Zs125 B124 rfl (by decide) rfl hq130) (lenOf pd_72974198 rfl) (by decide) (by decide) (by decide) (by decide) rfl (W := 0) (Nat.le_of_eq rfl) (by decide) at_205 rfl fun r132 T133 Lc134 X135 hQ136 => ?_
    obtain ⟨r137, rfl, hs138, Nq139, eh140⟩ := hQ136
    have N141 := Fr.app N126 Nq139
    show Goes _ _ _ _ _ _ 208 _ [(.int r137)]
    have hq143 : ¬ (r137.toInt = 0) := by
      have hk0 := hk121 0
      have hk1 := hk92 0 (by decide)
      have hfw : w17.toInt = v6.toInt := by
        have fa := c_i2b v6
        have fb := c_i2b p3
        rw [hw17] at fa; rw [hv6] at fb; omega
      clear hs120
      have fc144 : (0 : Int32).toInt = 0 := rfl
      have fc145 : (1 : Int32).toInt = 1 := rfl
      omega
    refine g_if_eq_f 211 rfl C X135 at_208 hq143 ?_
    clear hs138
    refine g_aload 213 rfl C X135 at_211 rfl rfl ?_
    refine g_iconst 214 rfl C X135 (1 : Int32) at_213 rfl ?_
    refine g_iload 216 rfl C X135 at_214 rfl ?_
    refine g_iload 218 rfl C X135 at_216 rfl ?_
    refine g_iload 220 rfl C X135 at_218 rfl ?_
    have hq146 : 0 ≤ v5.toInt ∧ v5.toInt ≤ 4 ∧ 0 ≤ (1 : Int32).toInt ∧ (1 : Int32).toInt ≤ 4 := by
      have fc147 : (1 : Int32).toInt = 1 := rfl
      omega
    refine g_callS 223 rfl C X135 (argsL := [(.ref o9), (.int (1 : Int32)), (.int v5), (.int (1 : Int32)), (.int v6)]) (hw _ (List.mem_of_getElem? (i := 6) rfl)) (hw _ (List.mem_of_getElem? (i := 7) rfl)) (hw _ (List.mem_of_getElem? (i := 9) rfl)) (hw _ (List.mem_of_getElem? (i := 8) rfl)) eh140 (rm2 l Z a0 hw [] o9 (1 : Int32) v5 (1 : Int32) v6 f119 1 (f119 1) (T115.heap) n0 Zs125 B124 rfl (by decide) rfl hq146) (lenOf pd_72974198 rfl) (by decide) (by decide) (by decide) (by decide) rfl (W := 0) (Nat.le_of_eq rfl) (by decide) at_220 rfl fun r148 T149 Lc150 X151 hQ152 => ?_
    obtain ⟨r153, rfl, hs154, Nq155, eh156⟩ := hQ152
    have N157 := Fr.app N141 Nq155
    show Goes _ _ _ _ _ _ 223 _ [(.int r153)]
    have hq159 : ¬ (r153.toInt = 0) := by
      have hk0 := hk121 1
      have hk1 := hk92 1 (by decide)
      have hfw : w17.toInt = v6.toInt := by
        have fa := c_i2b v6
        have fb := c_i2b p3
        rw [hw17] at fa; rw [hv6] at fb; omega
      clear hs120
      have fc160 : (1 : Int32).toInt = 1 := rfl
      omega
    refine g_if_eq_f 226 rfl C X151 at_223 hq159 ?_
    clear hs154
    refine g_aload 228 rfl C X151 at_226 rfl rfl ?_
    refine g_iconst 229 rfl C X151 (2 : Int32) at_228 rfl ?_
    refine g_iload 231 rfl C X151 at_229 rfl ?_
    refine g_iload 233 rfl C X151 at_231 rfl ?_
    refine g_iload 235 rfl C X151 at_233 rfl ?_
    have hq161 : 0 ≤ v5.toInt ∧ v5.toInt ≤ 4 ∧ 0 ≤ (1 : Int32).toInt ∧ (1 : Int32).toInt ≤ 4 := by
      have fc162 : (1 : Int32).toInt = 1 := rfl
      omega
    refine g_callS 238 rfl C X151 (argsL := [(.ref o9), (.int (2 : Int32)), (.int v5), (.int (1 : Int32)), (.int v6)]) (hw _ (List.mem_of_getElem? (i := 6) rfl)) (hw _ (List.mem_of_getElem? (i := 7) rfl)) (hw _ (List.mem_of_getElem? (i := 9) rfl)) (hw _ (List.mem_of_getElem? (i := 8) rfl)) eh156 (rm2 l Z a0 hw [] o9 (2 : Int32) v5 (1 : Int32) v6 f119 2 (f119 2) (T115.heap) n0 Zs125 B124 rfl (by decide) rfl hq161) (lenOf pd_72974198 rfl) (by decide) (by decide) (by decide) (by decide) rfl (W := 0) (Nat.le_of_eq rfl) (by decide) at_235 rfl fun r163 T164 Lc165 X166 hQ167 => ?_
    obtain ⟨r168, rfl, hs169, Nq170, eh171⟩ := hQ167
    have N172 := Fr.app N157 Nq170
    show Goes _ _ _ _ _ _ 238 _ [(.int r168)]
    have hq174 : ¬ (r168.toInt = 0) := by
      have hk0 := hk121 2
      have hk1 := hk92 2 (by decide)
      have hfw : w17.toInt = v6.toInt := by
        have fa := c_i2b v6
        have fb := c_i2b p3
        rw [hw17] at fa; rw [hv6] at fb; omega
      clear hs120
      have fc175 : (2 : Int32).toInt = 2 := rfl
      have fc176 : (1 : Int32).toInt = 1 := rfl
      omega
    refine g_if_eq_f 241 rfl C X166 at_238 hq174 ?_
    clear hs169
    refine g_aload 243 rfl C X166 at_241 rfl rfl ?_
    refine g_iconst 244 rfl C X166 (3 : Int32) at_243 rfl ?_
    refine g_iload 246 rfl C X166 at_244 rfl ?_
    refine g_iload 248 rfl C X166 at_246 rfl ?_
    refine g_iload 250 rfl C X166 at_248 rfl ?_
    have hq177 : 0 ≤ v5.toInt ∧ v5.toInt ≤ 4 ∧ 0 ≤ (1 : Int32).toInt ∧ (1 : Int32).toInt ≤ 4 := by
      have fc178 : (1 : Int32).toInt = 1 := rfl
      omega
    refine g_callS 253 rfl C X166 (argsL := [(.ref o9), (.int (3 : Int32)), (.int v5), (.int (1 : Int32)), (.int v6)]) (hw _ (List.mem_of_getElem? (i := 6) rfl)) (hw _ (List.mem_of_getElem? (i := 7) rfl)) (hw _ (List.mem_of_getElem? (i := 9) rfl)) (hw _ (List.mem_of_getElem? (i := 8) rfl)) eh171 (rm2 l Z a0 hw [] o9 (3 : Int32) v5 (1 : Int32) v6 f119 3 (f119 3) (T115.heap) n0 Zs125 B124 rfl (by decide) rfl hq177) (lenOf pd_72974198 rfl) (by decide) (by decide) (by decide) (by decide) rfl (W := 0) (Nat.le_of_eq rfl) (by decide) at_250 rfl fun r179 T180 Lc181 X182 hQ183 => ?_
    obtain ⟨r184, rfl, hs185, Nq186, eh187⟩ := hQ183
    have N188 := Fr.app N172 Nq186
    show Goes _ _ _ _ _ _ 253 _ [(.int r184)]
    have hq190 : ¬ (r184.toInt = 0) := by
      have hk0 := hk121 3
      have hk1 := hk92 3 (by decide)
      have hfw : w17.toInt = v6.toInt := by
        have fa := c_i2b v6
        have fb := c_i2b p3
        rw [hw17] at fa; rw [hv6] at fb; omega
      clear hs120
      have fc191 : (3 : Int32).toInt = 3 := rfl
      have fc192 : (1 : Int32).toInt = 1 := rfl
      omega
    refine g_if_eq_f 256 rfl C X182 at_253 hq190 ?_
    clear hs185
    refine g_aload 258 rfl C X182 at_256 rfl rfl ?_
    refine g_iconst 259 rfl C X182 (4 : Int32) at_258 rfl ?_
    refine g_iload 261 rfl C X182 at_259 rfl ?_
    refine g_iload 263 rfl C X182 at_261 rfl ?_
    refine g_iload 265 rfl C X182 at_263 rfl ?_
    have hq193 : 0 ≤ v5.toInt ∧ v5.toInt ≤ 4 ∧ 0 ≤ (1 : Int32).toInt ∧ (1 : Int32).toInt ≤ 4 := by
      have fc194 : (1 : Int32).toInt = 1 := rfl
      omega
    refine g_callS 268 rfl C X182 (argsL := [(.ref o9), (.int (4 : Int32)), (.int v5), (.int (1 : Int32)), (.int v6)]) (hw _ (List.mem_of_getElem? (i := 6) rfl)) (hw _ (List.mem_of_getElem? (i := 7) rfl)) (hw _ (List.mem_of_getElem? (i := 9) rfl)) (hw _ (List.mem_of_getElem? (i := 8) rfl)) eh187 (rm2 l Z a0 hw [] o9 (4 : Int32) v5 (1 : Int32) v6 f119 4 (f119 4) (T115.heap) n0 Zs125 B124 rfl (by decide) rfl hq193) (lenOf pd_72974198 rfl) (by decide) (by decide) (by decide) (by decide) rfl (W := 0) (Nat.le_of_eq rfl) (by decide) at_265 rfl fun r195 T196 Lc197 X198 hQ199 => ?_
    obtain ⟨r200, rfl, hs201, Nq202, eh203⟩ := hQ199
    have N204 := Fr.app N188 Nq202
    show Goes _ _ _ _ _ _ 268 _ [(.int r200)]
    have hq206 : ¬ (r200.toInt = 0) := by
      have hk0 := hk121 4
      have hk1 := hk92 4 (by decide)
      have hfw : w17.toInt = v6.toInt := by
        have fa := c_i2b v6
        have fb := c_i2b p3
        rw [hw17] at fa; rw [hv6] at fb; omega
      clear hs120
      have fc207 : (4 : Int32).toInt = 4 := rfl
      have fc208 : (1 : Int32).toInt = 1 := rfl
      omega
    refine g_if_eq_f 271 rfl C X198 at_268 hq206 ?_
    clear hs201
    refine g_aload 273 rfl C X198 at_271 rfl rfl ?_
    refine g_iconst 274 rfl C X198 (5 : Int32) at_273 rfl ?_
    refine g_iload 276 rfl C X198 at_274 rfl ?_
    refine g_iload 278 rfl C X198 at_276 rfl ?_
    refine g_iload 280 rfl C X198 at_278 rfl ?_
    have hq209 : 0 ≤ v5.toInt ∧ v5.toInt ≤ 4 ∧ 0 ≤ (1 : Int32).toInt ∧ (1 : Int32).toInt ≤ 4 := by
      have fc210 : (1 : Int32).toInt = 1 := rfl
      omega
    refine g_callS 283 rfl C X198 (argsL := [(.ref o9), (.int (5 : Int32)), (.int v5), (.int (1 : Int32)), (.int v6)]) (hw _ (List.mem_of_getElem? (i := 6) rfl)) (hw _ (List.mem_of_getElem? (i := 7) rfl)) (hw _ (List.mem_of_getElem? (i := 9) rfl)) (hw _ (List.mem_of_getElem? (i := 8) rfl)) eh203 (rm2 l Z a0 hw [] o9 (5 : Int32) v5 (1 : Int32) v6 f119 5 (f119 5) (T115.heap) n0 Zs125 B124 rfl (by decide) rfl hq209) (lenOf pd_72974198 rfl) (by decide) (by decide) (by decide) (by decide) rfl (W := 0) (Nat.le_of_eq rfl) (by decide) at_280 rfl fun r211 T212 Lc213 X214 hQ215 => ?_
    obtain ⟨r216, rfl, hs217, Nq218, eh219⟩ := hQ215
    have N220 := Fr.app N204 Nq218
    show Goes _ _ _ _ _ _ 283 _ [(.int r216)]
    have hq222 : ¬ (r216.toInt = 0) := by
      have hk0 := hk121 5
      have hk1 := hk92 5 (by decide)
      have hfw : w17.toInt = v6.toInt := by
        have fa := c_i2b v6
        have fb := c_i2b p3
        rw [hw17] at fa; rw [hv6] at fb; omega
      clear hs120
      have fc223 : (5 : Int32).toInt = 5 := rfl
      have fc224 : (1 : Int32).toInt = 1 := rfl
      omega
    refine g_if_eq_f 286 rfl C X214 at_283 hq222 ?_
    clear hs217
    refine g_aload 288 rfl C X214 at_286 rfl rfl ?_
    refine g_bipush 290 rfl C X214 (6 : Int32) at_288 rfl ?_
    refine g_iload 292 rfl C X214 at_290 rfl ?_
    refine g_iload 294 rfl C X214 at_292 rfl ?_
    refine g_iload 296 rfl C X214 at_294 rfl ?_
    have hq225 : 0 ≤ v5.toInt ∧ v5.toInt ≤ 4 ∧ 0 ≤ (1 : Int32).toInt ∧ (1 : Int32).toInt ≤ 4 := by
      have fc226 : (1 : Int32).toInt = 1 := rfl
      omega
    refine g_callS 299 rfl C X214 (argsL := [(.ref o9), (.int (6 : Int32)), (.int v5), (.int (1 : Int32)), (.int v6)]) (hw _ (List.mem_of_getElem? (i := 6) rfl)) (hw _ (List.mem_of_getElem? (i := 7) rfl)) (hw _ (List.mem_of_getElem? (i := 9) rfl)) (hw _ (List.mem_of_getElem? (i := 8) rfl)) eh219 (rm2 l Z a0 hw [] o9 (6 : Int32) v5 (1 : Int32) v6 f119 6 (f119 6) (T115.heap) n0 Zs125 B124 rfl (by decide) rfl hq225) (lenOf pd_72974198 rfl) (by decide) (by decide) (by decide) (by decide) rfl (W := 0) (Nat.le_of_eq rfl) (by decide) at_296 rfl fun r227 T228 Lc229 X230 hQ231 => ?_
    obtain ⟨r232, rfl, hs233, Nq234, eh235⟩ := hQ231
    have N236 := Fr.app N220 Nq234
    show Goes _ _ _ _ _ _ 299 _ [(.int r232)]
    have hq238 : ¬ (r232.toInt = 0) := by
      have hk0 := hk121 6
      have hk1 := hk92 6 (by decide)
      have hfw : w17.toInt = v6.toInt := by
        have fa := c_i2b v6
        have fb := c_i2b p3
        rw [hw17] at fa; rw [hv6] at fb; omega
      clear hs120
      have fc239 : (6 : Int32).toInt = 6 := rfl
      have fc240 : (1 : Int32).toInt = 1 := rfl
      omega
    refine g_if_eq_f 302 rfl C X230 at_299 hq238 ?_
    clear hs233
    refine g_aload 304 rfl C X230 at_302 rfl rfl ?_
    refine g_bipush 306 rfl C X230 (7 : Int32) at_304 rfl ?_
    refine g_iload 308 rfl C X230 at_306 rfl ?_
    refine g_iload 310 rfl C X230 at_308 rfl ?_
    refine g_iload 312 rfl C X230 at_310 rfl ?_
    have hq241 : 0 ≤ v5.toInt ∧ v5.toInt ≤ 4 ∧ 0 ≤ (1 : Int32).toInt ∧ (1 : Int32).toInt ≤ 4 := by
      have fc242 : (1 : Int32).toInt = 1 := rfl
      omega
    refine g_callS 315 rfl C X230 (argsL := [(.ref o9), (.int (7 : Int32)), (.int v5), (.int (1 : Int32)), (.int v6)]) (hw _ (List.mem_of_getElem? (i := 6) rfl)) (hw _ (List.mem_of_getElem? (i := 7) rfl)) (hw _ (List.mem_of_getElem? (i := 9) rfl)) (hw _ (List.mem_of_getElem? (i := 8) rfl)) eh235 (rm2 l Z a0 hw [] o9 (7 : Int32) v5 (1 : Int32) v6 f119 7 (f119 7) (T115.heap) n0 Zs125 B124 rfl (by decide) rfl hq241) (lenOf pd_72974198 rfl) (by decide) (by decide) (by decide) (by decide) rfl (W := 0) (Nat.le_of_eq rfl) (by decide) at_312 rfl fun r243 T244 Lc245 X246 hQ247 => ?_
    obtain ⟨r248, rfl, hs249, Nq250, eh251⟩ := hQ247
    have N252 := Fr.app N236 Nq250
    show Goes _ _ _ _ _ _ 315 _ [(.int r248)]
    have hq254 : ¬ (r248.toInt = 0) := by
      have hk0 := hk121 7
      have hk1 := hk92 7 (by decide)
      have hfw : w17.toInt = v6.toInt := by
        have fa := c_i2b v6
        have fb := c_i2b p3
        rw [hw17] at fa; rw [hv6] at fb; omega
      clear hs120
      have fc255 : (7 : Int32).toInt = 7 := rfl
      have fc256 : (1 : Int32).toInt = 1 := rfl
      omega
    refine g_if_eq_f 318 rfl C X246 at_315 hq254 ?_
    clear hs249
    refine g_iconst 319 rfl C X246 (1 : Int32) at_318 rfl ?_
    refine g_goto 323 C X246 at_319 (by decide) (by decide) ?_
    refine g_istore 325 rfl C X246 (1 : Int32) rfl #[.val (.int p0), .val (.int p1), .val (.int p2), .val (.int p3), .val (.int v1), .val (.int v2), .val (.int v4), .val (.int v5), .val (.int v6), .val (.ref o9), .val (.int (1 : Int32)), .val (.int (1 : Int32)), .val (.int (1 : Int32)), .unset, .unset, .unset, .unset] at_323 rfl ?_
    refine g_iload 327 rfl C X246 at_325 rfl ?_
    refine g_if_ne_t 332 C X246 at_327 (by decide) (by decide) (by decide) ?_
    refine g_aload 334 rfl C X246 at_332 rfl rfl ?_
    refine g_iload 336 rfl C X246 at_334 rfl ?_
    have fr257 := rng32 v5
    have fr258 := rng32 p2
    have fc259 : (2147483647 : Int32).toInt = 2147483647 := rfl
    have fo260 : (p2 &&& (2147483647 : Int32)).toInt = p2.toInt % 2147483648 := c_mask p2 (2147483647 : Int32) 31 (by decide) (by decide)
    have fc261 : (5 : Int32).toInt = 5 := rfl
    have fo262 := c_irem (p2 &&& (2147483647 : Int32)) (5 : Int32) 5 rfl
    have fr263 := rng32 ((p2 &&& (2147483647 : Int32)) % (5 : Int32))
    have fe264 : ((p2 &&& (2147483647 : Int32)) % (5 : Int32)).toInt = v5.toInt := congrArg Int32.toInt hv5
    refine g_baload 337 rfl C X246 eh251 B124 (n113) (by omega) (by omega) (f119 n113) rfl at_336 ?_
    refine g_sipush 340 rfl C X246 (255 : Int32) at_337 rfl ?_
    refine g_iand 341 rfl C X246 at_340 ?_
    obtain ⟨v265, hv265⟩ : ∃ z : Int32, ((f119 n113) &&& (255 : Int32)) = z := ⟨_, rfl⟩
    refine g_istore 343 rfl C X246 v265 hv265 #[.val (.int p0), .val (.int p1), .val (.int p2), .val (.int p3), .val (.int v1), .val (.int v2), .val (.int v4), .val (.int v5), .val (.int v6), .val (.ref o9), .val (.int (1 : Int32)), .val (.int (1 : Int32)), .val (.int (1 : Int32)), .val (.int v265), .unset, .unset, .unset] at_341 rfl ?_
    refine g_aload 345 rfl C X246 at_343 rfl rfl ?_
    refine g_iload 347 rfl C X246 at_345 rfl ?_
    refine g_iconst 348 rfl C X246 (1 : Int32) at_347 rfl ?_
    refine g_iadd 349 rfl C X246 at_348 ?_
    have fc266 : (1 : Int32).toInt = 1 := rfl
    have fo267 := c_iadd v5 (1 : Int32)
    have fr268 := rng32 (v5 + (1 : Int32))
    refine g_baload 350 rfl C X246 eh251 B124 (n113 + 1) (by omega) (by omega) (f119 (n113 + 1)) rfl at_349 ?_
    refine g_sipush 353 rfl C X246 (255 : Int32) at_350 rfl ?_
    refine g_iand 354 rfl C X246 at_353 ?_
    obtain ⟨v269, hv269⟩ : ∃ z : Int32, ((f119 (n113 + 1)) &&& (255 : Int32)) = z := ⟨_, rfl⟩
    refine g_istore 356 rfl C X246 v269 hv269 #[.val (.int p0), .val (.int p1), .val (.int p2), .val (.int p3), .val (.int v1), .val (.int v2), .val (.int v4), .val (.int v5), .val (.int v6), .val (.ref o9), .val (.int (1 : Int32)), .val (.int (1 : Int32)), .val (.int (1 : Int32)), .val (.int v265), .val (.int v269), .unset, .unset] at_354 rfl ?_
    refine g_aload 358 rfl C X246 at_356 rfl rfl ?_
    refine g_iload 360 rfl C X246 at_358 rfl ?_
    refine g_iconst 361 rfl C X246 (2 : Int32) at_360 rfl ?_
    refine g_iadd 362 rfl C X246 at_361 ?_
    have fc270 : (2 : Int32).toInt = 2 := rfl
    have fo271 := c_iadd v5 (2 : Int32)
    have fr272 := rng32 (v5 + (2 : Int32))
    refine g_baload 363 rfl C X246 eh251 B124 (n113 + 2) (by omega) (by omega) (f119 (n113 + 2)) rfl at_362 ?_
    refine g_sipush 366 rfl C X246 (255 : Int32) at_363 rfl ?_
    refine g_iand 367 rfl C X246 at_366 ?_
    obtain ⟨v273, hv273⟩ : ∃ z : Int32, ((f119 (n113 + 2)) &&& (255 : Int32)) = z := ⟨_, rfl⟩
    refine g_istore 369 rfl C X246 v273 hv273 #[.val (.int p0), .val (.int p1), .val (.int p2), .val (.int p3), .val (.int v1), .val (.int v2), .val (.int v4), .val (.int v5), .val (.int v6), .val (.ref o9), .val (.int (1 : Int32)), .val (.int (1 : Int32)), .val (.int (1 : Int32)), .val (.int v265), .val (.int v269), .val (.int v273), .unset] at_367 rfl ?_
    refine g_aload 371 rfl C X246 at_369 rfl rfl ?_
    refine g_iload 373 rfl C X246 at_371 rfl ?_
    refine g_iconst 374 rfl C X246 (3 : Int32) at_373 rfl ?_
    refine g_iadd 375 rfl C X246 at_374 ?_
    have fc274 : (3 : Int32).toInt = 3 := rfl
    have fo275 := c_iadd v5 (3 : Int32)
    have fr276 := rng32 (v5 + (3 : Int32))
    refine g_baload 376 rfl C X246 eh251 B124 (n113 + 3) (by omega) (by omega) (f119 (n113 + 3)) rfl at_375 ?_
    refine g_sipush 379 rfl C X246 (255 : Int32) at_376 rfl ?_
    refine g_iand 380 rfl C X246 at_379 ?_
    obtain ⟨v277, hv277⟩ : ∃ z : Int32, ((f119 (n113 + 3)) &&& (255 : Int32)) = z := ⟨_, rfl⟩
    refine g_istore 382 rfl C X246 v277 hv277 #[.val (.int p0), .val (.int p1), .val (.int p2), .val (.int p3), .val (.int v1), .val (.int v2), .val (.int v4), .val (.int v5), .val (.int v6), .val (.ref o9), .val (.int (1 : Int32)), .val (.int (1 : Int32)), .val (.int (1 : Int32)), .val (.int v265), .val (.int v269), .val (.int v273), .val (.int v277)] at_380 rfl ?_
    refine g_iload 384 rfl C X246 at_382 rfl ?_
    refine g_iconst 385 rfl C X246 (1 : Int32) at_384 rfl ?_
    refine g_icmp_ne_f 388 rfl C X246 at_385 (by decide) ?_
    refine g_iload 390 rfl C X246 at_388 rfl ?_
    refine g_iload 392 rfl C X246 at_390 rfl ?_
    have hq279 : v265.toInt = v4.toInt := by
      have fr280 := rng32 v265
      have fr281 := rng32 (f119 n113)
      have fc282 : (255 : Int32).toInt = 255 := rfl
      have fo283 : ((f119 n113) &&& (255 : Int32)).toInt = (f119 n113).toInt % 256 := c_mask (f119 n113) (255 : Int32) 8 (by decide) (by decide)
      have fe284 : ((f119 n113) &&& (255 : Int32)).toInt = v265.toInt := congrArg Int32.toInt hv265
      have fr285 := rng32 v4
      have fr286 := rng32 v2
      have fr287 := rng32 p1
      have fo288 : (p1 &&& (2147483647 : Int32)).toInt = p1.toInt % 2147483648 := c_mask p1 (2147483647 : Int32) 31 (by decide) (by decide)
      have fe289 : (p1 &&& (2147483647 : Int32)).toInt = v2.toInt := congrArg Int32.toInt hv2
      have fc290 : (128 : Int32).toInt = 128 := rfl
      have fo291 := c_irem v2 (128 : Int32) 128 rfl
      have fr292 := rng32 (v2 % (128 : Int32))
      have fe293 : (v2 % (128 : Int32)).toInt = v4.toInt := congrArg Int32.toInt hv4
      omega
    refine g_icmp_ne_f 395 rfl C X246 at_392 hq279 ?_
    refine g_iconst 396 rfl C X246 (1 : Int32) at_395 rfl ?_
    refine g_goto 400 C X246 at_396 (by decide) (by decide) ?_
    exact g_retN C X246 (z' := (1 : Int32)) rfl (Or.inl rfl) at_400 eh251 (by decide) (by decide) rfl ⟨rfl, N252⟩
  · skip
    refine g_if_ne_t 27 C X0 at_13 (by decide) (by decide) hb3 ?_
    refine g_iload 29 rfl C X0 at_27 rfl ?_
    refine g_iconst 30 rfl C X0 (1 : Int32) at_29 rfl ?_
    by_cases hb294 : v1.toInt = (1 : Int32).toInt
    · skip
      refine g_icmp_ne_f 33 rfl C X0 at_30 hb294 ?_
      refine g_sipush 36 rfl C X0 (128 : Int32) at_33 rfl ?_
      refine g_iload 38 rfl C X0 at_36 rfl ?_
      refine g_sipush 41 rfl C X0 (1920 : Int32) at_38 rfl ?_
      refine g_irem 42 rfl C X0 at_41 (by decide) ?_
      refine g_iadd 43 rfl C X0 at_42 ?_
      obtain ⟨v295, hv295⟩ : ∃ z : Int32, ((128 : Int32) + (v2 % (1920 : Int32))) = z := ⟨_, rfl⟩
      refine g_istore 45 rfl C X0 v295 hv295 #[.val (.int p0), .val (.int p1), .val (.int p2), .val (.int p3), .val (.int v1), .val (.int v2), .val (.int v295), .unset, .unset, .unset, .unset, .unset, .unset, .unset, .unset, .unset, .unset] at_43 rfl ?_
      refine g_goto 78 C X0 at_45 (by decide) (by decide) ?_
      refine g_iloadN 79 rfl C X0 at_78 rfl ?_
      refine g_ldc 81 rfl C X0 (hw _ (List.mem_of_getElem? (i := 0) rfl)) at_79 ?_
      refine g_iand 82 rfl C X0 at_81 ?_
      refine g_iconst 83 rfl C X0 (5 : Int32) at_82 rfl ?_
      refine g_irem 84 rfl C X0 at_83 (by decide) ?_
      obtain ⟨v296, hv296⟩ : ∃ z : Int32, ((p2 &&& (2147483647 : Int32)) % (5 : Int32)) = z := ⟨_, rfl⟩
      refine g_istore 86 rfl C X0 v296 hv296 #[.val (.int p0), .val (.int p1), .val (.int p2), .val (.int p3), .val (.int v1), .val (.int v2), .val (.int v295), .val (.int v296), .unset, .unset, .unset, .unset, .unset, .unset, .unset, .unset, .unset] at_84 rfl ?_
      refine g_iloadN 87 rfl C X0 at_86 rfl ?_
      refine g_i2b 88 rfl C X0 at_87 ?_
      obtain ⟨v297, hv297⟩ : ∃ z : Int32, ((p3).toInt8.toInt32) = z := ⟨_, rfl⟩
      refine g_istore 90 rfl C X0 v297 hv297 #[.val (.int p0), .val (.int p1), .val (.int p2), .val (.int p3), .val (.int v1), .val (.int v2), .val (.int v295), .val (.int v296), .val (.int v297), .unset, .unset, .unset, .unset, .unset, .unset, .unset, .unset] at_88 rfl ?_
      refine g_bipush 92 rfl C X0 (8 : Int32) at_90 rfl ?_
      refine g_newP 94 rfl C X0 8 (by decide) 8 (by decide) (by decide) rfl (hw _ (List.mem_of_getElem? (i := 1) rfl)) e0 at_92 (by decide) (by decide) fun T298 h299 o300 g301 X302 e303 E304 B305 => ?_
      have gn306 : n0 ≤ o300 := by rw [g301]; exact Z0
      have Zs307 := Nat.le_trans Z0 E304.1
      refine g_dup 95 rfl C X302 at_94 rfl ?_
      refine g_iconst 96 rfl C X302 (0 : Int32) at_95 rfl ?_
      refine g_iload 98 rfl C X302 at_96 rfl ?_
      obtain ⟨w308, hw308⟩ : ∃ z : Int32, ((v297).toInt8.toInt32) = z := ⟨_, rfl⟩
      refine g_bastore 99 rfl C X302 e303 B305 0 (by decide) (by decide) w308 hw308 at_98 N0 gn306 fun T309 h310 ls311 X312 e313 W314 B315 N316 => ?_
      have Zs317 := Nat.le_trans Zs307 (Nat.le_of_eq W314.size.symm)
      refine g_dup 100 rfl C X312 at_99 rfl ?_
      refine g_iconst 101 rfl C X312 (1 : Int32) at_100 rfl ?_
      refine g_iload 103 rfl C X312 at_101 rfl ?_
      refine g_bastore 104 rfl C X312 e313 B315 1 (by decide) (by decide) w308 hw308 at_103 N316 gn306 fun T318 h319 ls320 X321 e322 W323 B324 N325 => ?_
      have Zs326 := Nat.le_trans Zs317 (Nat.le_of_eq W323.size.symm)
      refine g_dup 105 rfl C X321 at_104 rfl ?_
      refine g_iconst 106 rfl C X321 (2 : Int32) at_105 rfl ?_
      refine g_iload 108 rfl C X321 at_106 rfl ?_
      refine g_bastore 109 rfl C X321 e322 B324 2 (by decide) (by decide) w308 hw308 at_108 N325 gn306 fun T327 h328 ls329 X330 e331 W332 B333 N334 => ?_
      have Zs335 := Nat.le_trans Zs326 (Nat.le_of_eq W332.size.symm)
      refine g_dup 110 rfl C X330 at_109 rfl ?_
      refine g_iconst 111 rfl C X330 (3 : Int32) at_110 rfl ?_
      refine g_iload 113 rfl C X330 at_111 rfl ?_
      refine g_bastore 114 rfl C X330 e331 B333 3 (by decide) (by decide) w308 hw308 at_113 N334 gn306 fun T336 h337 ls338 X339 e340 W341 B342 N343 => ?_
      have Zs344 := Nat.le_trans Zs335 (Nat.le_of_eq W341.size.symm)
      refine g_dup 115 rfl C X339 at_114 rfl ?_
      refine g_iconst 116 rfl C X339 (4 : Int32) at_115 rfl ?_
      refine g_iload 118 rfl C X339 at_116 rfl ?_
      refine g_bastore 119 rfl C X339 e340 B342 4 (by decide) (by decide) w308 hw308 at_118 N343 gn306 fun T345 h346 ls347 X348 e349 W350 B351 N352 => ?_
      have Zs353 := Nat.le_trans Zs344 (Nat.le_of_eq W350.size.symm)
      refine g_dup 120 rfl C X348 at_119 rfl ?_
      refine g_iconst 121 rfl C X348 (5 : Int32) at_120 rfl ?_
      refine g_iload 123 rfl C X348 at_121 rfl ?_
      refine g_bastore 124 rfl C X348 e349 B351 5 (by decide) (by decide) w308 hw308 at_123 N352 gn306 fun T354 h355 ls356 X357 e358 W359 B360 N361 => ?_
      have Zs362 := Nat.le_trans Zs353 (Nat.le_of_eq W359.size.symm)
      refine g_dup 125 rfl C X357 at_124 rfl ?_
      refine g_bipush 127 rfl C X357 (6 : Int32) at_125 rfl ?_
      refine g_iload 129 rfl C X357 at_127 rfl ?_
      refine g_bastore 130 rfl C X357 e358 B360 6 (by decide) (by decide) w308 hw308 at_129 N361 gn306 fun T363 h364 ls365 X366 e367 W368 B369 N370 => ?_
      have Zs371 := Nat.le_trans Zs362 (Nat.le_of_eq W368.size.symm)
      refine g_dup 131 rfl C X366 at_130 rfl ?_
      refine g_bipush 133 rfl C X366 (7 : Int32) at_131 rfl ?_
      refine g_iload 135 rfl C X366 at_133 rfl ?_
      refine g_bastore 136 rfl C X366 e367 B369 7 (by decide) (by decide) w308 hw308 at_135 N370 gn306 fun T372 h373 ls374 X375 e376 W377 B378 N379 => ?_
      have Zs380 := Nat.le_trans Zs371 (Nat.le_of_eq W377.size.symm)
      obtain ⟨f381, B382, hk383⟩ : ∃ f : Nat → Int32, Ba Z h373 o300 .byte 8 f ∧ ∀ k, k < 8 → (f k).toInt = w308.toInt := ⟨_, B378, fun k hk => by
          simp only [upd_eq]; repeat' split
          all_goals first | rfl | omega⟩
      refine g_astore 138 rfl C X375 #[.val (.int p0), .val (.int p1), .val (.int p2), .val (.int p3), .val (.int v1), .val (.int v2), .val (.int v295), .val (.int v296), .val (.int v297), .val (.ref o300), .unset, .unset, .unset, .unset, .unset, .unset, .unset] at_136 rfl rfl ?_
      refine g_iload 140 rfl C X375 at_138 rfl ?_
      refine g_aload 142 rfl C X375 at_140 rfl rfl ?_
      refine g_iload 144 rfl C X375 at_142 rfl ?_
      have hq384 : 128 ≤ v295.toInt ∧ v295.toInt < 2048 := by
        have fr385 := rng32 v295
        have fc386 : (128 : Int32).toInt = 128 := rfl
        have fr387 := rng32 v2
        have fr388 := rng32 p1
        have fc389 : (2147483647 : Int32).toInt = 2147483647 := rfl
        have fo390 : (p1 &&& (2147483647 : Int32)).toInt = p1.toInt % 2147483648 := c_mask p1 (2147483647 : Int32) 31 (by decide) (by decide)
        have fe391 : (p1 &&& (2147483647 : Int32)).toInt = v2.toInt := congrArg Int32.toInt hv2
        have fc392 : (1920 : Int32).toInt = 1920 := rfl
        have fo393 := c_irem v2 (1920 : Int32) 1920 rfl
        have fr394 := rng32 (v2 % (1920 : Int32))
        have fo395 := c_iadd (128 : Int32) (v2 % (1920 : Int32))
        have fr396 := rng32 ((128 : Int32) + (v2 % (1920 : Int32)))
        have fe397 : ((128 : Int32) + (v2 % (1920 : Int32))).toInt = v295.toInt := congrArg Int32.toInt hv295
        omega
      have hq398 : 0 ≤ v296.toInt ∧ v296.toInt ≤ 4 := by
        have fr399 := rng32 v296
        have fr400 := rng32 p2
        have fc401 : (2147483647 : Int32).toInt = 2147483647 := rfl
        have fo402 : (p2 &&& (2147483647 : Int32)).toInt = p2.toInt % 2147483648 := c_mask p2 (2147483647 : Int32) 31 (by decide) (by decide)
        have fc403 : (5 : Int32).toInt = 5 := rfl
        have fo404 := c_irem (p2 &&& (2147483647 : Int32)) (5 : Int32) 5 rfl
        have fr405 := rng32 ((p2 &&& (2147483647 : Int32)) % (5 : Int32))
        have fe406 : ((p2 &&& (2147483647 : Int32)) % (5 : Int32)).toInt = v296.toInt := congrArg Int32.toInt hv296
        omega
      obtain ⟨n407, hn407⟩ : ∃ n : Nat, v296.toInt = n := ⟨v296.toInt.toNat, by omega⟩
      have hn4074 : n407 ≤ 4 := by omega
      refine g_callS 147 rfl C X375 (argsL := [(.int v295), (.ref o300), (.int v296)]) (hw _ (List.mem_of_getElem? (i := 2) rfl)) (hw _ (List.mem_of_getElem? (i := 3) rfl)) (hw _ (List.mem_of_getElem? (i := 5) rfl)) (hw _ (List.mem_of_getElem? (i := 4) rfl)) e376 (rm1_2 l Z a0 hw [] v295 o300 v296 f381 n407 h373 n0 Zs380 B382 hn407 (by omega) hq384 gn306) (lenOf pd_30946454 rfl) (by decide) (by decide) (by decide) (by decide) rfl (W := 0) (Nat.le_of_eq rfl) (by decide) at_144 rfl fun r408 T409 Lc410 X411 hQ412 => ?_
      obtain ⟨f413, rfl, hs414, hk415, Nq416, Kc417, B418⟩ := hQ412
      have Zs419 := Nat.le_trans Zs380 Kc417.1
      have N420 := Fr.app N379 Nq416
      show Goes _ _ _ _ _ _ 147 _ [(.int (2 : Int32))]
      refine g_istore 149 rfl C X411 (2 : Int32) rfl #[.val (.int p0), .val (.int p1), .val (.int p2), .val (.int p3), .val (.int v1), .val (.int v2), .val (.int v295), .val (.int v296), .val (.int v297), .val (.ref o300), .val (.int (2 : Int32)), .unset, .unset, .unset, .unset, .unset, .unset] at_147 rfl ?_
      refine g_iload 151 rfl C X411 at_149 rfl ?_
      refine g_sipush 154 rfl C X411 (128 : Int32) at_151 rfl ?_
      have hq422 : ¬ (v295.toInt < (128 : Int32).toInt) := by
        have fc423 : (128 : Int32).toInt = 128 := rfl
        omega
      refine g_icmp_ge_t 161 C X411 at_154 (by decide) (by decide) hq422 ?_
      refine g_iload 163 rfl C X411 at_161 rfl ?_
      refine g_sipush 166 rfl C X411 (2048 : Int32) at_163 rfl ?_
      have hq425 : v295.toInt < (2048 : Int32).toInt := by
        have fc426 : (2048 : Int32).toInt = 2048 := rfl
        omega
      refine g_icmp_ge_f 169 rfl C X411 at_166 hq425 ?_
      refine g_iconst 170 rfl C X411 (2 : Int32) at_169 rfl ?_
      refine g_goto 185 C X411 at_170 (by decide) (by decide) ?_
      refine g_istore 187 rfl C X411 (2 : Int32) rfl #[.val (.int p0), .val (.int p1), .val (.int p2), .val (.int p3), .val (.int v1), .val (.int v2), .val (.int v295), .val (.int v296), .val (.int v297), .val (.ref o300), .val (.int (2 : Int32)), .val (.int (2 : Int32)), .unset, .unset, .unset, .unset, .unset] at_185 rfl ?_
      refine g_iload 189 rfl C X411 at_187 rfl ?_
      refine g_iload 191 rfl C X411 at_189 rfl ?_
      refine g_icmp_eq_t 196 C X411 at_191 (by decide) (by decide) (by decide) ?_
      refine g_aload 198 rfl C X411 at_196 rfl rfl ?_
      refine g_iconst 199 rfl C X411 (0 : Int32) at_198 rfl ?_
      refine g_iload 201 rfl C X411 at_199 rfl ?_
      refine g_iload 203 rfl C X411 at_201 rfl ?_
      refine g_iload 205 rfl C X411 at_203 rfl ?_
      have hq427 : 0 ≤ v296.toInt ∧ v296.toInt ≤ 4 ∧ 0 ≤ (2 : Int32).toInt ∧ (2 : Int32).toInt ≤ 4 := by
        have fc428 : (2 : Int32).toInt = 2 := rfl
        omega
      refine g_callS 208 rfl C X411 (argsL := [(.ref o300), (.int (0 : Int32)), (.int v296), (.int (2 : Int32)), (.int v297)]) (hw _ (List.mem_of_getElem? (i := 6) rfl)) (hw _ (List.mem_of_getElem? (i := 7) rfl)) (hw _ (List.mem_of_getElem? (i := 9) rfl)) (hw _ (List.mem_of_getElem? (i := 8) rfl)) rfl (rm2 l Z a0 hw [] o300 (0 : Int32) v296 (2 : Int32) v297 f413 0 (f413 0) (T409.heap) n0 Zs419 B418 rfl (by decide) rfl hq427) (lenOf pd_72974198 rfl) (by decide) (by decide) (by decide) (by decide) rfl (W := 0) (Nat.le_of_eq rfl) (by decide) at_205 rfl fun r429 T430 Lc431 X432 hQ433 => ?_
      obtain ⟨r434, rfl, hs435, Nq436, eh437⟩ := hQ433
      have N438 := Fr.app N420 Nq436
      show Goes _ _ _ _ _ _ 208 _ [(.int r434)]
      have hq440 : ¬ (r434.toInt = 0) := by
        have hk0 := hk415 0
        have hk1 := hk383 0 (by decide)
        have hfw : w308.toInt = v297.toInt := by
          have fa := c_i2b v297
          have fb := c_i2b p3
          rw [hw308] at fa; rw [hv297] at fb; omega
        clear hs414
        have fc441 : (0 : Int32).toInt = 0 := rfl
        have fc442 : (2 : Int32).toInt = 2 := rfl
        omega
      refine g_if_eq_f 211 rfl C X432 at_208 hq440 ?_
      clear hs435
      refine g_aload 213 rfl C X432 at_211 rfl rfl ?_
      refine g_iconst 214 rfl C X432 (1 : Int32) at_213 rfl ?_
      refine g_iload 216 rfl C X432 at_214 rfl ?_
      refine g_iload 218 rfl C X432 at_216 rfl ?_
      refine g_iload 220 rfl C X432 at_218 rfl ?_
      have hq443 : 0 ≤ v296.toInt ∧ v296.toInt ≤ 4 ∧ 0 ≤ (2 : Int32).toInt ∧ (2 : Int32).toInt ≤ 4 := by
        have fc444 : (2 : Int32).toInt = 2 := rfl
        omega
      refine g_callS 223 rfl C X432 (argsL := [(.ref o300), (.int (1 : Int32)), (.int v296), (.int (2 : Int32)), (.int v297)]) (hw _ (List.mem_of_getElem? (i := 6) rfl)) (hw _ (List.mem_of_getElem? (i := 7) rfl)) (hw _ (List.mem_of_getElem? (i := 9) rfl)) (hw _ (List.mem_of_getElem? (i := 8) rfl)) eh437 (rm2 l Z a0 hw [] o300 (1 : Int32) v296 (2 : Int32) v297 f413 1 (f413 1) (T409.heap) n0 Zs419 B418 rfl (by decide) rfl hq443) (lenOf pd_72974198 rfl) (by decide) (by decide) (by decide) (by decide) rfl (W := 0) (Nat.le_of_eq rfl) (by decide) at_220 rfl fun r445 T446 Lc447 X448 hQ449 => ?_
      obtain ⟨r450, rfl, hs451, Nq452, eh453⟩ := hQ449
      have N454 := Fr.app N438 Nq452
      show Goes _ _ _ _ _ _ 223 _ [(.int r450)]
      have hq456 : ¬ (r450.toInt = 0) := by
        have hk0 := hk415 1
        have hk1 := hk383 1 (by decide)
        have hfw : w308.toInt = v297.toInt := by
          have fa := c_i2b v297
          have fb := c_i2b p3
          rw [hw308] at fa; rw [hv297] at fb; omega
        clear hs414
        have fc457 : (1 : Int32).toInt = 1 := rfl
        have fc458 : (2 : Int32).toInt = 2 := rfl
        omega
      refine g_if_eq_f 226 rfl C X448 at_223 hq456 ?_
      clear hs451
      refine g_aload 228 rfl C X448 at_226 rfl rfl ?_
      refine g_iconst 229 rfl C X448 (2 : Int32) at_228 rfl ?_
      refine g_iload 231 rfl C X448 at_229 rfl ?_
      refine g_iload 233 rfl C X448 at_231 rfl ?_
      refine g_iload 235 rfl C X448 at_233 rfl ?_
      have hq459 : 0 ≤ v296.toInt ∧ v296.toInt ≤ 4 ∧ 0 ≤ (2 : Int32).toInt ∧ (2 : Int32).toInt ≤ 4 := by
        have fc460 : (2 : Int32).toInt = 2 := rfl
        omega
      refine g_callS 238 rfl C X448 (argsL := [(.ref o300), (.int (2 : Int32)), (.int v296), (.int (2 : Int32)), (.int v297)]) (hw _ (List.mem_of_getElem? (i := 6) rfl)) (hw _ (List.mem_of_getElem? (i := 7) rfl)) (hw _ (List.mem_of_getElem? (i := 9) rfl)) (hw _ (List.mem_of_getElem? (i := 8) rfl)) eh453 (rm2 l Z a0 hw [] o300 (2 : Int32) v296 (2 : Int32) v297 f413 2 (f413 2) (T409.heap) n0 Zs419 B418 rfl (by decide) rfl hq459) (lenOf pd_72974198 rfl) (by decide) (by decide) (by decide) (by decide) rfl (W := 0) (Nat.le_of_eq rfl) (by decide) at_235 rfl fun r461 T462 Lc463 X464 hQ465 => ?_
      obtain ⟨r466, rfl, hs467, Nq468, eh469⟩ := hQ465
      have N470 := Fr.app N454 Nq468
      show Goes _ _ _ _ _ _ 238 _ [(.int r466)]
      have hq472 : ¬ (r466.toInt = 0) := by
        have hk0 := hk415 2
        have hk1 := hk383 2 (by decide)
        have hfw : w308.toInt = v297.toInt := by
          have fa := c_i2b v297
          have fb := c_i2b p3
          rw [hw308] at fa; rw [hv297] at fb; omega
        clear hs414
        have fc473 : (2 : Int32).toInt = 2 := rfl
        omega
      refine g_if_eq_f 241 rfl C X464 at_238 hq472 ?_
      clear hs467
      refine g_aload 243 rfl C X464 at_241 rfl rfl ?_
      refine g_iconst 244 rfl C X464 (3 : Int32) at_243 rfl ?_
      refine g_iload 246 rfl C X464 at_244 rfl ?_
      refine g_iload 248 rfl C X464 at_246 rfl ?_
      refine g_iload 250 rfl C X464 at_248 rfl ?_
      have hq474 : 0 ≤ v296.toInt ∧ v296.toInt ≤ 4 ∧ 0 ≤ (2 : Int32).toInt ∧ (2 : Int32).toInt ≤ 4 := by
        have fc475 : (2 : Int32).toInt = 2 := rfl
        omega
      refine g_callS 253 rfl C X464 (argsL := [(.ref o300), (.int (3 : Int32)), (.int v296), (.int (2 : Int32)), (.int v297)]) (hw _ (List.mem_of_getElem? (i := 6) rfl)) (hw _ (List.mem_of_getElem? (i := 7) rfl)) (hw _ (List.mem_of_getElem? (i := 9) rfl)) (hw _ (List.mem_of_getElem? (i := 8) rfl)) eh469 (rm2 l Z a0 hw [] o300 (3 : Int32) v296 (2 : Int32) v297 f413 3 (f413 3) (T409.heap) n0 Zs419 B418 rfl (by decide) rfl hq474) (lenOf pd_72974198 rfl) (by decide) (by decide) (by decide) (by decide) rfl (W := 0) (Nat.le_of_eq rfl) (by decide) at_250 rfl fun r476 T477 Lc478 X479 hQ480 => ?_
      obtain ⟨r481, rfl, hs482, Nq483, eh484⟩ := hQ480
      have N485 := Fr.app N470 Nq483
      show Goes _ _ _ _ _ _ 253 _ [(.int r481)]
      have hq487 : ¬ (r481.toInt = 0) := by
        have hk0 := hk415 3
        have hk1 := hk383 3 (by decide)
        have hfw : w308.toInt = v297.toInt := by
          have fa := c_i2b v297
          have fb := c_i2b p3
          rw [hw308] at fa; rw [hv297] at fb; omega
        clear hs414
        have fc488 : (3 : Int32).toInt = 3 := rfl
        have fc489 : (2 : Int32).toInt = 2 := rfl
        omega
      refine g_if_eq_f 256 rfl C X479 at_253 hq487 ?_
      clear hs482
      refine g_aload 258 rfl C X479 at_256 rfl rfl ?_
      refine g_iconst 259 rfl C X479 (4 : Int32) at_258 rfl ?_
      refine g_iload 261 rfl C X479 at_259 rfl ?_
      refine g_iload 263 rfl C X479 at_261 rfl ?_
      refine g_iload 265 rfl C X479 at_263 rfl ?_
      have hq490 : 0 ≤ v296.toInt ∧ v296.toInt ≤ 4 ∧ 0 ≤ (2 : Int32).toInt ∧ (2 : Int32).toInt ≤ 4 := by
        have fc491 : (2 : Int32).toInt = 2 := rfl
        omega
      refine g_callS 268 rfl C X479 (argsL := [(.ref o300), (.int (4 : Int32)), (.int v296), (.int (2 : Int32)), (.int v297)]) (hw _ (List.mem_of_getElem? (i := 6) rfl)) (hw _ (List.mem_of_getElem? (i := 7) rfl)) (hw _ (List.mem_of_getElem? (i := 9) rfl)) (hw _ (List.mem_of_getElem? (i := 8) rfl)) eh484 (rm2 l Z a0 hw [] o300 (4 : Int32) v296 (2 : Int32) v297 f413 4 (f413 4) (T409.heap) n0 Zs419 B418 rfl (by decide) rfl hq490) (lenOf pd_72974198 rfl) (by decide) (by decide) (by decide) (by decide) rfl (W := 0) (Nat.le_of_eq rfl) (by decide) at_265 rfl fun r492 T493 Lc494 X495 hQ496 => ?_
      obtain ⟨r497, rfl, hs498, Nq499, eh500⟩ := hQ496
      have N501 := Fr.app N485 Nq499
      show Goes _ _ _ _ _ _ 268 _ [(.int r497)]
      have hq503 : ¬ (r497.toInt = 0) := by
        have hk0 := hk415 4
        have hk1 := hk383 4 (by decide)
        have hfw : w308.toInt = v297.toInt := by
          have fa := c_i2b v297
          have fb := c_i2b p3
          rw [hw308] at fa; rw [hv297] at fb; omega
        clear hs414
        have fc504 : (4 : Int32).toInt = 4 := rfl
        have fc505 : (2 : Int32).toInt = 2 := rfl
        omega
      refine g_if_eq_f 271 rfl C X495 at_268 hq503 ?_
      clear hs498
      refine g_aload 273 rfl C X495 at_271 rfl rfl ?_
      refine g_iconst 274 rfl C X495 (5 : Int32) at_273 rfl ?_
      refine g_iload 276 rfl C X495 at_274 rfl ?_
      refine g_iload 278 rfl C X495 at_276 rfl ?_
      refine g_iload 280 rfl C X495 at_278 rfl ?_
      have hq506 : 0 ≤ v296.toInt ∧ v296.toInt ≤ 4 ∧ 0 ≤ (2 : Int32).toInt ∧ (2 : Int32).toInt ≤ 4 := by
        have fc507 : (2 : Int32).toInt = 2 := rfl
        omega
      refine g_callS 283 rfl C X495 (argsL := [(.ref o300), (.int (5 : Int32)), (.int v296), (.int (2 : Int32)), (.int v297)]) (hw _ (List.mem_of_getElem? (i := 6) rfl)) (hw _ (List.mem_of_getElem? (i := 7) rfl)) (hw _ (List.mem_of_getElem? (i := 9) rfl)) (hw _ (List.mem_of_getElem? (i := 8) rfl)) eh500 (rm2 l Z a0 hw [] o300 (5 : Int32) v296 (2 : Int32) v297 f413 5 (f413 5) (T409.heap) n0 Zs419 B418 rfl (by decide) rfl hq506) (lenOf pd_72974198 rfl) (by decide) (by decide) (by decide) (by decide) rfl (W := 0) (Nat.le_of_eq rfl) (by decide) at_280 rfl fun r508 T509 Lc510 X511 hQ512 => ?_
      obtain ⟨r513, rfl, hs514, Nq515, eh516⟩ := hQ512
      have N517 := Fr.app N501 Nq515
      show Goes _ _ _ _ _ _ 283 _ [(.int r513)]
      have hq519 : ¬ (r513.toInt = 0) := by
        have hk0 := hk415 5
        have hk1 := hk383 5 (by decide)
        have hfw : w308.toInt = v297.toInt := by
          have fa := c_i2b v297
          have fb := c_i2b p3
          rw [hw308] at fa; rw [hv297] at fb; omega
        clear hs414
        have fc520 : (5 : Int32).toInt = 5 := rfl
        have fc521 : (2 : Int32).toInt = 2 := rfl
        omega
      refine g_if_eq_f 286 rfl C X511 at_283 hq519 ?_
      clear hs514
      refine g_aload 288 rfl C X511 at_286 rfl rfl ?_
      refine g_bipush 290 rfl C X511 (6 : Int32) at_288 rfl ?_
      refine g_iload 292 rfl C X511 at_290 rfl ?_
      refine g_iload 294 rfl C X511 at_292 rfl ?_
      refine g_iload 296 rfl C X511 at_294 rfl ?_
      have hq522 : 0 ≤ v296.toInt ∧ v296.toInt ≤ 4 ∧ 0 ≤ (2 : Int32).toInt ∧ (2 : Int32).toInt ≤ 4 := by
        have fc523 : (2 : Int32).toInt = 2 := rfl
        omega
      refine g_callS 299 rfl C X511 (argsL := [(.ref o300), (.int (6 : Int32)), (.int v296), (.int (2 : Int32)), (.int v297)]) (hw _ (List.mem_of_getElem? (i := 6) rfl)) (hw _ (List.mem_of_getElem? (i := 7) rfl)) (hw _ (List.mem_of_getElem? (i := 9) rfl)) (hw _ (List.mem_of_getElem? (i := 8) rfl)) eh516 (rm2 l Z a0 hw [] o300 (6 : Int32) v296 (2 : Int32) v297 f413 6 (f413 6) (T409.heap) n0 Zs419 B418 rfl (by decide) rfl hq522) (lenOf pd_72974198 rfl) (by decide) (by decide) (by decide) (by decide) rfl (W := 0) (Nat.le_of_eq rfl) (by decide) at_296 rfl fun r524 T525 Lc526 X527 hQ528 => ?_
      obtain ⟨r529, rfl, hs530, Nq531, eh532⟩ := hQ528
      have N533 := Fr.app N517 Nq531
      show Goes _ _ _ _ _ _ 299 _ [(.int r529)]
      have hq535 : ¬ (r529.toInt = 0) := by
        have hk0 := hk415 6
        have hk1 := hk383 6 (by decide)
        have hfw : w308.toInt = v297.toInt := by
          have fa := c_i2b v297
          have fb := c_i2b p3
          rw [hw308] at fa; rw [hv297] at fb; omega
        clear hs414
        have fc536 : (6 : Int32).toInt = 6 := rfl
        have fc537 : (2 : Int32).toInt = 2 := rfl
        omega
      refine g_if_eq_f 302 rfl C X527 at_299 hq535 ?_
      clear hs530
      refine g_aload 304 rfl C X527 at_302 rfl rfl ?_
      refine g_bipush 306 rfl C X527 (7 : Int32) at_304 rfl ?_
      refine g_iload 308 rfl C X527 at_306 rfl ?_
      refine g_iload 310 rfl C X527 at_308 rfl ?_
      refine g_iload 312 rfl C X527 at_310 rfl ?_
      have hq538 : 0 ≤ v296.toInt ∧ v296.toInt ≤ 4 ∧ 0 ≤ (2 : Int32).toInt ∧ (2 : Int32).toInt ≤ 4 := by
        have fc539 : (2 : Int32).toInt = 2 := rfl
        omega
      refine g_callS 315 rfl C X527 (argsL := [(.ref o300), (.int (7 : Int32)), (.int v296), (.int (2 : Int32)), (.int v297)]) (hw _ (List.mem_of_getElem? (i := 6) rfl)) (hw _ (List.mem_of_getElem? (i := 7) rfl)) (hw _ (List.mem_of_getElem? (i := 9) rfl)) (hw _ (List.mem_of_getElem? (i := 8) rfl)) eh532 (rm2 l Z a0 hw [] o300 (7 : Int32) v296 (2 : Int32) v297 f413 7 (f413 7) (T409.heap) n0 Zs419 B418 rfl (by decide) rfl hq538) (lenOf pd_72974198 rfl) (by decide) (by decide) (by decide) (by decide) rfl (W := 0) (Nat.le_of_eq rfl) (by decide) at_312 rfl fun r540 T541 Lc542 X543 hQ544 => ?_
      obtain ⟨r545, rfl, hs546, Nq547, eh548⟩ := hQ544
      have N549 := Fr.app N533 Nq547
      show Goes _ _ _ _ _ _ 315 _ [(.int r545)]
      have hq551 : ¬ (r545.toInt = 0) := by
        have hk0 := hk415 7
        have hk1 := hk383 7 (by decide)
        have hfw : w308.toInt = v297.toInt := by
          have fa := c_i2b v297
          have fb := c_i2b p3
          rw [hw308] at fa; rw [hv297] at fb; omega
        clear hs414
        have fc552 : (7 : Int32).toInt = 7 := rfl
        have fc553 : (2 : Int32).toInt = 2 := rfl
        omega
      refine g_if_eq_f 318 rfl C X543 at_315 hq551 ?_
      clear hs546
      refine g_iconst 319 rfl C X543 (1 : Int32) at_318 rfl ?_
      refine g_goto 323 C X543 at_319 (by decide) (by decide) ?_
      refine g_istore 325 rfl C X543 (1 : Int32) rfl #[.val (.int p0), .val (.int p1), .val (.int p2), .val (.int p3), .val (.int v1), .val (.int v2), .val (.int v295), .val (.int v296), .val (.int v297), .val (.ref o300), .val (.int (2 : Int32)), .val (.int (2 : Int32)), .val (.int (1 : Int32)), .unset, .unset, .unset, .unset] at_323 rfl ?_
      refine g_iload 327 rfl C X543 at_325 rfl ?_
      refine g_if_ne_t 332 C X543 at_327 (by decide) (by decide) (by decide) ?_
      refine g_aload 334 rfl C X543 at_332 rfl rfl ?_
      refine g_iload 336 rfl C X543 at_334 rfl ?_
      have fr554 := rng32 v296
      have fr555 := rng32 p2
      have fc556 : (2147483647 : Int32).toInt = 2147483647 := rfl
      have fo557 : (p2 &&& (2147483647 : Int32)).toInt = p2.toInt % 2147483648 := c_mask p2 (2147483647 : Int32) 31 (by decide) (by decide)
      have fc558 : (5 : Int32).toInt = 5 := rfl
      have fo559 := c_irem (p2 &&& (2147483647 : Int32)) (5 : Int32) 5 rfl
      have fr560 := rng32 ((p2 &&& (2147483647 : Int32)) % (5 : Int32))
      have fe561 : ((p2 &&& (2147483647 : Int32)) % (5 : Int32)).toInt = v296.toInt := congrArg Int32.toInt hv296
      refine g_baload 337 rfl C X543 eh548 B418 (n407) (by omega) (by omega) (f413 n407) rfl at_336 ?_
      refine g_sipush 340 rfl C X543 (255 : Int32) at_337 rfl ?_
      refine g_iand 341 rfl C X543 at_340 ?_
      obtain ⟨v562, hv562⟩ : ∃ z : Int32, ((f413 n407) &&& (255 : Int32)) = z := ⟨_, rfl⟩
      refine g_istore 343 rfl C X543 v562 hv562 #[.val (.int p0), .val (.int p1), .val (.int p2), .val (.int p3), .val (.int v1), .val (.int v2), .val (.int v295), .val (.int v296), .val (.int v297), .val (.ref o300), .val (.int (2 : Int32)), .val (.int (2 : Int32)), .val (.int (1 : Int32)), .val (.int v562), .unset, .unset, .unset] at_341 rfl ?_
      refine g_aload 345 rfl C X543 at_343 rfl rfl ?_
      refine g_iload 347 rfl C X543 at_345 rfl ?_
      refine g_iconst 348 rfl C X543 (1 : Int32) at_347 rfl ?_
      refine g_iadd 349 rfl C X543 at_348 ?_
      have fc563 : (1 : Int32).toInt = 1 := rfl
      have fo564 := c_iadd v296 (1 : Int32)
      have fr565 := rng32 (v296 + (1 : Int32))
      refine g_baload 350 rfl C X543 eh548 B418 (n407 + 1) (by omega) (by omega) (f413 (n407 + 1)) rfl at_349 ?_
      refine g_sipush 353 rfl C X543 (255 : Int32) at_350 rfl ?_
      refine g_iand 354 rfl C X543 at_353 ?_
      obtain ⟨v566, hv566⟩ : ∃ z : Int32, ((f413 (n407 + 1)) &&& (255 : Int32)) = z := ⟨_, rfl⟩
      refine g_istore 356 rfl C X543 v566 hv566 #[.val (.int p0), .val (.int p1), .val (.int p2), .val (.int p3), .val (.int v1), .val (.int v2), .val (.int v295), .val (.int v296), .val (.int v297), .val (.ref o300), .val (.int (2 : Int32)), .val (.int (2 : Int32)), .val (.int (1 : Int32)), .val (.int v562), .val (.int v566), .unset, .unset] at_354 rfl ?_
      refine g_aload 358 rfl C X543 at_356 rfl rfl ?_
      refine g_iload 360 rfl C X543 at_358 rfl ?_
      refine g_iconst 361 rfl C X543 (2 : Int32) at_360 rfl ?_
      refine g_iadd 362 rfl C X543 at_361 ?_
      have fc567 : (2 : Int32).toInt = 2 := rfl
      have fo568 := c_iadd v296 (2 : Int32)
      have fr569 := rng32 (v296 + (2 : Int32))
      refine g_baload 363 rfl C X543 eh548 B418 (n407 + 2) (by omega) (by omega) (f413 (n407 + 2)) rfl at_362 ?_
      refine g_sipush 366 rfl C X543 (255 : Int32) at_363 rfl ?_
      refine g_iand 367 rfl C X543 at_366 ?_
      obtain ⟨v570, hv570⟩ : ∃ z : Int32, ((f413 (n407 + 2)) &&& (255 : Int32)) = z := ⟨_, rfl⟩
      refine g_istore 369 rfl C X543 v570 hv570 #[.val (.int p0), .val (.int p1), .val (.int p2), .val (.int p3), .val (.int v1), .val (.int v2), .val (.int v295), .val (.int v296), .val (.int v297), .val (.ref o300), .val (.int (2 : Int32)), .val (.int (2 : Int32)), .val (.int (1 : Int32)), .val (.int v562), .val (.int v566), .val (.int v570), .unset] at_367 rfl ?_
      refine g_aload 371 rfl C X543 at_369 rfl rfl ?_
      refine g_iload 373 rfl C X543 at_371 rfl ?_
      refine g_iconst 374 rfl C X543 (3 : Int32) at_373 rfl ?_
      refine g_iadd 375 rfl C X543 at_374 ?_
      have fc571 : (3 : Int32).toInt = 3 := rfl
      have fo572 := c_iadd v296 (3 : Int32)
      have fr573 := rng32 (v296 + (3 : Int32))
      refine g_baload 376 rfl C X543 eh548 B418 (n407 + 3) (by omega) (by omega) (f413 (n407 + 3)) rfl at_375 ?_
      refine g_sipush 379 rfl C X543 (255 : Int32) at_376 rfl ?_
      refine g_iand 380 rfl C X543 at_379 ?_
      obtain ⟨v574, hv574⟩ : ∃ z : Int32, ((f413 (n407 + 3)) &&& (255 : Int32)) = z := ⟨_, rfl⟩
      refine g_istore 382 rfl C X543 v574 hv574 #[.val (.int p0), .val (.int p1), .val (.int p2), .val (.int p3), .val (.int v1), .val (.int v2), .val (.int v295), .val (.int v296), .val (.int v297), .val (.ref o300), .val (.int (2 : Int32)), .val (.int (2 : Int32)), .val (.int (1 : Int32)), .val (.int v562), .val (.int v566), .val (.int v570), .val (.int v574)] at_380 rfl ?_
      refine g_iload 384 rfl C X543 at_382 rfl ?_
      refine g_iconst 385 rfl C X543 (1 : Int32) at_384 rfl ?_
      refine g_icmp_ne_t 401 C X543 at_385 (by decide) (by decide) (by decide) ?_
      refine g_iload 403 rfl C X543 at_401 rfl ?_
      refine g_iconst 404 rfl C X543 (2 : Int32) at_403 rfl ?_
      refine g_icmp_ne_f 407 rfl C X543 at_404 (by decide) ?_
      refine g_iload 409 rfl C X543 at_407 rfl ?_
      refine g_sipush 412 rfl C X543 (224 : Int32) at_409 rfl ?_
      refine g_iand 413 rfl C X543 at_412 ?_
      refine g_sipush 416 rfl C X543 (192 : Int32) at_413 rfl ?_
      have hq576 : (v562 &&& (224 : Int32)).toInt = (192 : Int32).toInt := by
        have fr577 := rng32 v562
        have fr578 := rng32 (f413 n407)
        have fc579 : (255 : Int32).toInt = 255 := rfl
        have fo580 : ((f413 n407) &&& (255 : Int32)).toInt = (f413 n407).toInt % 256 := c_mask (f413 n407) (255 : Int32) 8 (by decide) (by decide)
        have fe581 : ((f413 n407) &&& (255 : Int32)).toInt = v562.toInt := congrArg Int32.toInt hv562
        have fc582 : (224 : Int32).toInt = 224 := rfl
        have fc584 : (31 : Int32).toInt = 31 := rfl
        have fo585 : (v562 &&& (31 : Int32)).toInt = v562.toInt % 32 := c_mask v562 (31 : Int32) 5 (by decide) (by decide)
        have fo586 : (v562 &&& (255 : Int32)).toInt = v562.toInt % 256 := c_mask v562 (255 : Int32) 8 (by decide) (by decide)
        have fo583 := own_blk v562 (224 : Int32) (31 : Int32) (255 : Int32) (by decide) (by decide)
        have fo587 := c_and v562 (224 : Int32) (by decide)
        have fr588 := rng32 (v562 &&& (224 : Int32))
        have fc589 : (192 : Int32).toInt = 192 := rfl
        omega
      refine g_icmp_ne_f 419 rfl C X543 at_416 hq576 ?_
      refine g_iload 421 rfl C X543 at_419 rfl ?_
      refine g_callS 424 rfl C X543 (argsL := [(.int v566)]) (hw _ (List.mem_of_getElem? (i := 13) rfl)) (hw _ (List.mem_of_getElem? (i := 14) rfl)) (hw _ (List.mem_of_getElem? (i := 15) rfl)) (hw _ (List.mem_of_getElem? (i := 8) rfl)) eh548 (rm3 l Z a0 hw [] v566 (T409.heap) n0 Zs419) (lenOf pd_52681301 rfl) (by decide) (by decide) (by decide) (by decide) rfl (W := 0) (Nat.le_of_eq rfl) (by decide) at_421 rfl fun r590 T591 Lc592 X593 hQ594 => ?_
      obtain ⟨r595, rfl, hs596, Nq597, eh598⟩ := hQ594
      have N599 := Fr.app N549 Nq597
      show Goes _ _ _ _ _ _ 424 _ [(.int r595)]
      have hq601 : ¬ (r595.toInt = 0) := by
        have fr602 := rng32 r595
        have fr603 := rng32 v566
        have fr604 := rng32 (f413 (n407 + 1))
        have fc605 : (255 : Int32).toInt = 255 := rfl
        have fo606 : ((f413 (n407 + 1)) &&& (255 : Int32)).toInt = (f413 (n407 + 1)).toInt % 256 := c_mask (f413 (n407 + 1)) (255 : Int32) 8 (by decide) (by decide)
        have fe607 : ((f413 (n407 + 1)) &&& (255 : Int32)).toInt = v566.toInt := congrArg Int32.toInt hv566
        omega
      refine g_if_eq_f 427 rfl C X593 at_424 hq601 ?_
      refine g_iload 429 rfl C X593 at_427 rfl ?_
      refine g_bipush 431 rfl C X593 (31 : Int32) at_429 rfl ?_
      refine g_iand 432 rfl C X593 at_431 ?_
      refine g_bipush 434 rfl C X593 (64 : Int32) at_432 rfl ?_
      refine g_imul 435 rfl C X593 at_434 ?_
      refine g_iload 437 rfl C X593 at_435 rfl ?_
      refine g_bipush 439 rfl C X593 (63 : Int32) at_437 rfl ?_
      refine g_iand 440 rfl C X593 at_439 ?_
      refine g_iadd 441 rfl C X593 at_440 ?_
      refine g_iload 443 rfl C X593 at_441 rfl ?_
      have hq609 : (((v562 &&& (31 : Int32)) * (64 : Int32)) + (v566 &&& (63 : Int32))).toInt = v295.toInt := by
        have fr610 := rng32 v562
        have fr611 := rng32 (f413 n407)
        have fc612 : (255 : Int32).toInt = 255 := rfl
        have fo613 : ((f413 n407) &&& (255 : Int32)).toInt = (f413 n407).toInt % 256 := c_mask (f413 n407) (255 : Int32) 8 (by decide) (by decide)
        have fe614 : ((f413 n407) &&& (255 : Int32)).toInt = v562.toInt := congrArg Int32.toInt hv562
        have fc615 : (31 : Int32).toInt = 31 := rfl
        have fo616 : (v562 &&& (31 : Int32)).toInt = v562.toInt % 32 := c_mask v562 (31 : Int32) 5 (by decide) (by decide)
        have fc617 : (64 : Int32).toInt = 64 := rfl
        have fo618 := own_mulc (v562 &&& (31 : Int32)) (64 : Int32) 64 rfl
        have fr619 := rng32 ((v562 &&& (31 : Int32)) * (64 : Int32))
        have fr620 := rng32 v566
        have fr621 := rng32 (f413 (n407 + 1))
        have fo622 : ((f413 (n407 + 1)) &&& (255 : Int32)).toInt = (f413 (n407 + 1)).toInt % 256 := c_mask (f413 (n407 + 1)) (255 : Int32) 8 (by decide) (by decide)
        have fe623 : ((f413 (n407 + 1)) &&& (255 : Int32)).toInt = v566.toInt := congrArg Int32.toInt hv566
        have fc624 : (63 : Int32).toInt = 63 := rfl
        have fo625 : (v566 &&& (63 : Int32)).toInt = v566.toInt % 64 := c_mask v566 (63 : Int32) 6 (by decide) (by decide)
        have fo626 := c_iadd ((v562 &&& (31 : Int32)) * (64 : Int32)) (v566 &&& (63 : Int32))
        have fr627 := rng32 (((v562 &&& (31 : Int32)) * (64 : Int32)) + (v566 &&& (63 : Int32)))
        have fr628 := rng32 v295
        have fc629 : (128 : Int32).toInt = 128 := rfl
        have fr630 := rng32 v2
        have fr631 := rng32 p1
        have fo632 : (p1 &&& (2147483647 : Int32)).toInt = p1.toInt % 2147483648 := c_mask p1 (2147483647 : Int32) 31 (by decide) (by decide)
        have fe633 : (p1 &&& (2147483647 : Int32)).toInt = v2.toInt := congrArg Int32.toInt hv2
        have fc634 : (1920 : Int32).toInt = 1920 := rfl
        have fo635 := c_irem v2 (1920 : Int32) 1920 rfl
        have fr636 := rng32 (v2 % (1920 : Int32))
        have fo637 := c_iadd (128 : Int32) (v2 % (1920 : Int32))
        have fr638 := rng32 ((128 : Int32) + (v2 % (1920 : Int32)))
        have fe639 : ((128 : Int32) + (v2 % (1920 : Int32))).toInt = v295.toInt := congrArg Int32.toInt hv295
        omega
      refine g_icmp_ne_f 446 rfl C X593 at_443 hq609 ?_
      refine g_iconst 447 rfl C X593 (1 : Int32) at_446 rfl ?_
      refine g_goto 451 C X593 at_447 (by decide) (by decide) ?_
      exact g_retN C X593 (z' := (1 : Int32)) rfl (Or.inl rfl) at_451 eh598 (by decide) (by decide) rfl ⟨rfl, N599⟩
    · skip
      refine g_icmp_ne_t 48 C X0 at_30 (by decide) (by decide) hb294 ?_
      refine g_iload 50 rfl C X0 at_48 rfl ?_
      refine g_iconst 51 rfl C X0 (2 : Int32) at_50 rfl ?_
      by_cases hb640 : v1.toInt = (2 : Int32).toInt
      · skip
        refine g_icmp_ne_f 54 rfl C X0 at_51 hb640 ?_
        refine g_sipush 57 rfl C X0 (2048 : Int32) at_54 rfl ?_
        refine g_iload 59 rfl C X0 at_57 rfl ?_
        refine g_ldc 61 rfl C X0 (hw _ (List.mem_of_getElem? (i := 17) rfl)) at_59 ?_
        refine g_irem 62 rfl C X0 at_61 (by decide) ?_
        refine g_iadd 63 rfl C X0 at_62 ?_
        obtain ⟨v641, hv641⟩ : ∃ z : Int32, ((2048 : Int32) + (v2 % (63488 : Int32))) = z := ⟨_, rfl⟩
        refine g_istore 65 rfl C X0 v641 hv641 #[.val (.int p0), .val (.int p1), .val (.int p2), .val (.int p3), .val (.int v1), .val (.int v2), .val (.int v641), .unset, .unset, .unset, .unset, .unset, .unset, .unset, .unset, .unset, .unset] at_63 rfl ?_
        refine g_goto 78 C X0 at_65 (by decide) (by decide) ?_
        refine g_iloadN 79 rfl C X0 at_78 rfl ?_
        refine g_ldc 81 rfl C X0 (hw _ (List.mem_of_getElem? (i := 0) rfl)) at_79 ?_
        refine g_iand 82 rfl C X0 at_81 ?_
        refine g_iconst 83 rfl C X0 (5 : Int32) at_82 rfl ?_
        refine g_irem 84 rfl C X0 at_83 (by decide) ?_
        obtain ⟨v642, hv642⟩ : ∃ z : Int32, ((p2 &&& (2147483647 : Int32)) % (5 : Int32)) = z := ⟨_, rfl⟩
        refine g_istore 86 rfl C X0 v642 hv642 #[.val (.int p0), .val (.int p1), .val (.int p2), .val (.int p3), .val (.int v1), .val (.int v2), .val (.int v641), .val (.int v642), .unset, .unset, .unset, .unset, .unset, .unset, .unset, .unset, .unset] at_84 rfl ?_
        refine g_iloadN 87 rfl C X0 at_86 rfl ?_
        refine g_i2b 88 rfl C X0 at_87 ?_
        obtain ⟨v643, hv643⟩ : ∃ z : Int32, ((p3).toInt8.toInt32) = z := ⟨_, rfl⟩
        refine g_istore 90 rfl C X0 v643 hv643 #[.val (.int p0), .val (.int p1), .val (.int p2), .val (.int p3), .val (.int v1), .val (.int v2), .val (.int v641), .val (.int v642), .val (.int v643), .unset, .unset, .unset, .unset, .unset, .unset, .unset, .unset] at_88 rfl ?_
        refine g_bipush 92 rfl C X0 (8 : Int32) at_90 rfl ?_
        refine g_newP 94 rfl C X0 8 (by decide) 8 (by decide) (by decide) rfl (hw _ (List.mem_of_getElem? (i := 1) rfl)) e0 at_92 (by decide) (by decide) fun T644 h645 o646 g647 X648 e649 E650 B651 => ?_
        have gn652 : n0 ≤ o646 := by rw [g647]; exact Z0
        have Zs653 := Nat.le_trans Z0 E650.1
        refine g_dup 95 rfl C X648 at_94 rfl ?_
        refine g_iconst 96 rfl C X648 (0 : Int32) at_95 rfl ?_
        refine g_iload 98 rfl C X648 at_96 rfl ?_
        obtain ⟨w654, hw654⟩ : ∃ z : Int32, ((v643).toInt8.toInt32) = z := ⟨_, rfl⟩
        refine g_bastore 99 rfl C X648 e649 B651 0 (by decide) (by decide) w654 hw654 at_98 N0 gn652 fun T655 h656 ls657 X658 e659 W660 B661 N662 => ?_
        have Zs663 := Nat.le_trans Zs653 (Nat.le_of_eq W660.size.symm)
        refine g_dup 100 rfl C X658 at_99 rfl ?_
        refine g_iconst 101 rfl C X658 (1 : Int32) at_100 rfl ?_
        refine g_iload 103 rfl C X658 at_101 rfl ?_
        refine g_bastore 104 rfl C X658 e659 B661 1 (by decide) (by decide) w654 hw654 at_103 N662 gn652 fun T664 h665 ls666 X667 e668 W669 B670 N671 => ?_
        have Zs672 := Nat.le_trans Zs663 (Nat.le_of_eq W669.size.symm)
        refine g_dup 105 rfl C X667 at_104 rfl ?_
        refine g_iconst 106 rfl C X667 (2 : Int32) at_105 rfl ?_
        refine g_iload 108 rfl C X667 at_106 rfl ?_
        refine g_bastore 109 rfl C X667 e668 B670 2 (by decide) (by decide) w654 hw654 at_108 N671 gn652 fun T673 h674 ls675 X676 e677 W678 B679 N680 => ?_
        have Zs681 := Nat.le_trans Zs672 (Nat.le_of_eq W678.size.symm)
        refine g_dup 110 rfl C X676 at_109 rfl ?_
        refine g_iconst 111 rfl C X676 (3 : Int32) at_110 rfl ?_
        refine g_iload 113 rfl C X676 at_111 rfl ?_
        refine g_bastore 114 rfl C X676 e677 B679 3 (by decide) (by decide) w654 hw654 at_113 N680 gn652 fun T682 h683 ls684 X685 e686 W687 B688 N689 => ?_
        have Zs690 := Nat.le_trans Zs681 (Nat.le_of_eq W687.size.symm)
        refine g_dup 115 rfl C X685 at_114 rfl ?_
        refine g_iconst 116 rfl C X685 (4 : Int32) at_115 rfl ?_
        refine g_iload 118 rfl C X685 at_116 rfl ?_
        refine g_bastore 119 rfl C X685 e686 B688 4 (by decide) (by decide) w654 hw654 at_118 N689 gn652 fun T691 h692 ls693 X694 e695 W696 B697 N698 => ?_
        have Zs699 := Nat.le_trans Zs690 (Nat.le_of_eq W696.size.symm)
        refine g_dup 120 rfl C X694 at_119 rfl ?_
        refine g_iconst 121 rfl C X694 (5 : Int32) at_120 rfl ?_
        refine g_iload 123 rfl C X694 at_121 rfl ?_
        refine g_bastore 124 rfl C X694 e695 B697 5 (by decide) (by decide) w654 hw654 at_123 N698 gn652 fun T700 h701 ls702 X703 e704 W705 B706 N707 => ?_
        have Zs708 := Nat.le_trans Zs699 (Nat.le_of_eq W705.size.symm)
        refine g_dup 125 rfl C X703 at_124 rfl ?_
        refine g_bipush 127 rfl C X703 (6 : Int32) at_125 rfl ?_
        refine g_iload 129 rfl C X703 at_127 rfl ?_
        refine g_bastore 130 rfl C X703 e704 B706 6 (by decide) (by decide) w654 hw654 at_129 N707 gn652 fun T709 h710 ls711 X712 e713 W714 B715 N716 => ?_
        have Zs717 := Nat.le_trans Zs708 (Nat.le_of_eq W714.size.symm)
        refine g_dup 131 rfl C X712 at_130 rfl ?_
        refine g_bipush 133 rfl C X712 (7 : Int32) at_131 rfl ?_
        refine g_iload 135 rfl C X712 at_133 rfl ?_
        refine g_bastore 136 rfl C X712 e713 B715 7 (by decide) (by decide) w654 hw654 at_135 N716 gn652 fun T718 h719 ls720 X721 e722 W723 B724 N725 => ?_
        have Zs726 := Nat.le_trans Zs717 (Nat.le_of_eq W723.size.symm)
        obtain ⟨f727, B728, hk729⟩ : ∃ f : Nat → Int32, Ba Z h719 o646 .byte 8 f ∧ ∀ k, k < 8 → (f k).toInt = w654.toInt := ⟨_, B724, fun k hk => by
            simp only [upd_eq]; repeat' split
            all_goals first | rfl | omega⟩
        refine g_astore 138 rfl C X721 #[.val (.int p0), .val (.int p1), .val (.int p2), .val (.int p3), .val (.int v1), .val (.int v2), .val (.int v641), .val (.int v642), .val (.int v643), .val (.ref o646), .unset, .unset, .unset, .unset, .unset, .unset, .unset] at_136 rfl rfl ?_
        refine g_iload 140 rfl C X721 at_138 rfl ?_
        refine g_aload 142 rfl C X721 at_140 rfl rfl ?_
        refine g_iload 144 rfl C X721 at_142 rfl ?_
        have hq730 : 2048 ≤ v641.toInt ∧ v641.toInt < 65536 := by
          have fr731 := rng32 v641
          have fc732 : (2048 : Int32).toInt = 2048 := rfl
          have fr733 := rng32 v2
          have fr734 := rng32 p1
          have fc735 : (2147483647 : Int32).toInt = 2147483647 := rfl
          have fo736 : (p1 &&& (2147483647 : Int32)).toInt = p1.toInt % 2147483648 := c_mask p1 (2147483647 : Int32) 31 (by decide) (by decide)
          have fe737 : (p1 &&& (2147483647 : Int32)).toInt = v2.toInt := congrArg Int32.toInt hv2
          have fc738 : (63488 : Int32).toInt = 63488 := rfl
          have fo739 := c_irem v2 (63488 : Int32) 63488 rfl
          have fr740 := rng32 (v2 % (63488 : Int32))
          have fo741 := c_iadd (2048 : Int32) (v2 % (63488 : Int32))
          have fr742 := rng32 ((2048 : Int32) + (v2 % (63488 : Int32)))
          have fe743 : ((2048 : Int32) + (v2 % (63488 : Int32))).toInt = v641.toInt := congrArg Int32.toInt hv641
          omega
        have hq744 : 0 ≤ v642.toInt ∧ v642.toInt ≤ 4 := by
          have fr745 := rng32 v642
          have fr746 := rng32 p2
          have fc747 : (2147483647 : Int32).toInt = 2147483647 := rfl
          have fo748 : (p2 &&& (2147483647 : Int32)).toInt = p2.toInt % 2147483648 := c_mask p2 (2147483647 : Int32) 31 (by decide) (by decide)
          have fc749 : (5 : Int32).toInt = 5 := rfl
          have fo750 := c_irem (p2 &&& (2147483647 : Int32)) (5 : Int32) 5 rfl
          have fr751 := rng32 ((p2 &&& (2147483647 : Int32)) % (5 : Int32))
          have fe752 : ((p2 &&& (2147483647 : Int32)) % (5 : Int32)).toInt = v642.toInt := congrArg Int32.toInt hv642
          omega
        obtain ⟨n753, hn753⟩ : ∃ n : Nat, v642.toInt = n := ⟨v642.toInt.toNat, by omega⟩
        have hn7534 : n753 ≤ 4 := by omega
        refine g_callS 147 rfl C X721 (argsL := [(.int v641), (.ref o646), (.int v642)]) (hw _ (List.mem_of_getElem? (i := 2) rfl)) (hw _ (List.mem_of_getElem? (i := 3) rfl)) (hw _ (List.mem_of_getElem? (i := 5) rfl)) (hw _ (List.mem_of_getElem? (i := 4) rfl)) e722 (rm1_3 l Z a0 hw [] v641 o646 v642 f727 n753 h719 n0 Zs726 B728 hn753 (by omega) hq730 gn652) (lenOf pd_30946454 rfl) (by decide) (by decide) (by decide) (by decide) rfl (W := 0) (Nat.le_of_eq rfl) (by decide) at_144 rfl fun r754 T755 Lc756 X757 hQ758 => ?_
        obtain ⟨f759, rfl, hs760, hk761, Nq762, Kc763, B764⟩ := hQ758
        have Zs765 := Nat.le_trans Zs726 Kc763.1
        have N766 := Fr.app N725 Nq762
        show Goes _ _ _ _ _ _ 147 _ [(.int (3 : Int32))]
        refine g_istore 149 rfl C X757 (3 : Int32) rfl #[.val (.int p0), .val (.int p1), .val (.int p2), .val (.int p3), .val (.int v1), .val (.int v2), .val (.int v641), .val (.int v642), .val (.int v643), .val (.ref o646), .val (.int (3 : Int32)), .unset, .unset, .unset, .unset, .unset, .unset] at_147 rfl ?_
        refine g_iload 151 rfl C X757 at_149 rfl ?_
        refine g_sipush 154 rfl C X757 (128 : Int32) at_151 rfl ?_
        have hq768 : ¬ (v641.toInt < (128 : Int32).toInt) := by
          have fc769 : (128 : Int32).toInt = 128 := rfl
          omega
        refine g_icmp_ge_t 161 C X757 at_154 (by decide) (by decide) hq768 ?_
        refine g_iload 163 rfl C X757 at_161 rfl ?_
        refine g_sipush 166 rfl C X757 (2048 : Int32) at_163 rfl ?_
        have hq771 : ¬ (v641.toInt < (2048 : Int32).toInt) := by
          have fc772 : (2048 : Int32).toInt = 2048 := rfl
          omega
        refine g_icmp_ge_t 173 C X757 at_166 (by decide) (by decide) hq771 ?_
        refine g_iload 175 rfl C X757 at_173 rfl ?_
        refine g_ldc 177 rfl C X757 (hw _ (List.mem_of_getElem? (i := 10) rfl)) at_175 ?_
        have hq774 : v641.toInt < (65536 : Int32).toInt := by
          have fc775 : (65536 : Int32).toInt = 65536 := rfl
          omega
        refine g_icmp_ge_f 180 rfl C X757 at_177 hq774 ?_
        refine g_iconst 181 rfl C X757 (3 : Int32) at_180 rfl ?_
        refine g_goto 185 C X757 at_181 (by decide) (by decide) ?_
        refine g_istore 187 rfl C X757 (3 : Int32) rfl #[.val (.int p0), .val (.int p1), .val (.int p2), .val (.int p3), .val (.int v1), .val (.int v2), .val (.int v641), .val (.int v642), .val (.int v643), .val (.ref o646), .val (.int (3 : Int32)), .val (.int (3 : Int32)), .unset, .unset, .unset, .unset, .unset] at_185 rfl ?_
        refine g_iload 189 rfl C X757 at_187 rfl ?_
        refine g_iload 191 rfl C X757 at_189 rfl ?_
        refine g_icmp_eq_t 196 C X757 at_191 (by decide) (by decide) (by decide) ?_
        refine g_aload 198 rfl C X757 at_196 rfl rfl ?_
        refine g_iconst 199 rfl C X757 (0 : Int32) at_198 rfl ?_
        refine g_iload 201 rfl C X757 at_199 rfl ?_
        refine g_iload 203 rfl C X757 at_201 rfl ?_
        refine g_iload 205 rfl C X757 at_203 rfl ?_
        have hq776 : 0 ≤ v642.toInt ∧ v642.toInt ≤ 4 ∧ 0 ≤ (3 : Int32).toInt ∧ (3 : Int32).toInt ≤ 4 := by
          have fc777 : (3 : Int32).toInt = 3 := rfl
          omega
        refine g_callS 208 rfl C X757 (argsL := [(.ref o646), (.int (0 : Int32)), (.int v642), (.int (3 : Int32)), (.int v643)]) (hw _ (List.mem_of_getElem? (i := 6) rfl)) (hw _ (List.mem_of_getElem? (i := 7) rfl)) (hw _ (List.mem_of_getElem? (i := 9) rfl)) (hw _ (List.mem_of_getElem? (i := 8) rfl)) rfl (rm2 l Z a0 hw [] o646 (0 : Int32) v642 (3 : Int32) v643 f759 0 (f759 0) (T755.heap) n0 Zs765 B764 rfl (by decide) rfl hq776) (lenOf pd_72974198 rfl) (by decide) (by decide) (by decide) (by decide) rfl (W := 0) (Nat.le_of_eq rfl) (by decide) at_205 rfl fun r778 T779 Lc780 X781 hQ782 => ?_
        obtain ⟨r783, rfl, hs784, Nq785, eh786⟩ := hQ782
        have N787 := Fr.app N766 Nq785
        show Goes _ _ _ _ _ _ 208 _ [(.int r783)]
        have hq789 : ¬ (r783.toInt = 0) := by
          have hk0 := hk761 0
          have hk1 := hk729 0 (by decide)
          have hfw : w654.toInt = v643.toInt := by
            have fa := c_i2b v643
            have fb := c_i2b p3
            rw [hw654] at fa; rw [hv643] at fb; omega
          clear hs760
          have fc790 : (0 : Int32).toInt = 0 := rfl
          have fc791 : (3 : Int32).toInt = 3 := rfl
          omega
        refine g_if_eq_f 211 rfl C X781 at_208 hq789 ?_
        clear hs784
        refine g_aload 213 rfl C X781 at_211 rfl rfl ?_
        refine g_iconst 214 rfl C X781 (1 : Int32) at_213 rfl ?_
        refine g_iload 216 rfl C X781 at_214 rfl ?_
        refine g_iload 218 rfl C X781 at_216 rfl ?_
        refine g_iload 220 rfl C X781 at_218 rfl ?_
        have hq792 : 0 ≤ v642.toInt ∧ v642.toInt ≤ 4 ∧ 0 ≤ (3 : Int32).toInt ∧ (3 : Int32).toInt ≤ 4 := by
          have fc793 : (3 : Int32).toInt = 3 := rfl
          omega
        refine g_callS 223 rfl C X781 (argsL := [(.ref o646), (.int (1 : Int32)), (.int v642), (.int (3 : Int32)), (.int v643)]) (hw _ (List.mem_of_getElem? (i := 6) rfl)) (hw _ (List.mem_of_getElem? (i := 7) rfl)) (hw _ (List.mem_of_getElem? (i := 9) rfl)) (hw _ (List.mem_of_getElem? (i := 8) rfl)) eh786 (rm2 l Z a0 hw [] o646 (1 : Int32) v642 (3 : Int32) v643 f759 1 (f759 1) (T755.heap) n0 Zs765 B764 rfl (by decide) rfl hq792) (lenOf pd_72974198 rfl) (by decide) (by decide) (by decide) (by decide) rfl (W := 0) (Nat.le_of_eq rfl) (by decide) at_220 rfl fun r794 T795 Lc796 X797 hQ798 => ?_
        obtain ⟨r799, rfl, hs800, Nq801, eh802⟩ := hQ798
        have N803 := Fr.app N787 Nq801
        show Goes _ _ _ _ _ _ 223 _ [(.int r799)]
        have hq805 : ¬ (r799.toInt = 0) := by
          have hk0 := hk761 1
          have hk1 := hk729 1 (by decide)
          have hfw : w654.toInt = v643.toInt := by
            have fa := c_i2b v643
            have fb := c_i2b p3
            rw [hw654] at fa; rw [hv643] at fb; omega
          clear hs760
          have fc806 : (1 : Int32).toInt = 1 := rfl
          have fc807 : (3 : Int32).toInt = 3 := rfl
          omega
        refine g_if_eq_f 226 rfl C X797 at_223 hq805 ?_
        clear hs800
        refine g_aload 228 rfl C X797 at_226 rfl rfl ?_
        refine g_iconst 229 rfl C X797 (2 : Int32) at_228 rfl ?_
        refine g_iload 231 rfl C X797 at_229 rfl ?_
        refine g_iload 233 rfl C X797 at_231 rfl ?_
        refine g_iload 235 rfl C X797 at_233 rfl ?_
        have hq808 : 0 ≤ v642.toInt ∧ v642.toInt ≤ 4 ∧ 0 ≤ (3 : Int32).toInt ∧ (3 : Int32).toInt ≤ 4 := by
          have fc809 : (3 : Int32).toInt = 3 := rfl
          omega
        refine g_callS 238 rfl C X797 (argsL := [(.ref o646), (.int (2 : Int32)), (.int v642), (.int (3 : Int32)), (.int v643)]) (hw _ (List.mem_of_getElem? (i := 6) rfl)) (hw _ (List.mem_of_getElem? (i := 7) rfl)) (hw _ (List.mem_of_getElem? (i := 9) rfl)) (hw _ (List.mem_of_getElem? (i := 8) rfl)) eh802 (rm2 l Z a0 hw [] o646 (2 : Int32) v642 (3 : Int32) v643 f759 2 (f759 2) (T755.heap) n0 Zs765 B764 rfl (by decide) rfl hq808) (lenOf pd_72974198 rfl) (by decide) (by decide) (by decide) (by decide) rfl (W := 0) (Nat.le_of_eq rfl) (by decide) at_235 rfl fun r810 T811 Lc812 X813 hQ814 => ?_
        obtain ⟨r815, rfl, hs816, Nq817, eh818⟩ := hQ814
        have N819 := Fr.app N803 Nq817
        show Goes _ _ _ _ _ _ 238 _ [(.int r815)]
        have hq821 : ¬ (r815.toInt = 0) := by
          have hk0 := hk761 2
          have hk1 := hk729 2 (by decide)
          have hfw : w654.toInt = v643.toInt := by
            have fa := c_i2b v643
            have fb := c_i2b p3
            rw [hw654] at fa; rw [hv643] at fb; omega
          clear hs760
          have fc822 : (2 : Int32).toInt = 2 := rfl
          have fc823 : (3 : Int32).toInt = 3 := rfl
          omega
        refine g_if_eq_f 241 rfl C X813 at_238 hq821 ?_
        clear hs816
        refine g_aload 243 rfl C X813 at_241 rfl rfl ?_
        refine g_iconst 244 rfl C X813 (3 : Int32) at_243 rfl ?_
        refine g_iload 246 rfl C X813 at_244 rfl ?_
        refine g_iload 248 rfl C X813 at_246 rfl ?_
        refine g_iload 250 rfl C X813 at_248 rfl ?_
        have hq824 : 0 ≤ v642.toInt ∧ v642.toInt ≤ 4 ∧ 0 ≤ (3 : Int32).toInt ∧ (3 : Int32).toInt ≤ 4 := by
          have fc825 : (3 : Int32).toInt = 3 := rfl
          omega
        refine g_callS 253 rfl C X813 (argsL := [(.ref o646), (.int (3 : Int32)), (.int v642), (.int (3 : Int32)), (.int v643)]) (hw _ (List.mem_of_getElem? (i := 6) rfl)) (hw _ (List.mem_of_getElem? (i := 7) rfl)) (hw _ (List.mem_of_getElem? (i := 9) rfl)) (hw _ (List.mem_of_getElem? (i := 8) rfl)) eh818 (rm2 l Z a0 hw [] o646 (3 : Int32) v642 (3 : Int32) v643 f759 3 (f759 3) (T755.heap) n0 Zs765 B764 rfl (by decide) rfl hq824) (lenOf pd_72974198 rfl) (by decide) (by decide) (by decide) (by decide) rfl (W := 0) (Nat.le_of_eq rfl) (by decide) at_250 rfl fun r826 T827 Lc828 X829 hQ830 => ?_
        obtain ⟨r831, rfl, hs832, Nq833, eh834⟩ := hQ830
        have N835 := Fr.app N819 Nq833
        show Goes _ _ _ _ _ _ 253 _ [(.int r831)]
        have hq837 : ¬ (r831.toInt = 0) := by
          have hk0 := hk761 3
          have hk1 := hk729 3 (by decide)
          have hfw : w654.toInt = v643.toInt := by
            have fa := c_i2b v643
            have fb := c_i2b p3
            rw [hw654] at fa; rw [hv643] at fb; omega
          clear hs760
          have fc838 : (3 : Int32).toInt = 3 := rfl
          omega
        refine g_if_eq_f 256 rfl C X829 at_253 hq837 ?_
        clear hs832
        refine g_aload 258 rfl C X829 at_256 rfl rfl ?_
        refine g_iconst 259 rfl C X829 (4 : Int32) at_258 rfl ?_
        refine g_iload 261 rfl C X829 at_259 rfl ?_
        refine g_iload 263 rfl C X829 at_261 rfl ?_
        refine g_iload 265 rfl C X829 at_263 rfl ?_
        have hq839 : 0 ≤ v642.toInt ∧ v642.toInt ≤ 4 ∧ 0 ≤ (3 : Int32).toInt ∧ (3 : Int32).toInt ≤ 4 := by
          have fc840 : (3 : Int32).toInt = 3 := rfl
          omega
        refine g_callS 268 rfl C X829 (argsL := [(.ref o646), (.int (4 : Int32)), (.int v642), (.int (3 : Int32)), (.int v643)]) (hw _ (List.mem_of_getElem? (i := 6) rfl)) (hw _ (List.mem_of_getElem? (i := 7) rfl)) (hw _ (List.mem_of_getElem? (i := 9) rfl)) (hw _ (List.mem_of_getElem? (i := 8) rfl)) eh834 (rm2 l Z a0 hw [] o646 (4 : Int32) v642 (3 : Int32) v643 f759 4 (f759 4) (T755.heap) n0 Zs765 B764 rfl (by decide) rfl hq839) (lenOf pd_72974198 rfl) (by decide) (by decide) (by decide) (by decide) rfl (W := 0) (Nat.le_of_eq rfl) (by decide) at_265 rfl fun r841 T842 Lc843 X844 hQ845 => ?_
        obtain ⟨r846, rfl, hs847, Nq848, eh849⟩ := hQ845
        have N850 := Fr.app N835 Nq848
        show Goes _ _ _ _ _ _ 268 _ [(.int r846)]
        have hq852 : ¬ (r846.toInt = 0) := by
          have hk0 := hk761 4
          have hk1 := hk729 4 (by decide)
          have hfw : w654.toInt = v643.toInt := by
            have fa := c_i2b v643
            have fb := c_i2b p3
            rw [hw654] at fa; rw [hv643] at fb; omega
          clear hs760
          have fc853 : (4 : Int32).toInt = 4 := rfl
          have fc854 : (3 : Int32).toInt = 3 := rfl
          omega
        refine g_if_eq_f 271 rfl C X844 at_268 hq852 ?_
        clear hs847
        refine g_aload 273 rfl C X844 at_271 rfl rfl ?_
        refine g_iconst 274 rfl C X844 (5 : Int32) at_273 rfl ?_
        refine g_iload 276 rfl C X844 at_274 rfl ?_
        refine g_iload 278 rfl C X844 at_276 rfl ?_
        refine g_iload 280 rfl C X844 at_278 rfl ?_
        have hq855 : 0 ≤ v642.toInt ∧ v642.toInt ≤ 4 ∧ 0 ≤ (3 : Int32).toInt ∧ (3 : Int32).toInt ≤ 4 := by
          have fc856 : (3 : Int32).toInt = 3 := rfl
          omega
        refine g_callS 283 rfl C X844 (argsL := [(.ref o646), (.int (5 : Int32)), (.int v642), (.int (3 : Int32)), (.int v643)]) (hw _ (List.mem_of_getElem? (i := 6) rfl)) (hw _ (List.mem_of_getElem? (i := 7) rfl)) (hw _ (List.mem_of_getElem? (i := 9) rfl)) (hw _ (List.mem_of_getElem? (i := 8) rfl)) eh849 (rm2 l Z a0 hw [] o646 (5 : Int32) v642 (3 : Int32) v643 f759 5 (f759 5) (T755.heap) n0 Zs765 B764 rfl (by decide) rfl hq855) (lenOf pd_72974198 rfl) (by decide) (by decide) (by decide) (by decide) rfl (W := 0) (Nat.le_of_eq rfl) (by decide) at_280 rfl fun r857 T858 Lc859 X860 hQ861 => ?_
        obtain ⟨r862, rfl, hs863, Nq864, eh865⟩ := hQ861
        have N866 := Fr.app N850 Nq864
        show Goes _ _ _ _ _ _ 283 _ [(.int r862)]
        have hq868 : ¬ (r862.toInt = 0) := by
          have hk0 := hk761 5
          have hk1 := hk729 5 (by decide)
          have hfw : w654.toInt = v643.toInt := by
            have fa := c_i2b v643
            have fb := c_i2b p3
            rw [hw654] at fa; rw [hv643] at fb; omega
          clear hs760
          have fc869 : (5 : Int32).toInt = 5 := rfl
          have fc870 : (3 : Int32).toInt = 3 := rfl
          omega
        refine g_if_eq_f 286 rfl C X860 at_283 hq868 ?_
        clear hs863
        refine g_aload 288 rfl C X860 at_286 rfl rfl ?_
        refine g_bipush 290 rfl C X860 (6 : Int32) at_288 rfl ?_
        refine g_iload 292 rfl C X860 at_290 rfl ?_
        refine g_iload 294 rfl C X860 at_292 rfl ?_
        refine g_iload 296 rfl C X860 at_294 rfl ?_
        have hq871 : 0 ≤ v642.toInt ∧ v642.toInt ≤ 4 ∧ 0 ≤ (3 : Int32).toInt ∧ (3 : Int32).toInt ≤ 4 := by
          have fc872 : (3 : Int32).toInt = 3 := rfl
          omega
        refine g_callS 299 rfl C X860 (argsL := [(.ref o646), (.int (6 : Int32)), (.int v642), (.int (3 : Int32)), (.int v643)]) (hw _ (List.mem_of_getElem? (i := 6) rfl)) (hw _ (List.mem_of_getElem? (i := 7) rfl)) (hw _ (List.mem_of_getElem? (i := 9) rfl)) (hw _ (List.mem_of_getElem? (i := 8) rfl)) eh865 (rm2 l Z a0 hw [] o646 (6 : Int32) v642 (3 : Int32) v643 f759 6 (f759 6) (T755.heap) n0 Zs765 B764 rfl (by decide) rfl hq871) (lenOf pd_72974198 rfl) (by decide) (by decide) (by decide) (by decide) rfl (W := 0) (Nat.le_of_eq rfl) (by decide) at_296 rfl fun r873 T874 Lc875 X876 hQ877 => ?_
        obtain ⟨r878, rfl, hs879, Nq880, eh881⟩ := hQ877
        have N882 := Fr.app N866 Nq880
        show Goes _ _ _ _ _ _ 299 _ [(.int r878)]
        have hq884 : ¬ (r878.toInt = 0) := by
          have hk0 := hk761 6
          have hk1 := hk729 6 (by decide)
          have hfw : w654.toInt = v643.toInt := by
            have fa := c_i2b v643
            have fb := c_i2b p3
            rw [hw654] at fa; rw [hv643] at fb; omega
          clear hs760
          have fc885 : (6 : Int32).toInt = 6 := rfl
          have fc886 : (3 : Int32).toInt = 3 := rfl
          omega
        refine g_if_eq_f 302 rfl C X876 at_299 hq884 ?_
        clear hs879
        refine g_aload 304 rfl C X876 at_302 rfl rfl ?_
        refine g_bipush 306 rfl C X876 (7 : Int32) at_304 rfl ?_
        refine g_iload 308 rfl C X876 at_306 rfl ?_
        refine g_iload 310 rfl C X876 at_308 rfl ?_
        refine g_iload 312 rfl C X876 at_310 rfl ?_
        have hq887 : 0 ≤ v642.toInt ∧ v642.toInt ≤ 4 ∧ 0 ≤ (3 : Int32).toInt ∧ (3 : Int32).toInt ≤ 4 := by
          have fc888 : (3 : Int32).toInt = 3 := rfl
          omega
        refine g_callS 315 rfl C X876 (argsL := [(.ref o646), (.int (7 : Int32)), (.int v642), (.int (3 : Int32)), (.int v643)]) (hw _ (List.mem_of_getElem? (i := 6) rfl)) (hw _ (List.mem_of_getElem? (i := 7) rfl)) (hw _ (List.mem_of_getElem? (i := 9) rfl)) (hw _ (List.mem_of_getElem? (i := 8) rfl)) eh881 (rm2 l Z a0 hw [] o646 (7 : Int32) v642 (3 : Int32) v643 f759 7 (f759 7) (T755.heap) n0 Zs765 B764 rfl (by decide) rfl hq887) (lenOf pd_72974198 rfl) (by decide) (by decide) (by decide) (by decide) rfl (W := 0) (Nat.le_of_eq rfl) (by decide) at_312 rfl fun r889 T890 Lc891 X892 hQ893 => ?_
        obtain ⟨r894, rfl, hs895, Nq896, eh897⟩ := hQ893
        have N898 := Fr.app N882 Nq896
        show Goes _ _ _ _ _ _ 315 _ [(.int r894)]
        have hq900 : ¬ (r894.toInt = 0) := by
          have hk0 := hk761 7
          have hk1 := hk729 7 (by decide)
          have hfw : w654.toInt = v643.toInt := by
            have fa := c_i2b v643
            have fb := c_i2b p3
            rw [hw654] at fa; rw [hv643] at fb; omega
          clear hs760
          have fc901 : (7 : Int32).toInt = 7 := rfl
          have fc902 : (3 : Int32).toInt = 3 := rfl
          omega
        refine g_if_eq_f 318 rfl C X892 at_315 hq900 ?_
        clear hs895
        refine g_iconst 319 rfl C X892 (1 : Int32) at_318 rfl ?_
        refine g_goto 323 C X892 at_319 (by decide) (by decide) ?_
        refine g_istore 325 rfl C X892 (1 : Int32) rfl #[.val (.int p0), .val (.int p1), .val (.int p2), .val (.int p3), .val (.int v1), .val (.int v2), .val (.int v641), .val (.int v642), .val (.int v643), .val (.ref o646), .val (.int (3 : Int32)), .val (.int (3 : Int32)), .val (.int (1 : Int32)), .unset, .unset, .unset, .unset] at_323 rfl ?_
        refine g_iload 327 rfl C X892 at_325 rfl ?_
        refine g_if_ne_t 332 C X892 at_327 (by decide) (by decide) (by decide) ?_
        refine g_aload 334 rfl C X892 at_332 rfl rfl ?_
        refine g_iload 336 rfl C X892 at_334 rfl ?_
        have fr903 := rng32 v642
        have fr904 := rng32 p2
        have fc905 : (2147483647 : Int32).toInt = 2147483647 := rfl
        have fo906 : (p2 &&& (2147483647 : Int32)).toInt = p2.toInt % 2147483648 := c_mask p2 (2147483647 : Int32) 31 (by decide) (by decide)
        have fc907 : (5 : Int32).toInt = 5 := rfl
        have fo908 := c_irem (p2 &&& (2147483647 : Int32)) (5 : Int32) 5 rfl
        have fr909 := rng32 ((p2 &&& (2147483647 : Int32)) % (5 : Int32))
        have fe910 : ((p2 &&& (2147483647 : Int32)) % (5 : Int32)).toInt = v642.toInt := congrArg Int32.toInt hv642
        refine g_baload 337 rfl C X892 eh897 B764 (n753) (by omega) (by omega) (f759 n753) rfl at_336 ?_
        refine g_sipush 340 rfl C X892 (255 : Int32) at_337 rfl ?_
        refine g_iand 341 rfl C X892 at_340 ?_
        obtain ⟨v911, hv911⟩ : ∃ z : Int32, ((f759 n753) &&& (255 : Int32)) = z := ⟨_, rfl⟩
        refine g_istore 343 rfl C X892 v911 hv911 #[.val (.int p0), .val (.int p1), .val (.int p2), .val (.int p3), .val (.int v1), .val (.int v2), .val (.int v641), .val (.int v642), .val (.int v643), .val (.ref o646), .val (.int (3 : Int32)), .val (.int (3 : Int32)), .val (.int (1 : Int32)), .val (.int v911), .unset, .unset, .unset] at_341 rfl ?_
        refine g_aload 345 rfl C X892 at_343 rfl rfl ?_
        refine g_iload 347 rfl C X892 at_345 rfl ?_
        refine g_iconst 348 rfl C X892 (1 : Int32) at_347 rfl ?_
        refine g_iadd 349 rfl C X892 at_348 ?_
        have fc912 : (1 : Int32).toInt = 1 := rfl
        have fo913 := c_iadd v642 (1 : Int32)
        have fr914 := rng32 (v642 + (1 : Int32))
        refine g_baload 350 rfl C X892 eh897 B764 (n753 + 1) (by omega) (by omega) (f759 (n753 + 1)) rfl at_349 ?_
        refine g_sipush 353 rfl C X892 (255 : Int32) at_350 rfl ?_
        refine g_iand 354 rfl C X892 at_353 ?_
        obtain ⟨v915, hv915⟩ : ∃ z : Int32, ((f759 (n753 + 1)) &&& (255 : Int32)) = z := ⟨_, rfl⟩
        refine g_istore 356 rfl C X892 v915 hv915 #[.val (.int p0), .val (.int p1), .val (.int p2), .val (.int p3), .val (.int v1), .val (.int v2), .val (.int v641), .val (.int v642), .val (.int v643), .val (.ref o646), .val (.int (3 : Int32)), .val (.int (3 : Int32)), .val (.int (1 : Int32)), .val (.int v911), .val (.int v915), .unset, .unset] at_354 rfl ?_
        refine g_aload 358 rfl C X892 at_356 rfl rfl ?_
        refine g_iload 360 rfl C X892 at_358 rfl ?_
        refine g_iconst 361 rfl C X892 (2 : Int32) at_360 rfl ?_
        refine g_iadd 362 rfl C X892 at_361 ?_
        have fc916 : (2 : Int32).toInt = 2 := rfl
        have fo917 := c_iadd v642 (2 : Int32)
        have fr918 := rng32 (v642 + (2 : Int32))
        refine g_baload 363 rfl C X892 eh897 B764 (n753 + 2) (by omega) (by omega) (f759 (n753 + 2)) rfl at_362 ?_
        refine g_sipush 366 rfl C X892 (255 : Int32) at_363 rfl ?_
        refine g_iand 367 rfl C X892 at_366 ?_
        obtain ⟨v919, hv919⟩ : ∃ z : Int32, ((f759 (n753 + 2)) &&& (255 : Int32)) = z := ⟨_, rfl⟩
        refine g_istore 369 rfl C X892 v919 hv919 #[.val (.int p0), .val (.int p1), .val (.int p2), .val (.int p3), .val (.int v1), .val (.int v2), .val (.int v641), .val (.int v642), .val (.int v643), .val (.ref o646), .val (.int (3 : Int32)), .val (.int (3 : Int32)), .val (.int (1 : Int32)), .val (.int v911), .val (.int v915), .val (.int v919), .unset] at_367 rfl ?_
        refine g_aload 371 rfl C X892 at_369 rfl rfl ?_
        refine g_iload 373 rfl C X892 at_371 rfl ?_
        refine g_iconst 374 rfl C X892 (3 : Int32) at_373 rfl ?_
        refine g_iadd 375 rfl C X892 at_374 ?_
        have fc920 : (3 : Int32).toInt = 3 := rfl
        have fo921 := c_iadd v642 (3 : Int32)
        have fr922 := rng32 (v642 + (3 : Int32))
        refine g_baload 376 rfl C X892 eh897 B764 (n753 + 3) (by omega) (by omega) (f759 (n753 + 3)) rfl at_375 ?_
        refine g_sipush 379 rfl C X892 (255 : Int32) at_376 rfl ?_
        refine g_iand 380 rfl C X892 at_379 ?_
        obtain ⟨v923, hv923⟩ : ∃ z : Int32, ((f759 (n753 + 3)) &&& (255 : Int32)) = z := ⟨_, rfl⟩
        refine g_istore 382 rfl C X892 v923 hv923 #[.val (.int p0), .val (.int p1), .val (.int p2), .val (.int p3), .val (.int v1), .val (.int v2), .val (.int v641), .val (.int v642), .val (.int v643), .val (.ref o646), .val (.int (3 : Int32)), .val (.int (3 : Int32)), .val (.int (1 : Int32)), .val (.int v911), .val (.int v915), .val (.int v919), .val (.int v923)] at_380 rfl ?_
        refine g_iload 384 rfl C X892 at_382 rfl ?_
        refine g_iconst 385 rfl C X892 (1 : Int32) at_384 rfl ?_
        refine g_icmp_ne_t 401 C X892 at_385 (by decide) (by decide) (by decide) ?_
        refine g_iload 403 rfl C X892 at_401 rfl ?_
        refine g_iconst 404 rfl C X892 (2 : Int32) at_403 rfl ?_
        refine g_icmp_ne_t 452 C X892 at_404 (by decide) (by decide) (by decide) ?_
        refine g_iload 454 rfl C X892 at_452 rfl ?_
        refine g_iconst 455 rfl C X892 (3 : Int32) at_454 rfl ?_
        refine g_icmp_ne_f 458 rfl C X892 at_455 (by decide) ?_
        refine g_iload 460 rfl C X892 at_458 rfl ?_
        refine g_sipush 463 rfl C X892 (240 : Int32) at_460 rfl ?_
        refine g_iand 464 rfl C X892 at_463 ?_
        refine g_sipush 467 rfl C X892 (224 : Int32) at_464 rfl ?_
        have hq925 : (v911 &&& (240 : Int32)).toInt = (224 : Int32).toInt := by
          have fr926 := rng32 v911
          have fr927 := rng32 (f759 n753)
          have fc928 : (255 : Int32).toInt = 255 := rfl
          have fo929 : ((f759 n753) &&& (255 : Int32)).toInt = (f759 n753).toInt % 256 := c_mask (f759 n753) (255 : Int32) 8 (by decide) (by decide)
          have fe930 : ((f759 n753) &&& (255 : Int32)).toInt = v911.toInt := congrArg Int32.toInt hv911
          have fc931 : (240 : Int32).toInt = 240 := rfl
          have fc933 : (15 : Int32).toInt = 15 := rfl
          have fo934 : (v911 &&& (15 : Int32)).toInt = v911.toInt % 16 := c_mask v911 (15 : Int32) 4 (by decide) (by decide)
          have fo935 : (v911 &&& (255 : Int32)).toInt = v911.toInt % 256 := c_mask v911 (255 : Int32) 8 (by decide) (by decide)
          have fo932 := own_blk v911 (240 : Int32) (15 : Int32) (255 : Int32) (by decide) (by decide)
          have fo936 := c_and v911 (240 : Int32) (by decide)
          have fr937 := rng32 (v911 &&& (240 : Int32))
          have fc938 : (224 : Int32).toInt = 224 := rfl
          omega
        refine g_icmp_ne_f 470 rfl C X892 at_467 hq925 ?_
        refine g_iload 472 rfl C X892 at_470 rfl ?_
        refine g_callS 475 rfl C X892 (argsL := [(.int v915)]) (hw _ (List.mem_of_getElem? (i := 13) rfl)) (hw _ (List.mem_of_getElem? (i := 14) rfl)) (hw _ (List.mem_of_getElem? (i := 15) rfl)) (hw _ (List.mem_of_getElem? (i := 8) rfl)) eh897 (rm3 l Z a0 hw [] v915 (T755.heap) n0 Zs765) (lenOf pd_52681301 rfl) (by decide) (by decide) (by decide) (by decide) rfl (W := 0) (Nat.le_of_eq rfl) (by decide) at_472 rfl fun r939 T940 Lc941 X942 hQ943 => ?_
        obtain ⟨r944, rfl, hs945, Nq946, eh947⟩ := hQ943
        have N948 := Fr.app N898 Nq946
        show Goes _ _ _ _ _ _ 475 _ [(.int r944)]
        have hq950 : ¬ (r944.toInt = 0) := by
          have fr951 := rng32 r944
          have fr952 := rng32 v915
          have fr953 := rng32 (f759 (n753 + 1))
          have fc954 : (255 : Int32).toInt = 255 := rfl
          have fo955 : ((f759 (n753 + 1)) &&& (255 : Int32)).toInt = (f759 (n753 + 1)).toInt % 256 := c_mask (f759 (n753 + 1)) (255 : Int32) 8 (by decide) (by decide)
          have fe956 : ((f759 (n753 + 1)) &&& (255 : Int32)).toInt = v915.toInt := congrArg Int32.toInt hv915
          omega
        refine g_if_eq_f 478 rfl C X942 at_475 hq950 ?_
        refine g_iload 480 rfl C X942 at_478 rfl ?_
        refine g_callS 483 rfl C X942 (argsL := [(.int v919)]) (hw _ (List.mem_of_getElem? (i := 13) rfl)) (hw _ (List.mem_of_getElem? (i := 14) rfl)) (hw _ (List.mem_of_getElem? (i := 15) rfl)) (hw _ (List.mem_of_getElem? (i := 8) rfl)) eh947 (rm3 l Z a0 hw [] v919 (T755.heap) n0 Zs765) (lenOf pd_52681301 rfl) (by decide) (by decide) (by decide) (by decide) rfl (W := 0) (Nat.le_of_eq rfl) (by decide) at_480 rfl fun r957 T958 Lc959 X960 hQ961 => ?_
        obtain ⟨r962, rfl, hs963, Nq964, eh965⟩ := hQ961
        have N966 := Fr.app N948 Nq964
        show Goes _ _ _ _ _ _ 483 _ [(.int r962)]
        have hq968 : ¬ (r962.toInt = 0) := by
          have fr969 := rng32 r962
          have fr970 := rng32 v919
          have fr971 := rng32 (f759 (n753 + 2))
          have fc972 : (255 : Int32).toInt = 255 := rfl
          have fo973 : ((f759 (n753 + 2)) &&& (255 : Int32)).toInt = (f759 (n753 + 2)).toInt % 256 := c_mask (f759 (n753 + 2)) (255 : Int32) 8 (by decide) (by decide)
          have fe974 : ((f759 (n753 + 2)) &&& (255 : Int32)).toInt = v919.toInt := congrArg Int32.toInt hv919
          omega
        refine g_if_eq_f 486 rfl C X960 at_483 hq968 ?_
        refine g_iload 488 rfl C X960 at_486 rfl ?_
        refine g_bipush 490 rfl C X960 (15 : Int32) at_488 rfl ?_
        refine g_iand 491 rfl C X960 at_490 ?_
        refine g_sipush 494 rfl C X960 (4096 : Int32) at_491 rfl ?_
        refine g_imul 495 rfl C X960 at_494 ?_
        refine g_iload 497 rfl C X960 at_495 rfl ?_
        refine g_bipush 499 rfl C X960 (63 : Int32) at_497 rfl ?_
        refine g_iand 500 rfl C X960 at_499 ?_
        refine g_bipush 502 rfl C X960 (64 : Int32) at_500 rfl ?_
        refine g_imul 503 rfl C X960 at_502 ?_
        refine g_iadd 504 rfl C X960 at_503 ?_
        refine g_iload 506 rfl C X960 at_504 rfl ?_
        refine g_bipush 508 rfl C X960 (63 : Int32) at_506 rfl ?_
        refine g_iand 509 rfl C X960 at_508 ?_
        refine g_iadd 510 rfl C X960 at_509 ?_
        refine g_iload 512 rfl C X960 at_510 rfl ?_
        have hq976 : ((((v911 &&& (15 : Int32)) * (4096 : Int32)) + ((v915 &&& (63 : Int32)) * (64 : Int32))) + (v919 &&& (63 : Int32))).toInt = v641.toInt := by
          have fr977 := rng32 v911
          have fr978 := rng32 (f759 n753)
          have fc979 : (255 : Int32).toInt = 255 := rfl
          have fo980 : ((f759 n753) &&& (255 : Int32)).toInt = (f759 n753).toInt % 256 := c_mask (f759 n753) (255 : Int32) 8 (by decide) (by decide)
          have fe981 : ((f759 n753) &&& (255 : Int32)).toInt = v911.toInt := congrArg Int32.toInt hv911
          have fc982 : (15 : Int32).toInt = 15 := rfl
          have fo983 : (v911 &&& (15 : Int32)).toInt = v911.toInt % 16 := c_mask v911 (15 : Int32) 4 (by decide) (by decide)
          have fc984 : (4096 : Int32).toInt = 4096 := rfl
          have fo985 := own_mulc (v911 &&& (15 : Int32)) (4096 : Int32) 4096 rfl
          have fr986 := rng32 ((v911 &&& (15 : Int32)) * (4096 : Int32))
          have fr987 := rng32 v915
          have fr988 := rng32 (f759 (n753 + 1))
          have fo989 : ((f759 (n753 + 1)) &&& (255 : Int32)).toInt = (f759 (n753 + 1)).toInt % 256 := c_mask (f759 (n753 + 1)) (255 : Int32) 8 (by decide) (by decide)
          have fe990 : ((f759 (n753 + 1)) &&& (255 : Int32)).toInt = v915.toInt := congrArg Int32.toInt hv915
          have fc991 : (63 : Int32).toInt = 63 := rfl
          have fo992 : (v915 &&& (63 : Int32)).toInt = v915.toInt % 64 := c_mask v915 (63 : Int32) 6 (by decide) (by decide)
          have fc993 : (64 : Int32).toInt = 64 := rfl
          have fo994 := own_mulc (v915 &&& (63 : Int32)) (64 : Int32) 64 rfl
          have fr995 := rng32 ((v915 &&& (63 : Int32)) * (64 : Int32))
          have fo996 := c_iadd ((v911 &&& (15 : Int32)) * (4096 : Int32)) ((v915 &&& (63 : Int32)) * (64 : Int32))
          have fr997 := rng32 (((v911 &&& (15 : Int32)) * (4096 : Int32)) + ((v915 &&& (63 : Int32)) * (64 : Int32)))
          have fr998 := rng32 v919
          have fr999 := rng32 (f759 (n753 + 2))
          have fo1000 : ((f759 (n753 + 2)) &&& (255 : Int32)).toInt = (f759 (n753 + 2)).toInt % 256 := c_mask (f759 (n753 + 2)) (255 : Int32) 8 (by decide) (by decide)
          have fe1001 : ((f759 (n753 + 2)) &&& (255 : Int32)).toInt = v919.toInt := congrArg Int32.toInt hv919
          have fo1002 : (v919 &&& (63 : Int32)).toInt = v919.toInt % 64 := c_mask v919 (63 : Int32) 6 (by decide) (by decide)
          have fo1003 := c_iadd (((v911 &&& (15 : Int32)) * (4096 : Int32)) + ((v915 &&& (63 : Int32)) * (64 : Int32))) (v919 &&& (63 : Int32))
          have fr1004 := rng32 ((((v911 &&& (15 : Int32)) * (4096 : Int32)) + ((v915 &&& (63 : Int32)) * (64 : Int32))) + (v919 &&& (63 : Int32)))
          have fr1005 := rng32 v641
          have fc1006 : (2048 : Int32).toInt = 2048 := rfl
          have fr1007 := rng32 v2
          have fr1008 := rng32 p1
          have fo1009 : (p1 &&& (2147483647 : Int32)).toInt = p1.toInt % 2147483648 := c_mask p1 (2147483647 : Int32) 31 (by decide) (by decide)
          have fe1010 : (p1 &&& (2147483647 : Int32)).toInt = v2.toInt := congrArg Int32.toInt hv2
          have fc1011 : (63488 : Int32).toInt = 63488 := rfl
          have fo1012 := c_irem v2 (63488 : Int32) 63488 rfl
          have fr1013 := rng32 (v2 % (63488 : Int32))
          have fo1014 := c_iadd (2048 : Int32) (v2 % (63488 : Int32))
          have fr1015 := rng32 ((2048 : Int32) + (v2 % (63488 : Int32)))
          have fe1016 : ((2048 : Int32) + (v2 % (63488 : Int32))).toInt = v641.toInt := congrArg Int32.toInt hv641
          omega
        refine g_icmp_ne_f 515 rfl C X960 at_512 hq976 ?_
        refine g_iconst 516 rfl C X960 (1 : Int32) at_515 rfl ?_
        refine g_goto 520 C X960 at_516 (by decide) (by decide) ?_
        exact g_retN C X960 (z' := (1 : Int32)) rfl (Or.inl rfl) at_520 eh965 (by decide) (by decide) rfl ⟨rfl, N966⟩
      · skip
        refine g_icmp_ne_t 68 C X0 at_51 (by decide) (by decide) hb640 ?_
        refine g_ldc 70 rfl C X0 (hw _ (List.mem_of_getElem? (i := 10) rfl)) at_68 ?_
        refine g_iload 72 rfl C X0 at_70 rfl ?_
        refine g_ldc 74 rfl C X0 (hw _ (List.mem_of_getElem? (i := 11) rfl)) at_72 ?_
        refine g_irem 75 rfl C X0 at_74 (by decide) ?_
        refine g_iadd 76 rfl C X0 at_75 ?_
        obtain ⟨v1017, hv1017⟩ : ∃ z : Int32, ((65536 : Int32) + (v2 % (1048576 : Int32))) = z := ⟨_, rfl⟩
        refine g_istore 78 rfl C X0 v1017 hv1017 #[.val (.int p0), .val (.int p1), .val (.int p2), .val (.int p3), .val (.int v1), .val (.int v2), .val (.int v1017), .unset, .unset, .unset, .unset, .unset, .unset, .unset, .unset, .unset, .unset] at_76 rfl ?_
        refine g_iloadN 79 rfl C X0 at_78 rfl ?_
        refine g_ldc 81 rfl C X0 (hw _ (List.mem_of_getElem? (i := 0) rfl)) at_79 ?_
        refine g_iand 82 rfl C X0 at_81 ?_
        refine g_iconst 83 rfl C X0 (5 : Int32) at_82 rfl ?_
        refine g_irem 84 rfl C X0 at_83 (by decide) ?_
        obtain ⟨v1018, hv1018⟩ : ∃ z : Int32, ((p2 &&& (2147483647 : Int32)) % (5 : Int32)) = z := ⟨_, rfl⟩
        refine g_istore 86 rfl C X0 v1018 hv1018 #[.val (.int p0), .val (.int p1), .val (.int p2), .val (.int p3), .val (.int v1), .val (.int v2), .val (.int v1017), .val (.int v1018), .unset, .unset, .unset, .unset, .unset, .unset, .unset, .unset, .unset] at_84 rfl ?_
        refine g_iloadN 87 rfl C X0 at_86 rfl ?_
        refine g_i2b 88 rfl C X0 at_87 ?_
        obtain ⟨v1019, hv1019⟩ : ∃ z : Int32, ((p3).toInt8.toInt32) = z := ⟨_, rfl⟩
        refine g_istore 90 rfl C X0 v1019 hv1019 #[.val (.int p0), .val (.int p1), .val (.int p2), .val (.int p3), .val (.int v1), .val (.int v2), .val (.int v1017), .val (.int v1018), .val (.int v1019), .unset, .unset, .unset, .unset, .unset, .unset, .unset, .unset] at_88 rfl ?_
        refine g_bipush 92 rfl C X0 (8 : Int32) at_90 rfl ?_
        refine g_newP 94 rfl C X0 8 (by decide) 8 (by decide) (by decide) rfl (hw _ (List.mem_of_getElem? (i := 1) rfl)) e0 at_92 (by decide) (by decide) fun T1020 h1021 o1022 g1023 X1024 e1025 E1026 B1027 => ?_
        have gn1028 : n0 ≤ o1022 := by rw [g1023]; exact Z0
        have Zs1029 := Nat.le_trans Z0 E1026.1
        refine g_dup 95 rfl C X1024 at_94 rfl ?_
        refine g_iconst 96 rfl C X1024 (0 : Int32) at_95 rfl ?_
        refine g_iload 98 rfl C X1024 at_96 rfl ?_
        obtain ⟨w1030, hw1030⟩ : ∃ z : Int32, ((v1019).toInt8.toInt32) = z := ⟨_, rfl⟩
        refine g_bastore 99 rfl C X1024 e1025 B1027 0 (by decide) (by decide) w1030 hw1030 at_98 N0 gn1028 fun T1031 h1032 ls1033 X1034 e1035 W1036 B1037 N1038 => ?_
        have Zs1039 := Nat.le_trans Zs1029 (Nat.le_of_eq W1036.size.symm)
        refine g_dup 100 rfl C X1034 at_99 rfl ?_
        refine g_iconst 101 rfl C X1034 (1 : Int32) at_100 rfl ?_
        refine g_iload 103 rfl C X1034 at_101 rfl ?_
        refine g_bastore 104 rfl C X1034 e1035 B1037 1 (by decide) (by decide) w1030 hw1030 at_103 N1038 gn1028 fun T1040 h1041 ls1042 X1043 e1044 W1045 B1046 N1047 => ?_
        have Zs1048 := Nat.le_trans Zs1039 (Nat.le_of_eq W1045.size.symm)
        refine g_dup 105 rfl C X1043 at_104 rfl ?_
        refine g_iconst 106 rfl C X1043 (2 : Int32) at_105 rfl ?_
        refine g_iload 108 rfl C X1043 at_106 rfl ?_
        refine g_bastore 109 rfl C X1043 e1044 B1046 2 (by decide) (by decide) w1030 hw1030 at_108 N1047 gn1028 fun T1049 h1050 ls1051 X1052 e1053 W1054 B1055 N1056 => ?_
        have Zs1057 := Nat.le_trans Zs1048 (Nat.le_of_eq W1054.size.symm)
        refine g_dup 110 rfl C X1052 at_109 rfl ?_
        refine g_iconst 111 rfl C X1052 (3 : Int32) at_110 rfl ?_
        refine g_iload 113 rfl C X1052 at_111 rfl ?_
        refine g_bastore 114 rfl C X1052 e1053 B1055 3 (by decide) (by decide) w1030 hw1030 at_113 N1056 gn1028 fun T1058 h1059 ls1060 X1061 e1062 W1063 B1064 N1065 => ?_
        have Zs1066 := Nat.le_trans Zs1057 (Nat.le_of_eq W1063.size.symm)
        refine g_dup 115 rfl C X1061 at_114 rfl ?_
        refine g_iconst 116 rfl C X1061 (4 : Int32) at_115 rfl ?_
        refine g_iload 118 rfl C X1061 at_116 rfl ?_
        refine g_bastore 119 rfl C X1061 e1062 B1064 4 (by decide) (by decide) w1030 hw1030 at_118 N1065 gn1028 fun T1067 h1068 ls1069 X1070 e1071 W1072 B1073 N1074 => ?_
        have Zs1075 := Nat.le_trans Zs1066 (Nat.le_of_eq W1072.size.symm)
        refine g_dup 120 rfl C X1070 at_119 rfl ?_
        refine g_iconst 121 rfl C X1070 (5 : Int32) at_120 rfl ?_
        refine g_iload 123 rfl C X1070 at_121 rfl ?_
        refine g_bastore 124 rfl C X1070 e1071 B1073 5 (by decide) (by decide) w1030 hw1030 at_123 N1074 gn1028 fun T1076 h1077 ls1078 X1079 e1080 W1081 B1082 N1083 => ?_
        have Zs1084 := Nat.le_trans Zs1075 (Nat.le_of_eq W1081.size.symm)
        refine g_dup 125 rfl C X1079 at_124 rfl ?_
        refine g_bipush 127 rfl C X1079 (6 : Int32) at_125 rfl ?_
        refine g_iload 129 rfl C X1079 at_127 rfl ?_
        refine g_bastore 130 rfl C X1079 e1080 B1082 6 (by decide) (by decide) w1030 hw1030 at_129 N1083 gn1028 fun T1085 h1086 ls1087 X1088 e1089 W1090 B1091 N1092 => ?_
        have Zs1093 := Nat.le_trans Zs1084 (Nat.le_of_eq W1090.size.symm)
        refine g_dup 131 rfl C X1088 at_130 rfl ?_
        refine g_bipush 133 rfl C X1088 (7 : Int32) at_131 rfl ?_
        refine g_iload 135 rfl C X1088 at_133 rfl ?_
        refine g_bastore 136 rfl C X1088 e1089 B1091 7 (by decide) (by decide) w1030 hw1030 at_135 N1092 gn1028 fun T1094 h1095 ls1096 X1097 e1098 W1099 B1100 N1101 => ?_
        have Zs1102 := Nat.le_trans Zs1093 (Nat.le_of_eq W1099.size.symm)
        obtain ⟨f1103, B1104, hk1105⟩ : ∃ f : Nat → Int32, Ba Z h1095 o1022 .byte 8 f ∧ ∀ k, k < 8 → (f k).toInt = w1030.toInt := ⟨_, B1100, fun k hk => by
            simp only [upd_eq]; repeat' split
            all_goals first | rfl | omega⟩
        refine g_astore 138 rfl C X1097 #[.val (.int p0), .val (.int p1), .val (.int p2), .val (.int p3), .val (.int v1), .val (.int v2), .val (.int v1017), .val (.int v1018), .val (.int v1019), .val (.ref o1022), .unset, .unset, .unset, .unset, .unset, .unset, .unset] at_136 rfl rfl ?_
        refine g_iload 140 rfl C X1097 at_138 rfl ?_
        refine g_aload 142 rfl C X1097 at_140 rfl rfl ?_
        refine g_iload 144 rfl C X1097 at_142 rfl ?_
        have hq1106 : 65536 ≤ v1017.toInt ∧ v1017.toInt < 1114112 := by
          have fr1107 := rng32 v1017
          have fc1108 : (65536 : Int32).toInt = 65536 := rfl
          have fr1109 := rng32 v2
          have fr1110 := rng32 p1
          have fc1111 : (2147483647 : Int32).toInt = 2147483647 := rfl
          have fo1112 : (p1 &&& (2147483647 : Int32)).toInt = p1.toInt % 2147483648 := c_mask p1 (2147483647 : Int32) 31 (by decide) (by decide)
          have fe1113 : (p1 &&& (2147483647 : Int32)).toInt = v2.toInt := congrArg Int32.toInt hv2
          have fc1114 : (1048576 : Int32).toInt = 1048576 := rfl
          have fo1115 := c_irem v2 (1048576 : Int32) 1048576 rfl
          have fr1116 := rng32 (v2 % (1048576 : Int32))
          have fo1117 := c_iadd (65536 : Int32) (v2 % (1048576 : Int32))
          have fr1118 := rng32 ((65536 : Int32) + (v2 % (1048576 : Int32)))
          have fe1119 : ((65536 : Int32) + (v2 % (1048576 : Int32))).toInt = v1017.toInt := congrArg Int32.toInt hv1017
          omega
        have hq1120 : 0 ≤ v1018.toInt ∧ v1018.toInt ≤ 4 := by
          have fr1121 := rng32 v1018
          have fr1122 := rng32 p2
          have fc1123 : (2147483647 : Int32).toInt = 2147483647 := rfl
          have fo1124 : (p2 &&& (2147483647 : Int32)).toInt = p2.toInt % 2147483648 := c_mask p2 (2147483647 : Int32) 31 (by decide) (by decide)
          have fc1125 : (5 : Int32).toInt = 5 := rfl
          have fo1126 := c_irem (p2 &&& (2147483647 : Int32)) (5 : Int32) 5 rfl
          have fr1127 := rng32 ((p2 &&& (2147483647 : Int32)) % (5 : Int32))
          have fe1128 : ((p2 &&& (2147483647 : Int32)) % (5 : Int32)).toInt = v1018.toInt := congrArg Int32.toInt hv1018
          omega
        obtain ⟨n1129, hn1129⟩ : ∃ n : Nat, v1018.toInt = n := ⟨v1018.toInt.toNat, by omega⟩
        have hn11294 : n1129 ≤ 4 := by omega
        refine g_callS 147 rfl C X1097 (argsL := [(.int v1017), (.ref o1022), (.int v1018)]) (hw _ (List.mem_of_getElem? (i := 2) rfl)) (hw _ (List.mem_of_getElem? (i := 3) rfl)) (hw _ (List.mem_of_getElem? (i := 5) rfl)) (hw _ (List.mem_of_getElem? (i := 4) rfl)) e1098 (rm1_4 l Z a0 hw [] v1017 o1022 v1018 f1103 n1129 h1095 n0 Zs1102 B1104 hn1129 (by omega) hq1106 gn1028) (lenOf pd_30946454 rfl) (by decide) (by decide) (by decide) (by decide) rfl (W := 0) (Nat.le_of_eq rfl) (by decide) at_144 rfl fun r1130 T1131 Lc1132 X1133 hQ1134 => ?_
        obtain ⟨f1135, rfl, hs1136, hk1137, Nq1138, Kc1139, B1140⟩ := hQ1134
        have Zs1141 := Nat.le_trans Zs1102 Kc1139.1
        have N1142 := Fr.app N1101 Nq1138
        show Goes _ _ _ _ _ _ 147 _ [(.int (4 : Int32))]
        refine g_istore 149 rfl C X1133 (4 : Int32) rfl #[.val (.int p0), .val (.int p1), .val (.int p2), .val (.int p3), .val (.int v1), .val (.int v2), .val (.int v1017), .val (.int v1018), .val (.int v1019), .val (.ref o1022), .val (.int (4 : Int32)), .unset, .unset, .unset, .unset, .unset, .unset] at_147 rfl ?_
        refine g_iload 151 rfl C X1133 at_149 rfl ?_
        refine g_sipush 154 rfl C X1133 (128 : Int32) at_151 rfl ?_
        have hq1144 : ¬ (v1017.toInt < (128 : Int32).toInt) := by
          have fc1145 : (128 : Int32).toInt = 128 := rfl
          omega
        refine g_icmp_ge_t 161 C X1133 at_154 (by decide) (by decide) hq1144 ?_
        refine g_iload 163 rfl C X1133 at_161 rfl ?_
        refine g_sipush 166 rfl C X1133 (2048 : Int32) at_163 rfl ?_
        have hq1147 : ¬ (v1017.toInt < (2048 : Int32).toInt) := by
          have fc1148 : (2048 : Int32).toInt = 2048 := rfl
          omega
        refine g_icmp_ge_t 173 C X1133 at_166 (by decide) (by decide) hq1147 ?_
        refine g_iload 175 rfl C X1133 at_173 rfl ?_
        refine g_ldc 177 rfl C X1133 (hw _ (List.mem_of_getElem? (i := 10) rfl)) at_175 ?_
        have hq1150 : ¬ (v1017.toInt < (65536 : Int32).toInt) := by
          have fc1151 : (65536 : Int32).toInt = 65536 := rfl
          omega
        refine g_icmp_ge_t 184 C X1133 at_177 (by decide) (by decide) hq1150 ?_
        refine g_iconst 185 rfl C X1133 (4 : Int32) at_184 rfl ?_
        refine g_istore 187 rfl C X1133 (4 : Int32) rfl #[.val (.int p0), .val (.int p1), .val (.int p2), .val (.int p3), .val (.int v1), .val (.int v2), .val (.int v1017), .val (.int v1018), .val (.int v1019), .val (.ref o1022), .val (.int (4 : Int32)), .val (.int (4 : Int32)), .unset, .unset, .unset, .unset, .unset] at_185 rfl ?_
        refine g_iload 189 rfl C X1133 at_187 rfl ?_
        refine g_iload 191 rfl C X1133 at_189 rfl ?_
        refine g_icmp_eq_t 196 C X1133 at_191 (by decide) (by decide) (by decide) ?_
        refine g_aload 198 rfl C X1133 at_196 rfl rfl ?_
        refine g_iconst 199 rfl C X1133 (0 : Int32) at_198 rfl ?_
        refine g_iload 201 rfl C X1133 at_199 rfl ?_
        refine g_iload 203 rfl C X1133 at_201 rfl ?_
        refine g_iload 205 rfl C X1133 at_203 rfl ?_
        have hq1152 : 0 ≤ v1018.toInt ∧ v1018.toInt ≤ 4 ∧ 0 ≤ (4 : Int32).toInt ∧ (4 : Int32).toInt ≤ 4 := by
          have fc1153 : (4 : Int32).toInt = 4 := rfl
          omega
        refine g_callS 208 rfl C X1133 (argsL := [(.ref o1022), (.int (0 : Int32)), (.int v1018), (.int (4 : Int32)), (.int v1019)]) (hw _ (List.mem_of_getElem? (i := 6) rfl)) (hw _ (List.mem_of_getElem? (i := 7) rfl)) (hw _ (List.mem_of_getElem? (i := 9) rfl)) (hw _ (List.mem_of_getElem? (i := 8) rfl)) rfl (rm2 l Z a0 hw [] o1022 (0 : Int32) v1018 (4 : Int32) v1019 f1135 0 (f1135 0) (T1131.heap) n0 Zs1141 B1140 rfl (by decide) rfl hq1152) (lenOf pd_72974198 rfl) (by decide) (by decide) (by decide) (by decide) rfl (W := 0) (Nat.le_of_eq rfl) (by decide) at_205 rfl fun r1154 T1155 Lc1156 X1157 hQ1158 => ?_
        obtain ⟨r1159, rfl, hs1160, Nq1161, eh1162⟩ := hQ1158
        have N1163 := Fr.app N1142 Nq1161
        show Goes _ _ _ _ _ _ 208 _ [(.int r1159)]
        have hq1165 : ¬ (r1159.toInt = 0) := by
          have hk0 := hk1137 0
          have hk1 := hk1105 0 (by decide)
          have hfw : w1030.toInt = v1019.toInt := by
            have fa := c_i2b v1019
            have fb := c_i2b p3
            rw [hw1030] at fa; rw [hv1019] at fb; omega
          clear hs1136
          have fc1166 : (0 : Int32).toInt = 0 := rfl
          have fc1167 : (4 : Int32).toInt = 4 := rfl
          omega
        refine g_if_eq_f 211 rfl C X1157 at_208 hq1165 ?_
        clear hs1160
        refine g_aload 213 rfl C X1157 at_211 rfl rfl ?_
        refine g_iconst 214 rfl C X1157 (1 : Int32) at_213 rfl ?_
        refine g_iload 216 rfl C X1157 at_214 rfl ?_
        refine g_iload 218 rfl C X1157 at_216 rfl ?_
        refine g_iload 220 rfl C X1157 at_218 rfl ?_
        have hq1168 : 0 ≤ v1018.toInt ∧ v1018.toInt ≤ 4 ∧ 0 ≤ (4 : Int32).toInt ∧ (4 : Int32).toInt ≤ 4 := by
          have fc1169 : (4 : Int32).toInt = 4 := rfl
          omega
        refine g_callS 223 rfl C X1157 (argsL := [(.ref o1022), (.int (1 : Int32)), (.int v1018), (.int (4 : Int32)), (.int v1019)]) (hw _ (List.mem_of_getElem? (i := 6) rfl)) (hw _ (List.mem_of_getElem? (i := 7) rfl)) (hw _ (List.mem_of_getElem? (i := 9) rfl)) (hw _ (List.mem_of_getElem? (i := 8) rfl)) eh1162 (rm2 l Z a0 hw [] o1022 (1 : Int32) v1018 (4 : Int32) v1019 f1135 1 (f1135 1) (T1131.heap) n0 Zs1141 B1140 rfl (by decide) rfl hq1168) (lenOf pd_72974198 rfl) (by decide) (by decide) (by decide) (by decide) rfl (W := 0) (Nat.le_of_eq rfl) (by decide) at_220 rfl fun r1170 T1171 Lc1172 X1173 hQ1174 => ?_
        obtain ⟨r1175, rfl, hs1176, Nq1177, eh1178⟩ := hQ1174
        have N1179 := Fr.app N1163 Nq1177
        show Goes _ _ _ _ _ _ 223 _ [(.int r1175)]
        have hq1181 : ¬ (r1175.toInt = 0) := by
          have hk0 := hk1137 1
          have hk1 := hk1105 1 (by decide)
          have hfw : w1030.toInt = v1019.toInt := by
            have fa := c_i2b v1019
            have fb := c_i2b p3
            rw [hw1030] at fa; rw [hv1019] at fb; omega
          clear hs1136
          have fc1182 : (1 : Int32).toInt = 1 := rfl
          have fc1183 : (4 : Int32).toInt = 4 := rfl
          omega
        refine g_if_eq_f 226 rfl C X1173 at_223 hq1181 ?_
        clear hs1176
        refine g_aload 228 rfl C X1173 at_226 rfl rfl ?_
        refine g_iconst 229 rfl C X1173 (2 : Int32) at_228 rfl ?_
        refine g_iload 231 rfl C X1173 at_229 rfl ?_
        refine g_iload 233 rfl C X1173 at_231 rfl ?_
        refine g_iload 235 rfl C X1173 at_233 rfl ?_
        have hq1184 : 0 ≤ v1018.toInt ∧ v1018.toInt ≤ 4 ∧ 0 ≤ (4 : Int32).toInt ∧ (4 : Int32).toInt ≤ 4 := by
          have fc1185 : (4 : Int32).toInt = 4 := rfl
          omega
        refine g_callS 238 rfl C X1173 (argsL := [(.ref o1022), (.int (2 : Int32)), (.int v1018), (.int (4 : Int32)), (.int v1019)]) (hw _ (List.mem_of_getElem? (i := 6) rfl)) (hw _ (List.mem_of_getElem? (i := 7) rfl)) (hw _ (List.mem_of_getElem? (i := 9) rfl)) (hw _ (List.mem_of_getElem? (i := 8) rfl)) eh1178 (rm2 l Z a0 hw [] o1022 (2 : Int32) v1018 (4 : Int32) v1019 f1135 2 (f1135 2) (T1131.heap) n0 Zs1141 B1140 rfl (by decide) rfl hq1184) (lenOf pd_72974198 rfl) (by decide) (by decide) (by decide) (by decide) rfl (W := 0) (Nat.le_of_eq rfl) (by decide) at_235 rfl fun r1186 T1187 Lc1188 X1189 hQ1190 => ?_
        obtain ⟨r1191, rfl, hs1192, Nq1193, eh1194⟩ := hQ1190
        have N1195 := Fr.app N1179 Nq1193
        show Goes _ _ _ _ _ _ 238 _ [(.int r1191)]
        have hq1197 : ¬ (r1191.toInt = 0) := by
          have hk0 := hk1137 2
          have hk1 := hk1105 2 (by decide)
          have hfw : w1030.toInt = v1019.toInt := by
            have fa := c_i2b v1019
            have fb := c_i2b p3
            rw [hw1030] at fa; rw [hv1019] at fb; omega
          clear hs1136
          have fc1198 : (2 : Int32).toInt = 2 := rfl
          have fc1199 : (4 : Int32).toInt = 4 := rfl
          omega
        refine g_if_eq_f 241 rfl C X1189 at_238 hq1197 ?_
        clear hs1192
        refine g_aload 243 rfl C X1189 at_241 rfl rfl ?_
        refine g_iconst 244 rfl C X1189 (3 : Int32) at_243 rfl ?_
        refine g_iload 246 rfl C X1189 at_244 rfl ?_
        refine g_iload 248 rfl C X1189 at_246 rfl ?_
        refine g_iload 250 rfl C X1189 at_248 rfl ?_
        have hq1200 : 0 ≤ v1018.toInt ∧ v1018.toInt ≤ 4 ∧ 0 ≤ (4 : Int32).toInt ∧ (4 : Int32).toInt ≤ 4 := by
          have fc1201 : (4 : Int32).toInt = 4 := rfl
          omega
        refine g_callS 253 rfl C X1189 (argsL := [(.ref o1022), (.int (3 : Int32)), (.int v1018), (.int (4 : Int32)), (.int v1019)]) (hw _ (List.mem_of_getElem? (i := 6) rfl)) (hw _ (List.mem_of_getElem? (i := 7) rfl)) (hw _ (List.mem_of_getElem? (i := 9) rfl)) (hw _ (List.mem_of_getElem? (i := 8) rfl)) eh1194 (rm2 l Z a0 hw [] o1022 (3 : Int32) v1018 (4 : Int32) v1019 f1135 3 (f1135 3) (T1131.heap) n0 Zs1141 B1140 rfl (by decide) rfl hq1200) (lenOf pd_72974198 rfl) (by decide) (by decide) (by decide) (by decide) rfl (W := 0) (Nat.le_of_eq rfl) (by decide) at_250 rfl fun r1202 T1203 Lc1204 X1205 hQ1206 => ?_
        obtain ⟨r1207, rfl, hs1208, Nq1209, eh1210⟩ := hQ1206
        have N1211 := Fr.app N1195 Nq1209
        show Goes _ _ _ _ _ _ 253 _ [(.int r1207)]
        have hq1213 : ¬ (r1207.toInt = 0) := by
          have hk0 := hk1137 3
          have hk1 := hk1105 3 (by decide)
          have hfw : w1030.toInt = v1019.toInt := by
            have fa := c_i2b v1019
            have fb := c_i2b p3
            rw [hw1030] at fa; rw [hv1019] at fb; omega
          clear hs1136
          have fc1214 : (3 : Int32).toInt = 3 := rfl
          have fc1215 : (4 : Int32).toInt = 4 := rfl
          omega
        refine g_if_eq_f 256 rfl C X1205 at_253 hq1213 ?_
        clear hs1208
        refine g_aload 258 rfl C X1205 at_256 rfl rfl ?_
        refine g_iconst 259 rfl C X1205 (4 : Int32) at_258 rfl ?_
        refine g_iload 261 rfl C X1205 at_259 rfl ?_
        refine g_iload 263 rfl C X1205 at_261 rfl ?_
        refine g_iload 265 rfl C X1205 at_263 rfl ?_
        have hq1216 : 0 ≤ v1018.toInt ∧ v1018.toInt ≤ 4 ∧ 0 ≤ (4 : Int32).toInt ∧ (4 : Int32).toInt ≤ 4 := by
          have fc1217 : (4 : Int32).toInt = 4 := rfl
          omega
        refine g_callS 268 rfl C X1205 (argsL := [(.ref o1022), (.int (4 : Int32)), (.int v1018), (.int (4 : Int32)), (.int v1019)]) (hw _ (List.mem_of_getElem? (i := 6) rfl)) (hw _ (List.mem_of_getElem? (i := 7) rfl)) (hw _ (List.mem_of_getElem? (i := 9) rfl)) (hw _ (List.mem_of_getElem? (i := 8) rfl)) eh1210 (rm2 l Z a0 hw [] o1022 (4 : Int32) v1018 (4 : Int32) v1019 f1135 4 (f1135 4) (T1131.heap) n0 Zs1141 B1140 rfl (by decide) rfl hq1216) (lenOf pd_72974198 rfl) (by decide) (by decide) (by decide) (by decide) rfl (W := 0) (Nat.le_of_eq rfl) (by decide) at_265 rfl fun r1218 T1219 Lc1220 X1221 hQ1222 => ?_
        obtain ⟨r1223, rfl, hs1224, Nq1225, eh1226⟩ := hQ1222
        have N1227 := Fr.app N1211 Nq1225
        show Goes _ _ _ _ _ _ 268 _ [(.int r1223)]
        have hq1229 : ¬ (r1223.toInt = 0) := by
          have hk0 := hk1137 4
          have hk1 := hk1105 4 (by decide)
          have hfw : w1030.toInt = v1019.toInt := by
            have fa := c_i2b v1019
            have fb := c_i2b p3
            rw [hw1030] at fa; rw [hv1019] at fb; omega
          clear hs1136
          have fc1230 : (4 : Int32).toInt = 4 := rfl
          omega
        refine g_if_eq_f 271 rfl C X1221 at_268 hq1229 ?_
        clear hs1224
        refine g_aload 273 rfl C X1221 at_271 rfl rfl ?_
        refine g_iconst 274 rfl C X1221 (5 : Int32) at_273 rfl ?_
        refine g_iload 276 rfl C X1221 at_274 rfl ?_
        refine g_iload 278 rfl C X1221 at_276 rfl ?_
        refine g_iload 280 rfl C X1221 at_278 rfl ?_
        have hq1231 : 0 ≤ v1018.toInt ∧ v1018.toInt ≤ 4 ∧ 0 ≤ (4 : Int32).toInt ∧ (4 : Int32).toInt ≤ 4 := by
          have fc1232 : (4 : Int32).toInt = 4 := rfl
          omega
        refine g_callS 283 rfl C X1221 (argsL := [(.ref o1022), (.int (5 : Int32)), (.int v1018), (.int (4 : Int32)), (.int v1019)]) (hw _ (List.mem_of_getElem? (i := 6) rfl)) (hw _ (List.mem_of_getElem? (i := 7) rfl)) (hw _ (List.mem_of_getElem? (i := 9) rfl)) (hw _ (List.mem_of_getElem? (i := 8) rfl)) eh1226 (rm2 l Z a0 hw [] o1022 (5 : Int32) v1018 (4 : Int32) v1019 f1135 5 (f1135 5) (T1131.heap) n0 Zs1141 B1140 rfl (by decide) rfl hq1231) (lenOf pd_72974198 rfl) (by decide) (by decide) (by decide) (by decide) rfl (W := 0) (Nat.le_of_eq rfl) (by decide) at_280 rfl fun r1233 T1234 Lc1235 X1236 hQ1237 => ?_
        obtain ⟨r1238, rfl, hs1239, Nq1240, eh1241⟩ := hQ1237
        have N1242 := Fr.app N1227 Nq1240
        show Goes _ _ _ _ _ _ 283 _ [(.int r1238)]
        have hq1244 : ¬ (r1238.toInt = 0) := by
          have hk0 := hk1137 5
          have hk1 := hk1105 5 (by decide)
          have hfw : w1030.toInt = v1019.toInt := by
            have fa := c_i2b v1019
            have fb := c_i2b p3
            rw [hw1030] at fa; rw [hv1019] at fb; omega
          clear hs1136
          have fc1245 : (5 : Int32).toInt = 5 := rfl
          have fc1246 : (4 : Int32).toInt = 4 := rfl
          omega
        refine g_if_eq_f 286 rfl C X1236 at_283 hq1244 ?_
        clear hs1239
        refine g_aload 288 rfl C X1236 at_286 rfl rfl ?_
        refine g_bipush 290 rfl C X1236 (6 : Int32) at_288 rfl ?_
        refine g_iload 292 rfl C X1236 at_290 rfl ?_
        refine g_iload 294 rfl C X1236 at_292 rfl ?_
        refine g_iload 296 rfl C X1236 at_294 rfl ?_
        have hq1247 : 0 ≤ v1018.toInt ∧ v1018.toInt ≤ 4 ∧ 0 ≤ (4 : Int32).toInt ∧ (4 : Int32).toInt ≤ 4 := by
          have fc1248 : (4 : Int32).toInt = 4 := rfl
          omega
        refine g_callS 299 rfl C X1236 (argsL := [(.ref o1022), (.int (6 : Int32)), (.int v1018), (.int (4 : Int32)), (.int v1019)]) (hw _ (List.mem_of_getElem? (i := 6) rfl)) (hw _ (List.mem_of_getElem? (i := 7) rfl)) (hw _ (List.mem_of_getElem? (i := 9) rfl)) (hw _ (List.mem_of_getElem? (i := 8) rfl)) eh1241 (rm2 l Z a0 hw [] o1022 (6 : Int32) v1018 (4 : Int32) v1019 f1135 6 (f1135 6) (T1131.heap) n0 Zs1141 B1140 rfl (by decide) rfl hq1247) (lenOf pd_72974198 rfl) (by decide) (by decide) (by decide) (by decide) rfl (W := 0) (Nat.le_of_eq rfl) (by decide) at_296 rfl fun r1249 T1250 Lc1251 X1252 hQ1253 => ?_
        obtain ⟨r1254, rfl, hs1255, Nq1256, eh1257⟩ := hQ1253
        have N1258 := Fr.app N1242 Nq1256
        show Goes _ _ _ _ _ _ 299 _ [(.int r1254)]
        have hq1260 : ¬ (r1254.toInt = 0) := by
          have hk0 := hk1137 6
          have hk1 := hk1105 6 (by decide)
          have hfw : w1030.toInt = v1019.toInt := by
            have fa := c_i2b v1019
            have fb := c_i2b p3
            rw [hw1030] at fa; rw [hv1019] at fb; omega
          clear hs1136
          have fc1261 : (6 : Int32).toInt = 6 := rfl
          have fc1262 : (4 : Int32).toInt = 4 := rfl
          omega
        refine g_if_eq_f 302 rfl C X1252 at_299 hq1260 ?_
        clear hs1255
        refine g_aload 304 rfl C X1252 at_302 rfl rfl ?_
        refine g_bipush 306 rfl C X1252 (7 : Int32) at_304 rfl ?_
        refine g_iload 308 rfl C X1252 at_306 rfl ?_
        refine g_iload 310 rfl C X1252 at_308 rfl ?_
        refine g_iload 312 rfl C X1252 at_310 rfl ?_
        have hq1263 : 0 ≤ v1018.toInt ∧ v1018.toInt ≤ 4 ∧ 0 ≤ (4 : Int32).toInt ∧ (4 : Int32).toInt ≤ 4 := by
          have fc1264 : (4 : Int32).toInt = 4 := rfl
          omega
        refine g_callS 315 rfl C X1252 (argsL := [(.ref o1022), (.int (7 : Int32)), (.int v1018), (.int (4 : Int32)), (.int v1019)]) (hw _ (List.mem_of_getElem? (i := 6) rfl)) (hw _ (List.mem_of_getElem? (i := 7) rfl)) (hw _ (List.mem_of_getElem? (i := 9) rfl)) (hw _ (List.mem_of_getElem? (i := 8) rfl)) eh1257 (rm2 l Z a0 hw [] o1022 (7 : Int32) v1018 (4 : Int32) v1019 f1135 7 (f1135 7) (T1131.heap) n0 Zs1141 B1140 rfl (by decide) rfl hq1263) (lenOf pd_72974198 rfl) (by decide) (by decide) (by decide) (by decide) rfl (W := 0) (Nat.le_of_eq rfl) (by decide) at_312 rfl fun r1265 T1266 Lc1267 X1268 hQ1269 => ?_
        obtain ⟨r1270, rfl, hs1271, Nq1272, eh1273⟩ := hQ1269
        have N1274 := Fr.app N1258 Nq1272
        show Goes _ _ _ _ _ _ 315 _ [(.int r1270)]
        have hq1276 : ¬ (r1270.toInt = 0) := by
          have hk0 := hk1137 7
          have hk1 := hk1105 7 (by decide)
          have hfw : w1030.toInt = v1019.toInt := by
            have fa := c_i2b v1019
            have fb := c_i2b p3
            rw [hw1030] at fa; rw [hv1019] at fb; omega
          clear hs1136
          have fc1277 : (7 : Int32).toInt = 7 := rfl
          have fc1278 : (4 : Int32).toInt = 4 := rfl
          omega
        refine g_if_eq_f 318 rfl C X1268 at_315 hq1276 ?_
        clear hs1271
        refine g_iconst 319 rfl C X1268 (1 : Int32) at_318 rfl ?_
        refine g_goto 323 C X1268 at_319 (by decide) (by decide) ?_
        refine g_istore 325 rfl C X1268 (1 : Int32) rfl #[.val (.int p0), .val (.int p1), .val (.int p2), .val (.int p3), .val (.int v1), .val (.int v2), .val (.int v1017), .val (.int v1018), .val (.int v1019), .val (.ref o1022), .val (.int (4 : Int32)), .val (.int (4 : Int32)), .val (.int (1 : Int32)), .unset, .unset, .unset, .unset] at_323 rfl ?_
        refine g_iload 327 rfl C X1268 at_325 rfl ?_
        refine g_if_ne_t 332 C X1268 at_327 (by decide) (by decide) (by decide) ?_
        refine g_aload 334 rfl C X1268 at_332 rfl rfl ?_
        refine g_iload 336 rfl C X1268 at_334 rfl ?_
        have fr1279 := rng32 v1018
        have fr1280 := rng32 p2
        have fc1281 : (2147483647 : Int32).toInt = 2147483647 := rfl
        have fo1282 : (p2 &&& (2147483647 : Int32)).toInt = p2.toInt % 2147483648 := c_mask p2 (2147483647 : Int32) 31 (by decide) (by decide)
        have fc1283 : (5 : Int32).toInt = 5 := rfl
        have fo1284 := c_irem (p2 &&& (2147483647 : Int32)) (5 : Int32) 5 rfl
        have fr1285 := rng32 ((p2 &&& (2147483647 : Int32)) % (5 : Int32))
        have fe1286 : ((p2 &&& (2147483647 : Int32)) % (5 : Int32)).toInt = v1018.toInt := congrArg Int32.toInt hv1018
        refine g_baload 337 rfl C X1268 eh1273 B1140 (n1129) (by omega) (by omega) (f1135 n1129) rfl at_336 ?_
        refine g_sipush 340 rfl C X1268 (255 : Int32) at_337 rfl ?_
        refine g_iand 341 rfl C X1268 at_340 ?_
        obtain ⟨v1287, hv1287⟩ : ∃ z : Int32, ((f1135 n1129) &&& (255 : Int32)) = z := ⟨_, rfl⟩
        refine g_istore 343 rfl C X1268 v1287 hv1287 #[.val (.int p0), .val (.int p1), .val (.int p2), .val (.int p3), .val (.int v1), .val (.int v2), .val (.int v1017), .val (.int v1018), .val (.int v1019), .val (.ref o1022), .val (.int (4 : Int32)), .val (.int (4 : Int32)), .val (.int (1 : Int32)), .val (.int v1287), .unset, .unset, .unset] at_341 rfl ?_
        refine g_aload 345 rfl C X1268 at_343 rfl rfl ?_
        refine g_iload 347 rfl C X1268 at_345 rfl ?_
        refine g_iconst 348 rfl C X1268 (1 : Int32) at_347 rfl ?_
        refine g_iadd 349 rfl C X1268 at_348 ?_
        have fc1288 : (1 : Int32).toInt = 1 := rfl
        have fo1289 := c_iadd v1018 (1 : Int32)
        have fr1290 := rng32 (v1018 + (1 : Int32))
        refine g_baload 350 rfl C X1268 eh1273 B1140 (n1129 + 1) (by omega) (by omega) (f1135 (n1129 + 1)) rfl at_349 ?_
        refine g_sipush 353 rfl C X1268 (255 : Int32) at_350 rfl ?_
        refine g_iand 354 rfl C X1268 at_353 ?_
        obtain ⟨v1291, hv1291⟩ : ∃ z : Int32, ((f1135 (n1129 + 1)) &&& (255 : Int32)) = z := ⟨_, rfl⟩
        refine g_istore 356 rfl C X1268 v1291 hv1291 #[.val (.int p0), .val (.int p1), .val (.int p2), .val (.int p3), .val (.int v1), .val (.int v2), .val (.int v1017), .val (.int v1018), .val (.int v1019), .val (.ref o1022), .val (.int (4 : Int32)), .val (.int (4 : Int32)), .val (.int (1 : Int32)), .val (.int v1287), .val (.int v1291), .unset, .unset] at_354 rfl ?_
        refine g_aload 358 rfl C X1268 at_356 rfl rfl ?_
        refine g_iload 360 rfl C X1268 at_358 rfl ?_
        refine g_iconst 361 rfl C X1268 (2 : Int32) at_360 rfl ?_
        refine g_iadd 362 rfl C X1268 at_361 ?_
        have fc1292 : (2 : Int32).toInt = 2 := rfl
        have fo1293 := c_iadd v1018 (2 : Int32)
        have fr1294 := rng32 (v1018 + (2 : Int32))
        refine g_baload 363 rfl C X1268 eh1273 B1140 (n1129 + 2) (by omega) (by omega) (f1135 (n1129 + 2)) rfl at_362 ?_
        refine g_sipush 366 rfl C X1268 (255 : Int32) at_363 rfl ?_
        refine g_iand 367 rfl C X1268 at_366 ?_
        obtain ⟨v1295, hv1295⟩ : ∃ z : Int32, ((f1135 (n1129 + 2)) &&& (255 : Int32)) = z := ⟨_, rfl⟩
        refine g_istore 369 rfl C X1268 v1295 hv1295 #[.val (.int p0), .val (.int p1), .val (.int p2), .val (.int p3), .val (.int v1), .val (.int v2), .val (.int v1017), .val (.int v1018), .val (.int v1019), .val (.ref o1022), .val (.int (4 : Int32)), .val (.int (4 : Int32)), .val (.int (1 : Int32)), .val (.int v1287), .val (.int v1291), .val (.int v1295), .unset] at_367 rfl ?_
        refine g_aload 371 rfl C X1268 at_369 rfl rfl ?_
        refine g_iload 373 rfl C X1268 at_371 rfl ?_
        refine g_iconst 374 rfl C X1268 (3 : Int32) at_373 rfl ?_
        refine g_iadd 375 rfl C X1268 at_374 ?_
        have fc1296 : (3 : Int32).toInt = 3 := rfl
        have fo1297 := c_iadd v1018 (3 : Int32)
        have fr1298 := rng32 (v1018 + (3 : Int32))
        refine g_baload 376 rfl C X1268 eh1273 B1140 (n1129 + 3) (by omega) (by omega) (f1135 (n1129 + 3)) rfl at_375 ?_
        refine g_sipush 379 rfl C X1268 (255 : Int32) at_376 rfl ?_
        refine g_iand 380 rfl C X1268 at_379 ?_
        obtain ⟨v1299, hv1299⟩ : ∃ z : Int32, ((f1135 (n1129 + 3)) &&& (255 : Int32)) = z := ⟨_, rfl⟩
        refine g_istore 382 rfl C X1268 v1299 hv1299 #[.val (.int p0), .val (.int p1), .val (.int p2), .val (.int p3), .val (.int v1), .val (.int v2), .val (.int v1017), .val (.int v1018), .val (.int v1019), .val (.ref o1022), .val (.int (4 : Int32)), .val (.int (4 : Int32)), .val (.int (1 : Int32)), .val (.int v1287), .val (.int v1291), .val (.int v1295), .val (.int v1299)] at_380 rfl ?_
        refine g_iload 384 rfl C X1268 at_382 rfl ?_
        refine g_iconst 385 rfl C X1268 (1 : Int32) at_384 rfl ?_
        refine g_icmp_ne_t 401 C X1268 at_385 (by decide) (by decide) (by decide) ?_
        refine g_iload 403 rfl C X1268 at_401 rfl ?_
        refine g_iconst 404 rfl C X1268 (2 : Int32) at_403 rfl ?_
        refine g_icmp_ne_t 452 C X1268 at_404 (by decide) (by decide) (by decide) ?_
        refine g_iload 454 rfl C X1268 at_452 rfl ?_
        refine g_iconst 455 rfl C X1268 (3 : Int32) at_454 rfl ?_
        refine g_icmp_ne_t 521 C X1268 at_455 (by decide) (by decide) (by decide) ?_
        refine g_iload 523 rfl C X1268 at_521 rfl ?_
        refine g_sipush 526 rfl C X1268 (248 : Int32) at_523 rfl ?_
        refine g_iand 527 rfl C X1268 at_526 ?_
        refine g_sipush 530 rfl C X1268 (240 : Int32) at_527 rfl ?_
        have hq1301 : (v1287 &&& (248 : Int32)).toInt = (240 : Int32).toInt := by
          have fr1302 := rng32 v1287
          have fr1303 := rng32 (f1135 n1129)
          have fc1304 : (255 : Int32).toInt = 255 := rfl
          have fo1305 : ((f1135 n1129) &&& (255 : Int32)).toInt = (f1135 n1129).toInt % 256 := c_mask (f1135 n1129) (255 : Int32) 8 (by decide) (by decide)
          have fe1306 : ((f1135 n1129) &&& (255 : Int32)).toInt = v1287.toInt := congrArg Int32.toInt hv1287
          have fc1307 : (248 : Int32).toInt = 248 := rfl
          have fc1309 : (7 : Int32).toInt = 7 := rfl
          have fo1310 : (v1287 &&& (7 : Int32)).toInt = v1287.toInt % 8 := c_mask v1287 (7 : Int32) 3 (by decide) (by decide)
          have fo1311 : (v1287 &&& (255 : Int32)).toInt = v1287.toInt % 256 := c_mask v1287 (255 : Int32) 8 (by decide) (by decide)
          have fo1308 := own_blk v1287 (248 : Int32) (7 : Int32) (255 : Int32) (by decide) (by decide)
          have fo1312 := c_and v1287 (248 : Int32) (by decide)
          have fr1313 := rng32 (v1287 &&& (248 : Int32))
          have fc1314 : (240 : Int32).toInt = 240 := rfl
          omega
        refine g_icmp_ne_f 533 rfl C X1268 at_530 hq1301 ?_
        refine g_iload 535 rfl C X1268 at_533 rfl ?_
        refine g_callS 538 rfl C X1268 (argsL := [(.int v1291)]) (hw _ (List.mem_of_getElem? (i := 13) rfl)) (hw _ (List.mem_of_getElem? (i := 14) rfl)) (hw _ (List.mem_of_getElem? (i := 15) rfl)) (hw _ (List.mem_of_getElem? (i := 8) rfl)) eh1273 (rm3 l Z a0 hw [] v1291 (T1131.heap) n0 Zs1141) (lenOf pd_52681301 rfl) (by decide) (by decide) (by decide) (by decide) rfl (W := 0) (Nat.le_of_eq rfl) (by decide) at_535 rfl fun r1315 T1316 Lc1317 X1318 hQ1319 => ?_
        obtain ⟨r1320, rfl, hs1321, Nq1322, eh1323⟩ := hQ1319
        have N1324 := Fr.app N1274 Nq1322
        show Goes _ _ _ _ _ _ 538 _ [(.int r1320)]
        have hq1326 : ¬ (r1320.toInt = 0) := by
          have fr1327 := rng32 r1320
          have fr1328 := rng32 v1291
          have fr1329 := rng32 (f1135 (n1129 + 1))
          have fc1330 : (255 : Int32).toInt = 255 := rfl
          have fo1331 : ((f1135 (n1129 + 1)) &&& (255 : Int32)).toInt = (f1135 (n1129 + 1)).toInt % 256 := c_mask (f1135 (n1129 + 1)) (255 : Int32) 8 (by decide) (by decide)
          have fe1332 : ((f1135 (n1129 + 1)) &&& (255 : Int32)).toInt = v1291.toInt := congrArg Int32.toInt hv1291
          omega
        refine g_if_eq_f 541 rfl C X1318 at_538 hq1326 ?_
        refine g_iload 543 rfl C X1318 at_541 rfl ?_
        refine g_callS 546 rfl C X1318 (argsL := [(.int v1295)]) (hw _ (List.mem_of_getElem? (i := 13) rfl)) (hw _ (List.mem_of_getElem? (i := 14) rfl)) (hw _ (List.mem_of_getElem? (i := 15) rfl)) (hw _ (List.mem_of_getElem? (i := 8) rfl)) eh1323 (rm3 l Z a0 hw [] v1295 (T1131.heap) n0 Zs1141) (lenOf pd_52681301 rfl) (by decide) (by decide) (by decide) (by decide) rfl (W := 0) (Nat.le_of_eq rfl) (by decide) at_543 rfl fun r1333 T1334 Lc1335 X1336 hQ1337 => ?_
        obtain ⟨r1338, rfl, hs1339, Nq1340, eh1341⟩ := hQ1337
        have N1342 := Fr.app N1324 Nq1340
        show Goes _ _ _ _ _ _ 546 _ [(.int r1338)]
        have hq1344 : ¬ (r1338.toInt = 0) := by
          have fr1345 := rng32 r1338
          have fr1346 := rng32 v1295
          have fr1347 := rng32 (f1135 (n1129 + 2))
          have fc1348 : (255 : Int32).toInt = 255 := rfl
          have fo1349 : ((f1135 (n1129 + 2)) &&& (255 : Int32)).toInt = (f1135 (n1129 + 2)).toInt % 256 := c_mask (f1135 (n1129 + 2)) (255 : Int32) 8 (by decide) (by decide)
          have fe1350 : ((f1135 (n1129 + 2)) &&& (255 : Int32)).toInt = v1295.toInt := congrArg Int32.toInt hv1295
          omega
        refine g_if_eq_f 549 rfl C X1336 at_546 hq1344 ?_
        refine g_iload 551 rfl C X1336 at_549 rfl ?_
        refine g_callS 554 rfl C X1336 (argsL := [(.int v1299)]) (hw _ (List.mem_of_getElem? (i := 13) rfl)) (hw _ (List.mem_of_getElem? (i := 14) rfl)) (hw _ (List.mem_of_getElem? (i := 15) rfl)) (hw _ (List.mem_of_getElem? (i := 8) rfl)) eh1341 (rm3 l Z a0 hw [] v1299 (T1131.heap) n0 Zs1141) (lenOf pd_52681301 rfl) (by decide) (by decide) (by decide) (by decide) rfl (W := 0) (Nat.le_of_eq rfl) (by decide) at_551 rfl fun r1351 T1352 Lc1353 X1354 hQ1355 => ?_
        obtain ⟨r1356, rfl, hs1357, Nq1358, eh1359⟩ := hQ1355
        have N1360 := Fr.app N1342 Nq1358
        show Goes _ _ _ _ _ _ 554 _ [(.int r1356)]
        have hq1362 : ¬ (r1356.toInt = 0) := by
          have fr1363 := rng32 r1356
          have fr1364 := rng32 v1299
          have fr1365 := rng32 (f1135 (n1129 + 3))
          have fc1366 : (255 : Int32).toInt = 255 := rfl
          have fo1367 : ((f1135 (n1129 + 3)) &&& (255 : Int32)).toInt = (f1135 (n1129 + 3)).toInt % 256 := c_mask (f1135 (n1129 + 3)) (255 : Int32) 8 (by decide) (by decide)
          have fe1368 : ((f1135 (n1129 + 3)) &&& (255 : Int32)).toInt = v1299.toInt := congrArg Int32.toInt hv1299
          omega
        refine g_if_eq_f 557 rfl C X1354 at_554 hq1362 ?_
        refine g_iload 559 rfl C X1354 at_557 rfl ?_
        refine g_bipush 561 rfl C X1354 (7 : Int32) at_559 rfl ?_
        refine g_iand 562 rfl C X1354 at_561 ?_
        refine g_ldc 564 rfl C X1354 (hw _ (List.mem_of_getElem? (i := 16) rfl)) at_562 ?_
        refine g_imul 565 rfl C X1354 at_564 ?_
        refine g_iload 567 rfl C X1354 at_565 rfl ?_
        refine g_bipush 569 rfl C X1354 (63 : Int32) at_567 rfl ?_
        refine g_iand 570 rfl C X1354 at_569 ?_
        refine g_sipush 573 rfl C X1354 (4096 : Int32) at_570 rfl ?_
        refine g_imul 574 rfl C X1354 at_573 ?_
        refine g_iadd 575 rfl C X1354 at_574 ?_
        refine g_iload 577 rfl C X1354 at_575 rfl ?_
        refine g_bipush 579 rfl C X1354 (63 : Int32) at_577 rfl ?_
        refine g_iand 580 rfl C X1354 at_579 ?_
        refine g_bipush 582 rfl C X1354 (64 : Int32) at_580 rfl ?_
        refine g_imul 583 rfl C X1354 at_582 ?_
        refine g_iadd 584 rfl C X1354 at_583 ?_
        refine g_iload 586 rfl C X1354 at_584 rfl ?_
        refine g_bipush 588 rfl C X1354 (63 : Int32) at_586 rfl ?_
        refine g_iand 589 rfl C X1354 at_588 ?_
        refine g_iadd 590 rfl C X1354 at_589 ?_
        refine g_iload 592 rfl C X1354 at_590 rfl ?_
        have hq1370 : (((((v1287 &&& (7 : Int32)) * (262144 : Int32)) + ((v1291 &&& (63 : Int32)) * (4096 : Int32))) + ((v1295 &&& (63 : Int32)) * (64 : Int32))) + (v1299 &&& (63 : Int32))).toInt = v1017.toInt := by
          have fr1371 := rng32 v1287
          have fr1372 := rng32 (f1135 n1129)
          have fc1373 : (255 : Int32).toInt = 255 := rfl
          have fo1374 : ((f1135 n1129) &&& (255 : Int32)).toInt = (f1135 n1129).toInt % 256 := c_mask (f1135 n1129) (255 : Int32) 8 (by decide) (by decide)
          have fe1375 : ((f1135 n1129) &&& (255 : Int32)).toInt = v1287.toInt := congrArg Int32.toInt hv1287
          have fc1376 : (7 : Int32).toInt = 7 := rfl
          have fo1377 : (v1287 &&& (7 : Int32)).toInt = v1287.toInt % 8 := c_mask v1287 (7 : Int32) 3 (by decide) (by decide)
          have fc1378 : (262144 : Int32).toInt = 262144 := rfl
          have fo1379 := own_mulc (v1287 &&& (7 : Int32)) (262144 : Int32) 262144 rfl
          have fr1380 := rng32 ((v1287 &&& (7 : Int32)) * (262144 : Int32))
          have fr1381 := rng32 v1291
          have fr1382 := rng32 (f1135 (n1129 + 1))
          have fo1383 : ((f1135 (n1129 + 1)) &&& (255 : Int32)).toInt = (f1135 (n1129 + 1)).toInt % 256 := c_mask (f1135 (n1129 + 1)) (255 : Int32) 8 (by decide) (by decide)
          have fe1384 : ((f1135 (n1129 + 1)) &&& (255 : Int32)).toInt = v1291.toInt := congrArg Int32.toInt hv1291
          have fc1385 : (63 : Int32).toInt = 63 := rfl
          have fo1386 : (v1291 &&& (63 : Int32)).toInt = v1291.toInt % 64 := c_mask v1291 (63 : Int32) 6 (by decide) (by decide)
          have fc1387 : (4096 : Int32).toInt = 4096 := rfl
          have fo1388 := own_mulc (v1291 &&& (63 : Int32)) (4096 : Int32) 4096 rfl
          have fr1389 := rng32 ((v1291 &&& (63 : Int32)) * (4096 : Int32))
          have fo1390 := c_iadd ((v1287 &&& (7 : Int32)) * (262144 : Int32)) ((v1291 &&& (63 : Int32)) * (4096 : Int32))
          have fr1391 := rng32 (((v1287 &&& (7 : Int32)) * (262144 : Int32)) + ((v1291 &&& (63 : Int32)) * (4096 : Int32)))
          have fr1392 := rng32 v1295
          have fr1393 := rng32 (f1135 (n1129 + 2))
          have fo1394 : ((f1135 (n1129 + 2)) &&& (255 : Int32)).toInt = (f1135 (n1129 + 2)).toInt % 256 := c_mask (f1135 (n1129 + 2)) (255 : Int32) 8 (by decide) (by decide)
          have fe1395 : ((f1135 (n1129 + 2)) &&& (255 : Int32)).toInt = v1295.toInt := congrArg Int32.toInt hv1295
          have fo1396 : (v1295 &&& (63 : Int32)).toInt = v1295.toInt % 64 := c_mask v1295 (63 : Int32) 6 (by decide) (by decide)
          have fc1397 : (64 : Int32).toInt = 64 := rfl
          have fo1398 := own_mulc (v1295 &&& (63 : Int32)) (64 : Int32) 64 rfl
          have fr1399 := rng32 ((v1295 &&& (63 : Int32)) * (64 : Int32))
          have fo1400 := c_iadd (((v1287 &&& (7 : Int32)) * (262144 : Int32)) + ((v1291 &&& (63 : Int32)) * (4096 : Int32))) ((v1295 &&& (63 : Int32)) * (64 : Int32))
          have fr1401 := rng32 ((((v1287 &&& (7 : Int32)) * (262144 : Int32)) + ((v1291 &&& (63 : Int32)) * (4096 : Int32))) + ((v1295 &&& (63 : Int32)) * (64 : Int32)))
          have fr1402 := rng32 v1299
          have fr1403 := rng32 (f1135 (n1129 + 3))
          have fo1404 : ((f1135 (n1129 + 3)) &&& (255 : Int32)).toInt = (f1135 (n1129 + 3)).toInt % 256 := c_mask (f1135 (n1129 + 3)) (255 : Int32) 8 (by decide) (by decide)
          have fe1405 : ((f1135 (n1129 + 3)) &&& (255 : Int32)).toInt = v1299.toInt := congrArg Int32.toInt hv1299
          have fo1406 : (v1299 &&& (63 : Int32)).toInt = v1299.toInt % 64 := c_mask v1299 (63 : Int32) 6 (by decide) (by decide)
          have fo1407 := c_iadd ((((v1287 &&& (7 : Int32)) * (262144 : Int32)) + ((v1291 &&& (63 : Int32)) * (4096 : Int32))) + ((v1295 &&& (63 : Int32)) * (64 : Int32))) (v1299 &&& (63 : Int32))
          have fr1408 := rng32 (((((v1287 &&& (7 : Int32)) * (262144 : Int32)) + ((v1291 &&& (63 : Int32)) * (4096 : Int32))) + ((v1295 &&& (63 : Int32)) * (64 : Int32))) + (v1299 &&& (63 : Int32)))
          have fr1409 := rng32 v1017
          have fc1410 : (65536 : Int32).toInt = 65536 := rfl
          have fr1411 := rng32 v2
          have fr1412 := rng32 p1
          have fo1413 : (p1 &&& (2147483647 : Int32)).toInt = p1.toInt % 2147483648 := c_mask p1 (2147483647 : Int32) 31 (by decide) (by decide)
          have fe1414 : (p1 &&& (2147483647 : Int32)).toInt = v2.toInt := congrArg Int32.toInt hv2
          have fc1415 : (1048576 : Int32).toInt = 1048576 := rfl
          have fo1416 := c_irem v2 (1048576 : Int32) 1048576 rfl
          have fr1417 := rng32 (v2 % (1048576 : Int32))
          have fo1418 := c_iadd (65536 : Int32) (v2 % (1048576 : Int32))
          have fr1419 := rng32 ((65536 : Int32) + (v2 % (1048576 : Int32)))
          have fe1420 : ((65536 : Int32) + (v2 % (1048576 : Int32))).toInt = v1017.toInt := congrArg Int32.toInt hv1017
          omega
        refine g_icmp_ne_f 595 rfl C X1354 at_592 hq1370 ?_
        refine g_iconst 596 rfl C X1354 (1 : Int32) at_595 rfl ?_
        refine g_goto 600 C X1354 at_596 (by decide) (by decide) ?_
        exact g_retN C X1354 (z' := (1 : Int32)) rfl (Or.inl rfl) at_600 eh1359 (by decide) (by decide) rfl ⟨rfl, N1360⟩
set_option maxRecDepth 65536 in
set_option maxHeartbeats 40000000 in
theorem comes_1 {Post : Tables → Env → Array Value → State → Outcome → State → Prop} (hpost : ∀ tb e args s v u, (limb_1_1.after args s (.returned v) u = true ∧ limb_1_2.after args s (.returned v) u = true ∧ True) → FrameEnd s (.returned v) u (Jvm.fieldLocs frame_1_writes args s ++ Jvm.arrayLocs frame_1_arrays args s ++ Jvm.staticLocs frame_1_statics s) 16 128 → Post tb e args s (.returned v) u) :
    ArmFor flags0 classFile x code maxLocals ret World_1 tables_1 room_1 Calls_1 rest_1 Pre_1 Post := by
  intro l hfl _ _ p e ha hc hk s m args below hf hA hF happ hP
  obtain ⟨hcalls, hrest, hpre⟩ := hP
  obtain ⟨-, -, -, hnamed, -, -, -, hat⟩ := (Spec.applies_iff hf).mp happ
  obtain ⟨hg, hn⟩ := and_e (Cond.before_iff.mp (show (Jvm.Cond.and given_1 narrow_1).before args s = true from hpre))
  obtain ⟨g1, g2⟩ := and_e hg
  obtain ⟨g3, g4⟩ := and_e g2
  obtain ⟨g5, g6⟩ := and_e g4
  obtain ⟨g7, g8⟩ := and_e g6
  obtain ⟨w0, w1, w2, w3, rfl⟩ : ∃ w0 w1 w2 w3 : Value, args = #[w0, w1, w2, w3] := by
    have hs : args.size = 4 := by simpa [Cond.value, given_1] using g1
    obtain ⟨L⟩ := args
    match L, hs with
    | [w0, w1, w2, w3], _ => exact ⟨w0, w1, w2, w3, rfl⟩
  have hw := fun d (hd : d ∈ tables_1) => atoms_spec (ws := Jvm.Cond.code x code maxLocals ret :: tables_1) hat d (List.mem_cons_of_mem _ hd)
  obtain ⟨i0, ei0⟩ := is_v g3
  obtain rfl : w0 = (.int i0) := Option.some.inj ei0
  obtain ⟨i1, ei1⟩ := is_v g5
  obtain rfl : w1 = (.int i1) := Option.some.inj ei1
  obtain ⟨i2, ei2⟩ := is_v g7
  obtain rfl : w2 = (.int i2) := Option.some.inj ei2
  obtain ⟨i3, ei3⟩ := is_v g8
  obtain rfl : w3 = (.int i3) := Option.some.inj ei3
  obtain ⟨n, o, h1, h2, h3, _, L, rfl, ⟨rfl, N⟩, hq⟩ := rm0 l s _ hw tables_1 i0 i1 i2 i3 s.heap s.heap.size (Nat.le_refl _) p e ha hc hk s m _ below hf ((Spec.applies_iff_loose hf).mp happ).1 ⟨rfl, State.Warmed39.refl s, rfl⟩ trivial
  refine ⟨n, _, h1, h2, h3, hpost _ _ _ _ _ _ ⟨Cond.after_iff.mpr rfl, Cond.after_iff.mpr (eq_i res_at (Term.int_eval (1)) rfl), trivial⟩ ⟨hq.1, hq.2.1, (hq.2.2.sift fun y hy => Or.inr (N y hy)).mono (by decide) (by decide)⟩⟩
theorem main_1_1 : Claimed_1_1 := comes_1 fun _ _ _ _ _ _ h hF => ⟨h.1, hF⟩
theorem main_1_2 : Claimed_1_2 := comes_1 fun _ _ _ _ _ _ h hF => ⟨h.2.1, hF⟩
end Jvm.Pilot.@@N@@
namespace Jvm.Pilot.@@N@@
open Jvm Jvm.ClassFile Sem Op Lib Jvm.Free Jvm.Stand Jvm.Pilot.@@N@@.Jvm.D
/-! MADE BY PROGRAM (witnessworld.py) out of the Statement's table words and the real class files: 9 classes; the members and pool entries that the words name. The judged class is class 1, her method 1. -/
namespace start1
open Jvm.ClassFile
def u (s : String) : CpInfo := .utf8 (stringToUtf16 s)
/-- a pool by its gaps: so many unusable entries, then the entry; so many at the end -/
def gap : Nat → List CpInfo → List CpInfo
  | 0, r => r
  | n + 1, r => .unusable :: gap n r
def poolList (es : List (Nat × CpInfo)) (last : Nat) : List CpInfo := es.foldr (fun e r => gap e.1 (e.2 :: r)) (gap last [])
def pool (es : List (Nat × CpInfo)) (last : Nat) : Array CpInfo := ⟨poolList es last⟩
def fileOf (pool : Array CpInfo) (this : Nat) (attrs : Array Attribute := #[]) (ms : Array MethodInfo := #[]) (fl : Nat := 33) (sup : Nat := 0) (ifs : Array Nat := #[]) (fds : Array FieldInfo := #[]) : ClassFile where
  minorVersion := 0
  majorVersion := 65
  constantPool := pool
  accessFlags := fl
  thisClass := this
  superClass := sup
  interfaces := ifs
  fields := fds
  methods := ms
  attributes := attrs
def plain (name : String) (sup : Option ClassId) : Class where
  name := name
  kind := .ordinary
  loader := none
  accessFlags := 33
  super := sup
  interfaces := #[]
  cf := none
  fields := #[]
  methods := #[]
  instanceTypes := #[]
  staticTypes := #[]
  resolved := #[]
  callSites := []
  init := .initialized
  statics := none
  mirror := none

def pool0 : Array CpInfo := pool [(5, u "<init>"), (0, u "()V"), (1, .class_ 10), (1, u "java/lang/Object")] 113

def k0m0 : Method := { name := "<init>", desc := "()V", sig := { parameters := [], returnType := none }, accessFlags := 1, code := none }
/-- java/lang/Object -/
def k0 : Class := { plain "java/lang/Object" none with
  accessFlags := 33
  interfaces := #[]
  cf := some (fileOf pool0 8 #[] #[{ accessFlags := 1, nameIndex := 5, descriptorIndex := 6, attributes := #[] }] 33 0 #[] #[])
  fields := #[]
  methods := #[k0m0]
  instanceTypes := #[]
  staticTypes := #[]
  resolved := Array.replicate 124 none
  statics := none }

def pool1 : Array CpInfo := pool [(2, .class_ 4), (1, u "java/lang/Object"), (0, u "<init>"), (0, u "()V"), (0, .integer 2147483647), (0, .integer 63488), (0, .integer 65536), (0, .integer 1048576), (0, .methodref 12 13), (0, .class_ 14), (0, .nameAndType 15 16), (0, u "com/example/fieldpare/fieldpare/Utf8"), (0, u "encode"), (0, u "(I[BI)I"), (0, .methodref 18 19), (0, .class_ 20), (0, .nameAndType 21 22), (0, u "com/example/fieldpare/fieldpare/Utf8EncodePinLaw"), (0, u "kept"), (0, u "([BIIIB)Z"), (0, .methodref 18 24), (0, .nameAndType 25 26), (0, u "cont"), (0, u "(I)Z"), (0, .integer 262144), (2, u "law"), (0, u "(IIII)Z")] 5

def k1m0 : Method := { name := "<init>", desc := "()V", sig := { parameters := [], returnType := none }, accessFlags := 1, code := none }
def k1c1 : Code := { maxStack := 5, maxLocals := 17, code := code, exceptionTable := #[], attributes := #[] }
def k1m1 : Method := { name := "law", desc := "(IIII)Z", sig := { parameters := [.int, .int, .int, .int], returnType := some .boolean }, accessFlags := 9, code := some k1c1 }
def k1c2 : Code := { maxStack := 2, maxLocals := 1, code := method_3_code, exceptionTable := #[], attributes := #[] }
def k1m2 : Method := { name := "cont", desc := "(I)Z", sig := { parameters := [.int], returnType := some .boolean }, accessFlags := 10, code := some k1c2 }
def k1c3 : Code := { maxStack := 3, maxLocals := 5, code := method_4_code, exceptionTable := #[], attributes := #[] }
def k1m3 : Method := { name := "kept", desc := "([BIIIB)Z", sig := { parameters := [(.array .byte), .int, .int, .int, .byte], returnType := some .boolean }, accessFlags := 10, code := some k1c3 }
/-- com/example/fieldpare/fieldpare/Utf8EncodePinLaw -/
def k1 : Class := { plain "com/example/fieldpare/fieldpare/Utf8EncodePinLaw" (some 0) with
  accessFlags := 49
  interfaces := #[]
  cf := some (fileOf pool1 18 #[] #[{ accessFlags := 1, nameIndex := 5, descriptorIndex := 6, attributes := #[] }, { accessFlags := 9, nameIndex := 30, descriptorIndex := 31, attributes := #[] }, { accessFlags := 10, nameIndex := 25, descriptorIndex := 26, attributes := #[] }, { accessFlags := 10, nameIndex := 21, descriptorIndex := 22, attributes := #[] }] 49 2 #[] #[])
  fields := #[]
  methods := #[k1m0, k1m1, k1m2, k1m3]
  instanceTypes := #[]
  staticTypes := #[]
  resolved := Array.replicate 37 none
  statics := none }

def pool2 : Array CpInfo := pool [(2, .class_ 4), (1, u "java/lang/Object"), (0, u "<init>"), (0, u "()V"), (0, .integer 65536), (17, .class_ 27), (1, u "com/example/fieldpare/fieldpare/Utf8"), (0, u "encode"), (0, u "(I[BI)I"), (49, u "MAX_CHARACTER_LENGTH"), (0, u "I")] 17

def k2m0 : Method := { name := "<init>", desc := "()V", sig := { parameters := [], returnType := none }, accessFlags := 2, code := none }
def k2c1 : Code := { maxStack := 5, maxLocals := 3, code := prog_60_method_2_code, exceptionTable := #[], attributes := #[] }
def k2m1 : Method := { name := "encode", desc := "(I[BI)I", sig := { parameters := [.int, (.array .byte), .int], returnType := some .int }, accessFlags := 8, code := some k2c1 }
/-- com/example/fieldpare/fieldpare/Utf8 -/
def k2 : Class := { plain "com/example/fieldpare/fieldpare/Utf8" (some 0) with
  accessFlags := 48
  interfaces := #[]
  cf := some (fileOf pool2 25 #[] #[{ accessFlags := 2, nameIndex := 5, descriptorIndex := 6, attributes := #[] }, { accessFlags := 8, nameIndex := 28, descriptorIndex := 29, attributes := #[] }] 48 2 #[] #[{ accessFlags := 24, nameIndex := 79, descriptorIndex := 80, attributes := #[] }])
  fields := #[{ name := "MAX_CHARACTER_LENGTH", type := .int, accessFlags := 24, slot := 0, constantValue := 0 }]
  methods := #[k2m0, k2m1]
  instanceTypes := #[]
  staticTypes := #[.int]
  resolved := Array.replicate 98 none
  statics := none }

def pool3 : Array CpInfo := pool [(1, u "java/lang/Cloneable"), (0, .class_ 1), (0, u "java/lang/Object"), (0, .class_ 3)] 3

/-- java/lang/Cloneable -/
def k3 : Class := { plain "java/lang/Cloneable" (some 0) with
  accessFlags := 1537
  interfaces := #[]
  cf := some (fileOf pool3 2 #[] #[] 1537 4 #[] #[])
  fields := #[]
  methods := #[]
  instanceTypes := #[]
  staticTypes := #[]
  resolved := Array.replicate 8 none
  statics := none }

def pool4 : Array CpInfo := pool [(1, u "java/io/Serializable"), (0, .class_ 1), (0, u "java/lang/Object"), (0, .class_ 3)] 3

/-- java/io/Serializable -/
def k4 : Class := { plain "java/io/Serializable" (some 0) with
  accessFlags := 1537
  interfaces := #[]
  cf := some (fileOf pool4 2 #[] #[] 1537 4 #[] #[])
  fields := #[]
  methods := #[]
  instanceTypes := #[]
  staticTypes := #[]
  resolved := Array.replicate 8 none
  statics := none }

/-- the primitive byte -/
def k5 : Class := { plain "byte" none with kind := .primitive 'B', accessFlags := 0x411 }
/-- [B -/
def k6 : Class := { plain "[B" (some 0) with kind := .array 5 .byte, interfaces := #[3, 4], accessFlags := 1041 }

/-- the primitive int -/
def k7 : Class := { plain "int" none with kind := .primitive 'I', accessFlags := 0x411 }
/-- [I -/
def k8 : Class := { plain "[I" (some 0) with kind := .array 7 .int, interfaces := #[3, 4], accessFlags := 1041 }

def heap : Heap := #[]
def classes : Array Class := #[k0, k1, k2, k3, k4, k5, k6, k7, k8]
def interned : List (Array UInt16 × Addr) := []
def slotsUsed : Nat := 0
def theMethod : MethodId := ⟨1, 1⟩
def args0 : Array Value := #[.int 5, .int 7, .int 9, .int 2]
def aboutOver (below : List Frame) : State where
  vm := { classes := classes, interned := interned.toArray }
  heap := heap
  slotsUsed := slotsUsed
  threads := #[{ frames := .invoking theMethod args0 :: below }]
def below0 : List Frame := [.native { method := ⟨0, 0⟩, args := #[] }]
def about1 : State := aboutOver below0
def p0 : Program := .bare "" "" ""
def e0 : Env := launch0.env 0 0 0
theorem w_frames : about1.frames = Frame.invoking theMethod args0 :: below0 := rfl
set_option maxRecDepth 65536 in
theorem w_args : argsFit about1.vm theMethod args0 = true := by decide +kernel
set_option maxRecDepth 65536 in
theorem w_heap : heapFits about1 = true := by decide +kernel
set_option maxRecDepth 65536 in
theorem w_runnable : about1.curStatus? = some .runnable := by decide +kernel
set_option maxRecDepth 65536 in
theorem w_alone : about1.alone = true := by decide +kernel
set_option maxRecDepth 65536 in
theorem w_named : about1.methodNamed? x = some theMethod := by decide +kernel
set_option maxRecDepth 65536 in
theorem w_hears : about1.hears theMethod below0 = true := by decide +kernel
set_option maxRecDepth 65536 in
theorem w_ripe : about1.ripe theMethod args0 below0 = true := by decide +kernel
theorem w_running : about1.status = .running := rfl
set_option maxRecDepth 65536 in
theorem w_room : about1.hasRoom e0.platform room_1 = true :=
  launch0.hasRoom_least _ room_1 (by decide +kernel) (by decide +kernel) (by decide +kernel) (by decide +kernel) (by decide +kernel) (by decide +kernel)
theorem allAtoms_all (ts : List Jvm.Cond) (a : Array Jvm.Value) (st : Jvm.State) : (allAtoms ts).before a st = ts.all (fun c => c.before a st) := by
  induction ts with
  | nil => rfl
  | cons c t ih =>
    show (Jvm.Cond.and c (allAtoms t)).before a st = _
    rw [Jvm.Cond.before_and, ih, List.all_cons]
def words1 : List Jvm.Cond := Jvm.Cond.code x code maxLocals ret :: tables_1
/-- a 'code' word, met by the world's own term for the bytes: nothing is compared byte by byte -/
theorem code_word {y : MethodName} {bytes : ByteArray} {mx : Nat} {rt : Option FieldType} {a : Array Value} {s : State} {m : MethodId} {meth : Method} {c : Code} (h1 : s.methodNamed? y = some m) (h2 : s.vm.method? m = some meth) (h3 : meth.code = some c) (h4 : c.code = bytes)
    (h5 : (c.maxLocals == mx && c.exceptionTable.isEmpty && decide (c.maxStack ≤ mostOperands) && decide (meth.sig.returnType = rt) && !meth.locks && decide (parseMethodDescriptor y.desc = some meth.sig)) = true) : (Jvm.Cond.code y bytes mx rt).before a s = true := by
  simp only [Bool.and_eq_true, beq_iff_eq, Bool.not_eq_true', decide_eq_true_eq] at h5
  obtain ⟨⟨⟨⟨⟨g1, g2⟩, g3⟩, g4⟩, g5⟩, g6⟩ := h5
  simp [Cond.before, Cond.holds, Cond.value, h1, h2, h3, h4, g1, g2, g3, g4, g5, g6]
def isCode : Jvm.Cond → Bool
  | .code _ _ _ _ => true
  | _ => false
theorem all_split {L : List Jvm.Cond} {P : Jvm.Cond → Bool} (h1 : L.all (fun c => isCode c || P c) = true) (h2 : ∀ c ∈ L.filter isCode, P c = true) : L.all P = true := by
  refine List.all_eq_true.mpr fun c hc => ?_
  have h := List.all_eq_true.mp h1 c hc
  rcases Bool.eq_false_or_eq_true (isCode c) with hi | hi
  · exact h2 c (List.mem_filter.mpr ⟨hc, hi⟩)
  · simpa [hi] using h
set_option maxRecDepth 65536 in
theorem w_c0 : (Jvm.Cond.code x code maxLocals ret).before args0 about1 = true := code_word (m := ⟨1, 1⟩) (meth := k1m1) (c := k1c1) (by decide +kernel) rfl rfl rfl (by decide +kernel)
set_option maxRecDepth 65536 in
theorem w_c1 : (Jvm.Cond.code ({ cls := "com/example/fieldpare/fieldpare/Utf8", name := "encode", desc := "(I[BI)I" } : Jvm.MethodName) prog_60_method_2_code (3 : Nat) (Option.some Jvm.ClassFile.FieldType.int)).before args0 about1 = true := code_word (m := ⟨2, 1⟩) (meth := k2m1) (c := k2c1) (by decide +kernel) rfl rfl rfl (by decide +kernel)
set_option maxRecDepth 65536 in
theorem w_c2 : (Jvm.Cond.code ({ cls := "com/example/fieldpare/fieldpare/Utf8EncodePinLaw", name := "kept", desc := "([BIIIB)Z" } : Jvm.MethodName) method_4_code (5 : Nat) (Option.some Jvm.ClassFile.FieldType.boolean)).before args0 about1 = true := code_word (m := ⟨1, 3⟩) (meth := k1m3) (c := k1c3) (by decide +kernel) rfl rfl rfl (by decide +kernel)
set_option maxRecDepth 65536 in
theorem w_c3 : (Jvm.Cond.code ({ cls := "com/example/fieldpare/fieldpare/Utf8EncodePinLaw", name := "cont", desc := "(I)Z" } : Jvm.MethodName) method_3_code (1 : Nat) (Option.some Jvm.ClassFile.FieldType.boolean)).before args0 about1 = true := code_word (m := ⟨1, 2⟩) (meth := k1m2) (c := k1c2) (by decide +kernel) rfl rfl rfl (by decide +kernel)
def codes1 : List Jvm.Cond := [Jvm.Cond.code x code maxLocals ret, Jvm.Cond.code ({ cls := "com/example/fieldpare/fieldpare/Utf8", name := "encode", desc := "(I[BI)I" } : Jvm.MethodName) prog_60_method_2_code (3 : Nat) (Option.some Jvm.ClassFile.FieldType.int), Jvm.Cond.code ({ cls := "com/example/fieldpare/fieldpare/Utf8EncodePinLaw", name := "kept", desc := "([BIIIB)Z" } : Jvm.MethodName) method_4_code (5 : Nat) (Option.some Jvm.ClassFile.FieldType.boolean), Jvm.Cond.code ({ cls := "com/example/fieldpare/fieldpare/Utf8EncodePinLaw", name := "cont", desc := "(I)Z" } : Jvm.MethodName) method_3_code (1 : Nat) (Option.some Jvm.ClassFile.FieldType.boolean)]
set_option maxRecDepth 65536 in
theorem codes_eq : words1.filter isCode = codes1 := rfl
theorem w_codes : ∀ c ∈ words1.filter isCode, c.before args0 about1 = true := by
  rw [codes_eq]
  intro c hc
  simp only [codes1, List.mem_cons, List.not_mem_nil, or_false] at hc
  rcases hc with rfl | rfl | rfl | rfl
  · exact w_c0
  · exact w_c1
  · exact w_c2
  · exact w_c3
set_option maxRecDepth 65536 in
theorem w_t1 : words1.all (fun c => isCode c || c.before args0 about1) = true := by decide +kernel
theorem w_tables : (allAtoms (Jvm.Cond.code x code maxLocals ret :: tables_1)).before args0 about1 = true := by
  rw [allAtoms_all]
  show words1.all (fun c => c.before args0 about1) = true
  refine all_split ?_ w_codes
  rw [w_t1]
set_option maxRecDepth 65536 in
theorem w_case : (Jvm.Cond.and given_1 narrow_1).before args0 about1 = true := by decide +kernel
theorem w_applies : (headSpec (Jvm.Cond.code x code maxLocals ret :: tables_1) room_1).applies x e0.platform about1 = true :=
  (Spec.applies_iff w_frames).mpr ⟨w_running, w_runnable, w_alone, w_named, w_hears, w_ripe, w_room, w_tables⟩
theorem atStart : AtStart classFile x code maxLocals ret World_1 tables_1 room_1 Calls_1 rest_1 Pre_1 launch0 p0 e0 about1 theMethod args0 below0 :=
  ⟨lists_1, trivial, launch0.admits_env _ _ _, launch0.least_env, fairChoices_fair.cas, fairChoices_fair.clock, w_frames, w_args, w_heap, w_applies, trivial, trivial, w_case⟩
end start1
theorem witness_1 : WitnessClaimed_1 := ⟨start1.p0, start1.e0, start1.about1, start1.theMethod, start1.args0, start1.below0, start1.atStart⟩
end Jvm.Pilot.@@N@@
