import JvmDerived
import JvmDerived.Pilot.@@N@@Statement
import JvmDerived.Pilot.@@N@@Code
set_option linter.unusedVariables false
set_option linter.unusedSimpArgs false
namespace Jvm.Pilot.@@N@@
open Jvm Jvm.ClassFile Sem Op Lib Jvm.Free Jvm.Stand Jvm.LawKit Jvm.RoadKit Bundle Jvm.Pilot.@@N@@.Jvm.D
section Own
set_option maxHeartbeats 4000000
variable {p : Program} {l : Launch} {e : Env} {R : Room} {s : State} {m : MethodId} {args : Array Value} {below : List Frame} {meth : Method} {c : Code} {T : State} {locs : List Loc} {cells slots : Nat} {Z : State} {a0 : Array Value} {h : Heap} {own nm : String} {bytes : ByteArray} {ml : Nat} {rt : Option FieldType} {Q : Option Value → Heap → List Loc → Prop} {CC SS : Nat} {E : Outcome → State → Prop} {pc : Nat} {Ls : Array Slot} {St : List Value}
def Ctx (p : Program) (s : State) (m : MethodId) (meth : Method) (c : Code) (Z : State) (own nm : String) (bytes : ByteArray) (ml : Nat) (rt : Option FieldType) : Prop :=
  p.tables.exec = Jvm.exec ∧ Z.Warmed39 s.vm ∧ c.code = bytes ∧ c.maxLocals = ml ∧ s.vm.findClass own = some m.cls ∧ meth.locks = false ∧ meth.sig.returnType = rt ∧ meth.name = nm
theorem Ctx.c_x (C : Ctx p s m meth c Z own nm bytes ml rt) : p.tables.exec = Jvm.exec := C.1
theorem Ctx.c_z (C : Ctx p s m meth c Z own nm bytes ml rt) : Z.Warmed39 s.vm := C.2.1
theorem Ctx.c_by (C : Ctx p s m meth c Z own nm bytes ml rt) : c.code = bytes := C.2.2.1
theorem Ctx.c_ml (C : Ctx p s m meth c Z own nm bytes ml rt) : c.maxLocals = ml := C.2.2.2.1
theorem Ctx.c_own (C : Ctx p s m meth c Z own nm bytes ml rt) : s.vm.findClass own = some m.cls := C.2.2.2.2.1
theorem Ctx.c_lk (C : Ctx p s m meth c Z own nm bytes ml rt) : meth.locks = false := C.2.2.2.2.2.1
theorem Ctx.c_rt (C : Ctx p s m meth c Z own nm bytes ml rt) : meth.sig.returnType = rt := C.2.2.2.2.2.2.1
theorem Ctx.c_nm (C : Ctx p s m meth c Z own nm bytes ml rt) : meth.name = nm := C.2.2.2.2.2.2.2
def EndN (s : State) (Q : Option Value → Heap → List Loc → Prop) (CC SS : Nat) (o : Outcome) (t : State) : Prop := ∃ v L, o = .returned v ∧ Q v t.heap L ∧ FrameEnd s o t L CC SS
def Goes (p : Program) (e : Env) (below : List Frame) (E : Outcome → State → Prop) (T : State) (m : MethodId) (pc : Nat) (Ls : Array Slot) (St : List Value) : Prop :=
  ∃ s₂ o, Steps p.tables e below (T.setTop (mkF m pc Ls St)) s₂ ∧ s₂.status = .running ∧ Ended s₂ below o ∧ E o s₂
theorem Goes.back {T' : State} {q : Nat} {Ls' : Array Slot} {St' : List Value} (k : Goes p e below E T' m q Ls' St') (f : ∀ t, Steps p.tables e below (T'.setTop (mkF m q Ls' St')) t → Steps p.tables e below (T.setTop (mkF m pc Ls St)) t) : Goes p e below E T m pc Ls St := by
  obtain ⟨s2, o, h1, h2⟩ := k
  exact ⟨s2, o, f _ h1, h2⟩
theorem Goes.enter {g : JFrame} (hg : g = mkF m 0 Ls []) (k : Goes p e below (EndN s Q CC SS) T m 0 Ls []) : ∃ s₂ o, Steps p.tables e below (T.setTop g) s₂ ∧ s₂.status = .running ∧ Ended s₂ below o ∧ ∃ v L, o = .returned v ∧ Q v s₂.heap L ∧ FrameEnd s o s₂ L CC SS := by
  subst hg
  exact k
theorem Ctx.of {x : MethodName} {S : Spec} {s₁ : State} (Bd : BodyLoose p l x S bytes ml rt e s m args below meth c s₁) (hml : c.maxLocals = ml) (hZ : Z.Warmed39 s.vm) : Ctx p s m meth c Z x.cls x.name bytes ml rt :=
  ⟨Bd.exec, hZ, Bd.bytes, hml, findClass_of_methodNamed Bd.named, Bd.notSynchronized, Bd.returns, (name_of_methodNamed Bd.named Bd.method).1⟩
theorem g_iadd (q : Nat) (hq : pc + 1 = q) (C : Ctx p s m meth c Z own nm bytes ml rt) (X : Stand p l e R s m args below meth c T locs cells slots) {x y : Int32} (hd : decode bytes pc = .ok (.iadd, 1)) (k : Goes p e below E T m q Ls (.int (x + y) :: St)) : Goes p e below E T m pc Ls (.int y :: .int x :: St) := by
  subst hq
  exact k.back fun t kt => XS.iadd (g := mkF m pc Ls (.int y :: .int x :: St)) X.here C.c_x rfl (hb C.c_by hd) rfl kt
theorem g_iand (q : Nat) (hq : pc + 1 = q) (C : Ctx p s m meth c Z own nm bytes ml rt) (X : Stand p l e R s m args below meth c T locs cells slots) {x y : Int32} (hd : decode bytes pc = .ok (.iand, 1)) (k : Goes p e below E T m q Ls (.int (x &&& y) :: St)) : Goes p e below E T m pc Ls (.int y :: .int x :: St) := by
  subst hq
  exact k.back fun t kt => XS.iand (g := mkF m pc Ls (.int y :: .int x :: St)) X.here C.c_x rfl (hb C.c_by hd) rfl kt
theorem g_ior (q : Nat) (hq : pc + 1 = q) (C : Ctx p s m meth c Z own nm bytes ml rt) (X : Stand p l e R s m args below meth c T locs cells slots) {x y : Int32} (hd : decode bytes pc = .ok (.ior, 1)) (k : Goes p e below E T m q Ls (.int (x ||| y) :: St)) : Goes p e below E T m pc Ls (.int y :: .int x :: St) := by
  subst hq
  exact k.back fun t kt => XS.ior (g := mkF m pc Ls (.int y :: .int x :: St)) X.here C.c_x rfl (hb C.c_by hd) rfl kt
theorem g_irem (q : Nat) (hq : pc + 1 = q) (C : Ctx p s m meth c Z own nm bytes ml rt) (X : Stand p l e R s m args below meth c T locs cells slots) {x y : Int32} (hd : decode bytes pc = .ok (.irem, 1)) (hy : y ≠ 0) (k : Goes p e below E T m q Ls (.int (x % y) :: St)) : Goes p e below E T m pc Ls (.int y :: .int x :: St) := by
  subst hq
  exact k.back fun t kt => XS.irem (g := mkF m pc Ls (.int y :: .int x :: St)) X.here C.c_x rfl (hb C.c_by hd) rfl hy (by rw [irem_eq_mod]; exact kt)
theorem g_ishr (q : Nat) (hq : pc + 1 = q) (C : Ctx p s m meth c Z own nm bytes ml rt) (X : Stand p l e R s m args below meth c T locs cells slots) {x y : Int32} (hd : decode bytes pc = .ok (.ishr, 1)) (k : Goes p e below E T m q Ls (.int (x >>> (y &&& 31)) :: St)) : Goes p e below E T m pc Ls (.int y :: .int x :: St) := by
  subst hq
  exact k.back fun t kt => XS.ishr (g := mkF m pc Ls (.int y :: .int x :: St)) X.here C.c_x rfl (hb C.c_by hd) rfl kt
theorem g_iushr (q : Nat) (hq : pc + 1 = q) (C : Ctx p s m meth c Z own nm bytes ml rt) (X : Stand p l e R s m args below meth c T locs cells slots) {x y : Int32} (hd : decode bytes pc = .ok (.iushr, 1)) (k : Goes p e below E T m q Ls (.int ((x.toUInt32 >>> (y &&& 31).toUInt32).toInt32) :: St)) : Goes p e below E T m pc Ls (.int y :: .int x :: St) := by
  subst hq
  exact k.back fun t kt => XS.iushr (g := mkF m pc Ls (.int y :: .int x :: St)) X.here C.c_x rfl (hb C.c_by hd) rfl kt
theorem g_i2b (q : Nat) (hq : pc + 1 = q) (C : Ctx p s m meth c Z own nm bytes ml rt) (X : Stand p l e R s m args below meth c T locs cells slots) {x : Int32} (hd : decode bytes pc = .ok (.i2b, 1)) (k : Goes p e below E T m q Ls (.int (x.toInt8.toInt32) :: St)) : Goes p e below E T m pc Ls (.int x :: St) := by
  subst hq
  exact k.back fun t kt => XS.i2b (g := mkF m pc Ls (.int x :: St)) X.here C.c_x rfl (hb C.c_by hd) rfl kt
theorem g_iconst (q : Nat) (hq : pc + 1 = q) (C : Ctx p s m meth c Z own nm bytes ml rt) (X : Stand p l e R s m args below meth c T locs cells slots) {i : Int} (v : Int32) (hd : decode bytes pc = .ok (.iconst i, 1)) (hv : Int32.ofInt i = v) (k : Goes p e below E T m q Ls (.int v :: St)) : Goes p e below E T m pc Ls St := by
  subst hq
  exact k.back fun t kt => XS.iconst (g := mkF m pc Ls St) X.here C.c_x rfl (hb C.c_by hd) (by subst hv; exact kt)
theorem g_bipush (q : Nat) (hq : pc + 2 = q) (C : Ctx p s m meth c Z own nm bytes ml rt) (X : Stand p l e R s m args below meth c T locs cells slots) {i : Int} (v : Int32) (hd : decode bytes pc = .ok (.bipush i, 2)) (hv : (Int8.ofInt i).toInt32 = v) (k : Goes p e below E T m q Ls (.int v :: St)) : Goes p e below E T m pc Ls St := by
  subst hq
  exact k.back fun t kt => XS.bipush (g := mkF m pc Ls St) X.here C.c_x rfl (hb C.c_by hd) (by subst hv; exact kt)
theorem g_sipush (q : Nat) (hq : pc + 3 = q) (C : Ctx p s m meth c Z own nm bytes ml rt) (X : Stand p l e R s m args below meth c T locs cells slots) {i : Int} (v : Int32) (hd : decode bytes pc = .ok (.sipush i, 3)) (hv : (Int16.ofInt i).toInt32 = v) (k : Goes p e below E T m q Ls (.int v :: St)) : Goes p e below E T m pc Ls St := by
  subst hq
  exact k.back fun t kt => XS.sipush (g := mkF m pc Ls St) X.here C.c_x rfl (hb C.c_by hd) (by subst hv; exact kt)
theorem g_iloadN (q : Nat) (hq : pc + 1 = q) (C : Ctx p s m meth c Z own nm bytes ml rt) (X : Stand p l e R s m args below meth c T locs cells slots) {k0 : Fin 4} {v : Int32} (hd : decode bytes pc = .ok (.iload_n k0, 1)) (hl : Ls[k0.val]? = some (.val (.int v))) (k : Goes p e below E T m q Ls (.int v :: St)) : Goes p e below E T m pc Ls St := by
  subst hq
  exact k.back fun t kt => XS.iloadN (g := mkF m pc Ls St) X.here C.c_x rfl (hb C.c_by hd) hl kt
theorem g_iload (q : Nat) (hq : pc + 2 = q) (C : Ctx p s m meth c Z own nm bytes ml rt) (X : Stand p l e R s m args below meth c T locs cells slots) {k0 : Nat} {v : Int32} (hd : decode bytes pc = .ok (.iload k0, 2)) (hl : Ls[k0]? = some (.val (.int v))) (k : Goes p e below E T m q Ls (.int v :: St)) : Goes p e below E T m pc Ls St := by
  subst hq
  exact k.back fun t kt => XS.iload (g := mkF m pc Ls St) X.here C.c_x rfl (hb C.c_by hd) hl kt
theorem g_aloadN (q : Nat) (hq : pc + 1 = q) (C : Ctx p s m meth c Z own nm bytes ml rt) (X : Stand p l e R s m args below meth c T locs cells slots) {k0 : Fin 4} {v : Value} (hd : decode bytes pc = .ok (.aload_n k0, 1)) (hl : Ls[k0.val]? = some (.val v)) (hv : v.isRef = true) (k : Goes p e below E T m q Ls (v :: St)) : Goes p e below E T m pc Ls St := by
  subst hq
  exact k.back fun t kt => XS.aloadN (g := mkF m pc Ls St) X.here C.c_x rfl (hb C.c_by hd) hl hv kt
theorem g_aload (q : Nat) (hq : pc + 2 = q) (C : Ctx p s m meth c Z own nm bytes ml rt) (X : Stand p l e R s m args below meth c T locs cells slots) {k0 : Nat} {v : Value} (hd : decode bytes pc = .ok (.aload k0, 2)) (hl : Ls[k0]? = some (.val v)) (hv : v.isRef = true) (k : Goes p e below E T m q Ls (v :: St)) : Goes p e below E T m pc Ls St := by
  subst hq
  exact k.back fun t kt => XS.aload (g := mkF m pc Ls St) X.here C.c_x rfl (hb C.c_by hd) hl hv kt
theorem g_istoreN (q : Nat) (hq : pc + 1 = q) (C : Ctx p s m meth c Z own nm bytes ml rt) (X : Stand p l e R s m args below meth c T locs cells slots) {k0 : Fin 4} {x : Int32} (v : Int32) (hv : x = v) (Ls' : Array Slot) (hd : decode bytes pc = .ok (.istore_n k0, 1)) (hl : storeLocals Ls k0.val (.int v) = some Ls') (k : Goes p e below E T m q Ls' St) : Goes p e below E T m pc Ls (.int x :: St) := by
  subst hq
  exact k.back fun t kt => XS.istoreN (g := mkF m pc Ls (.int x :: St)) X.here C.c_x rfl (hb C.c_by hd) rfl (by subst hv; exact hl) kt
theorem g_istore (q : Nat) (hq : pc + 2 = q) (C : Ctx p s m meth c Z own nm bytes ml rt) (X : Stand p l e R s m args below meth c T locs cells slots) {k0 : Nat} {x : Int32} (v : Int32) (hv : x = v) (Ls' : Array Slot) (hd : decode bytes pc = .ok (.istore k0, 2)) (hl : storeLocals Ls k0 (.int v) = some Ls') (k : Goes p e below E T m q Ls' St) : Goes p e below E T m pc Ls (.int x :: St) := by
  subst hq
  exact k.back fun t kt => XS.istore (g := mkF m pc Ls (.int x :: St)) X.here C.c_x rfl (hb C.c_by hd) rfl (by subst hv; exact hl) kt
theorem g_astore (q : Nat) (hq : pc + 2 = q) (C : Ctx p s m meth c Z own nm bytes ml rt) (X : Stand p l e R s m args below meth c T locs cells slots) {k0 : Nat} {x : Value} (Ls' : Array Slot) (hd : decode bytes pc = .ok (.astore k0, 2)) (hv : x.isRef = true) (hl : storeLocals Ls k0 x = some Ls') (k : Goes p e below E T m q Ls' St) : Goes p e below E T m pc Ls (x :: St) := by
  subst hq
  exact k.back fun t kt => XS.astore (g := mkF m pc Ls (x :: St)) X.here C.c_x rfl (hb C.c_by hd) rfl hv hl kt
theorem g_iinc (q : Nat) (hq : pc + 3 = q) (C : Ctx p s m meth c Z own nm bytes ml rt) (X : Stand p l e R s m args below meth c T locs cells slots) {k0 : Nat} {i : Int} {x : Int32} (w v : Int32) (Ls' : Array Slot) (hd : decode bytes pc = .ok (.iinc k0 i, 3)) (hw : Int32.ofInt i = w) (hl : Ls[k0]? = some (.val (.int x))) (hv : x + w = v) (hl' : storeLocals Ls k0 (.int v) = some Ls') (k : Goes p e below E T m q Ls' St) : Goes p e below E T m pc Ls St := by
  subst hq
  exact k.back fun t kt => XS.iinc (g := mkF m pc Ls St) X.here C.c_x rfl (hb C.c_by hd) hl (by subst hw hv; exact hl') kt
theorem g_goto (q : Nat) (C : Ctx p s m meth c Z own nm bytes ml rt) (X : Stand p l e R s m args below meth c T locs cells slots) {o : Int} (hd : decode bytes pc = .ok (.goto o, 3)) (ho : 0 ≤ (pc : Int) + o) (hp : ((pc : Int) + o).toNat = q) (k : Goes p e below E T m q Ls St) : Goes p e below E T m pc Ls St :=
  k.back fun t kt => XS.goto (g := mkF m pc Ls St) X.here C.c_x rfl (pc0 := pc) (pc' := q) rfl (hb C.c_by hd) ho hp kt
theorem own_z0 : (0 : Int32).toInt = 0 := rfl
theorem g_icmp_lt_t (q : Nat) (C : Ctx p s m meth c Z own nm bytes ml rt) (X : Stand p l e R s m args below meth c T locs cells slots) {o : Int} {x y : Int32} (hd : decode bytes pc = .ok (.if_icmp .lt o, 3)) (ho : 0 ≤ (pc : Int) + o) (hp : ((pc : Int) + o).toNat = q) (h : x.toInt < y.toInt) (k : Goes p e below E T m q Ls St) : Goes p e below E T m pc Ls (.int y :: .int x :: St) :=
  k.back fun t kt => XS.icmpYes (g := mkF m pc Ls (.int y :: .int x :: St)) X.here C.c_x rfl (pc0 := pc) (pc' := q) rfl (hb C.c_by hd) rfl (tlt (Int32.lt_iff_toInt_lt.mpr h)).1 ho hp kt
theorem g_icmp_lt_f (q : Nat) (hq : pc + 3 = q) (C : Ctx p s m meth c Z own nm bytes ml rt) (X : Stand p l e R s m args below meth c T locs cells slots) {o : Int} {x y : Int32} (hd : decode bytes pc = .ok (.if_icmp .lt o, 3)) (h : ¬ x.toInt < y.toInt) (k : Goes p e below E T m q Ls St) : Goes p e below E T m pc Ls (.int y :: .int x :: St) := by
  subst hq
  exact k.back fun t kt => XS.icmpNo (g := mkF m pc Ls (.int y :: .int x :: St)) X.here C.c_x rfl (hb C.c_by hd) rfl (flt (fun r => h (Int32.lt_iff_toInt_lt.mp r))).1 kt
theorem g_icmp_ge_t (q : Nat) (C : Ctx p s m meth c Z own nm bytes ml rt) (X : Stand p l e R s m args below meth c T locs cells slots) {o : Int} {x y : Int32} (hd : decode bytes pc = .ok (.if_icmp .ge o, 3)) (ho : 0 ≤ (pc : Int) + o) (hp : ((pc : Int) + o).toNat = q) (h : ¬ x.toInt < y.toInt) (k : Goes p e below E T m q Ls St) : Goes p e below E T m pc Ls (.int y :: .int x :: St) :=
  k.back fun t kt => XS.icmpYes (g := mkF m pc Ls (.int y :: .int x :: St)) X.here C.c_x rfl (pc0 := pc) (pc' := q) rfl (hb C.c_by hd) rfl (flt (fun r => h (Int32.lt_iff_toInt_lt.mp r))).2.1 ho hp kt
theorem g_icmp_ge_f (q : Nat) (hq : pc + 3 = q) (C : Ctx p s m meth c Z own nm bytes ml rt) (X : Stand p l e R s m args below meth c T locs cells slots) {o : Int} {x y : Int32} (hd : decode bytes pc = .ok (.if_icmp .ge o, 3)) (h : x.toInt < y.toInt) (k : Goes p e below E T m q Ls St) : Goes p e below E T m pc Ls (.int y :: .int x :: St) := by
  subst hq
  exact k.back fun t kt => XS.icmpNo (g := mkF m pc Ls (.int y :: .int x :: St)) X.here C.c_x rfl (hb C.c_by hd) rfl (tlt (Int32.lt_iff_toInt_lt.mpr h)).2.1 kt
theorem g_icmp_gt_t (q : Nat) (C : Ctx p s m meth c Z own nm bytes ml rt) (X : Stand p l e R s m args below meth c T locs cells slots) {o : Int} {x y : Int32} (hd : decode bytes pc = .ok (.if_icmp .gt o, 3)) (ho : 0 ≤ (pc : Int) + o) (hp : ((pc : Int) + o).toNat = q) (h : y.toInt < x.toInt) (k : Goes p e below E T m q Ls St) : Goes p e below E T m pc Ls (.int y :: .int x :: St) :=
  k.back fun t kt => XS.icmpYes (g := mkF m pc Ls (.int y :: .int x :: St)) X.here C.c_x rfl (pc0 := pc) (pc' := q) rfl (hb C.c_by hd) rfl (tlt (Int32.lt_iff_toInt_lt.mpr h)).2.2.1 ho hp kt
theorem g_icmp_gt_f (q : Nat) (hq : pc + 3 = q) (C : Ctx p s m meth c Z own nm bytes ml rt) (X : Stand p l e R s m args below meth c T locs cells slots) {o : Int} {x y : Int32} (hd : decode bytes pc = .ok (.if_icmp .gt o, 3)) (h : ¬ y.toInt < x.toInt) (k : Goes p e below E T m q Ls St) : Goes p e below E T m pc Ls (.int y :: .int x :: St) := by
  subst hq
  exact k.back fun t kt => XS.icmpNo (g := mkF m pc Ls (.int y :: .int x :: St)) X.here C.c_x rfl (hb C.c_by hd) rfl (flt (fun r => h (Int32.lt_iff_toInt_lt.mp r))).2.2.1 kt
theorem g_if_eq_f (q : Nat) (hq : pc + 3 = q) (C : Ctx p s m meth c Z own nm bytes ml rt) (X : Stand p l e R s m args below meth c T locs cells slots) {o : Int} {x : Int32} (hd : decode bytes pc = .ok (.ifCond .eq o, 3)) (h : ¬ x.toInt = 0) (k : Goes p e below E T m q Ls St) : Goes p e below E T m pc Ls (.int x :: St) := by
  subst hq
  exact k.back fun t kt => XS.ifNo (g := mkF m pc Ls (.int x :: St)) X.here C.c_x rfl (hb C.c_by hd) rfl ((if0 _ _).trans (feq (fun r => h (congrArg Int32.toInt r))).1) kt
theorem g_icmp_ne_t (q : Nat) (C : Ctx p s m meth c Z own nm bytes ml rt) (X : Stand p l e R s m args below meth c T locs cells slots) {o : Int} {x y : Int32} (hd : decode bytes pc = .ok (.if_icmp .ne o, 3)) (ho : 0 ≤ (pc : Int) + o) (hp : ((pc : Int) + o).toNat = q) (h : ¬ x.toInt = y.toInt) (k : Goes p e below E T m q Ls St) : Goes p e below E T m pc Ls (.int y :: .int x :: St) :=
  k.back fun t kt => XS.icmpYes (g := mkF m pc Ls (.int y :: .int x :: St)) X.here C.c_x rfl (pc0 := pc) (pc' := q) rfl (hb C.c_by hd) rfl (feq (fun r => h (congrArg Int32.toInt r))).2 ho hp kt
theorem g_if_ne_t (q : Nat) (C : Ctx p s m meth c Z own nm bytes ml rt) (X : Stand p l e R s m args below meth c T locs cells slots) {o : Int} {x : Int32} (hd : decode bytes pc = .ok (.ifCond .ne o, 3)) (ho : 0 ≤ (pc : Int) + o) (hp : ((pc : Int) + o).toNat = q) (h : ¬ x.toInt = 0) (k : Goes p e below E T m q Ls St) : Goes p e below E T m pc Ls (.int x :: St) :=
  k.back fun t kt => XS.ifYes (g := mkF m pc Ls (.int x :: St)) X.here C.c_x rfl (pc0 := pc) (pc' := q) rfl (hb C.c_by hd) rfl ((if0 _ _).trans (feq (fun r => h (congrArg Int32.toInt r))).2) ho hp kt
theorem g_icmp_ne_f (q : Nat) (hq : pc + 3 = q) (C : Ctx p s m meth c Z own nm bytes ml rt) (X : Stand p l e R s m args below meth c T locs cells slots) {o : Int} {x y : Int32} (hd : decode bytes pc = .ok (.if_icmp .ne o, 3)) (h : x.toInt = y.toInt) (k : Goes p e below E T m q Ls St) : Goes p e below E T m pc Ls (.int y :: .int x :: St) := by
  subst hq
  exact k.back fun t kt => XS.icmpNo (g := mkF m pc Ls (.int y :: .int x :: St)) X.here C.c_x rfl (hb C.c_by hd) rfl (teq (Int32.toInt_inj.mp h)).2 kt
theorem g_if_ne_f (q : Nat) (hq : pc + 3 = q) (C : Ctx p s m meth c Z own nm bytes ml rt) (X : Stand p l e R s m args below meth c T locs cells slots) {o : Int} {x : Int32} (hd : decode bytes pc = .ok (.ifCond .ne o, 3)) (h : x.toInt = 0) (k : Goes p e below E T m q Ls St) : Goes p e below E T m pc Ls (.int x :: St) := by
  subst hq
  exact k.back fun t kt => XS.ifNo (g := mkF m pc Ls (.int x :: St)) X.here C.c_x rfl (hb C.c_by hd) rfl ((if0 _ _).trans (teq (Int32.toInt_inj.mp h)).2) kt
theorem g_ldc (q : Nat) (hq : pc + 2 = q) (C : Ctx p s m meth c Z own nm bytes ml rt) (X : Stand p l e R s m args below meth c T locs cells slots) {i : Nat} {v : Int32} (w : (Cond.constant own i v).before a0 Z = true) (hd : decode bytes pc = .ok (.ldc i, 2)) (k : Goes p e below E T m q Ls (.int v :: St)) : Goes p e below E T m pc Ls St := by
  subst hq
  exact k.back fun t kt => X.ldcInt C.c_x C.c_own (mvT C.c_z w) (g := mkF m pc Ls St) rfl (hb C.c_by hd) _ kt
theorem g_retW (C : Ctx p s m meth c Z own nm bytes ml rt) (X : Stand p l e R s m args below meth c T locs cells slots) {w : Value} {t : FieldType} {i : Instr} (hrt : rt = some t) (hn : narrow t w = w)
    (hi : (i = .ireturn ∧ (t = .int ∨ t = .boolean ∨ t = .byte ∨ t = .char ∨ t = .short) ∧ ∃ z, w = .int z) ∨ (i = .lreturn ∧ t = .long ∧ ∃ z, w = .long z) ∨ (i = .dreturn ∧ t = .double ∧ ∃ z, w = .double z) ∨ (i = .freturn ∧ t = .float ∧ ∃ z, w = .float z) ∨ (i = .areturn ∧ t.isReference = true ∧ w.isRef = true))
    (hd : decode bytes pc = .ok (i, 1)) (eT : T.heap = h) (hc : cells ≤ CC) (hs : slots ≤ SS) (hQ : Q (some w) h locs) : Goes p e below (EndN s Q CC SS) T m pc Ls (w :: St) := by
  obtain ⟨fs, hr, hrun, hended, hW, hsame⟩ := X.leave (v := some w) (fun r => by rw [C.c_rt, hrt] at r; cases r) C.c_lk
  subst eT
  exact ⟨_, _, retOut X C.c_x (C.c_rt.trans hrt) hn hi (hb C.c_by hd) hr, hrun, hended, _, _, rfl, hQ, ⟨_, rfl⟩, hW, hsame.mono hc hs⟩
theorem g_retI (C : Ctx p s m meth c Z own nm bytes ml rt) (X : Stand p l e R s m args below meth c T locs cells slots) {z : Int32} (hrt : rt = some .int) (hd : decode bytes pc = .ok (.ireturn, 1)) (eT : T.heap = h) (hc : cells ≤ CC) (hs : slots ≤ SS) (hQ : Q (some (.int z)) h locs) : Goes p e below (EndN s Q CC SS) T m pc Ls (.int z :: St) :=
  g_retW C X hrt rfl (Or.inl ⟨rfl, Or.inl rfl, z, rfl⟩) hd eT hc hs hQ
theorem g_retN (C : Ctx p s m meth c Z own nm bytes ml rt) (X : Stand p l e R s m args below meth c T locs cells slots) {z z' : Int32} {t : FieldType} (hrt : rt = some t) (ht : t = .boolean ∨ t = .byte ∨ t = .char ∨ t = .short) (hd : decode bytes pc = .ok (.ireturn, 1)) (eT : T.heap = h) (hc : cells ≤ CC) (hs : slots ≤ SS) (hz : nar t z = z') (hQ : Q (some (.int z')) h locs) : Goes p e below (EndN s Q CC SS) T m pc Ls (.int z :: St) := by
  obtain ⟨fs, hr, hrun, hended, hW, hsame⟩ := X.leave (v := some (.int (nar t z))) (fun r => by rw [C.c_rt, hrt] at r; cases r) C.c_lk
  subst eT
  subst hz
  exact ⟨_, _, retN X C.c_x (C.c_rt.trans hrt) ht (hb C.c_by hd) hr, hrun, hended, _, _, rfl, hQ, ⟨_, rfl⟩, hW, hsame.mono hc hs⟩
def Ba (Z : State) (h : Heap) (a : Addr) (ty : FieldType) (n : Nat) (f : Nat → Int32) : Prop := ∃ c : Cell, Arr Z h a c ty ∧ c.slots.size = n ∧ n < 2 ^ 31 ∧ (∀ k, k < n → c.slots[k]? = some (.int (f k)))
def upd (f : Nat → Int32) (j : Nat) (v : Int32) : Nat → Int32 := fun k => bif Nat.beq k j then v else f k
theorem upd_same {f : Nat → Int32} {j k : Nat} {v : Int32} (q : k = j) : upd f j v k = v := by subst q; simp [upd]
theorem upd_ne {f : Nat → Int32} {j k : Nat} {v : Int32} (q : k ≠ j) : upd f j v k = f k := by
  have : Nat.beq k j = false := by
    cases hb : Nat.beq k j with
    | false => rfl
    | true => exact absurd (Nat.eq_of_beq_eq_true hb) q
  show (bif Nat.beq k j then v else f k) = f k
  rw [this]; rfl
theorem upd_eq (f : Nat → Int32) (j k : Nat) (v : Int32) : upd f j v k = if k = j then v else f k := by
  split
  · rename_i q; exact upd_same q
  · rename_i q; exact upd_ne q
theorem Ba.lt {a : Addr} {ty : FieldType} {n : Nat} {f : Nat → Int32} (F : Ba Z h a ty n f) : a < h.size := by obtain ⟨c, A, -⟩ := F; exact A.lt
theorem Ba.ext {h' : Heap} {a : Addr} {ty : FieldType} {n : Nat} {f : Nat → Int32} (F : Ba Z h a ty n f) (E : Ext h h') : Ba Z h' a ty n f := by obtain ⟨c, A, r⟩ := F; exact ⟨c, A.ext E, r⟩
theorem Ba.other {h' : Heap} {a b : Addr} {ty : FieldType} {n sl : Nat} {v : Value} {f : Nat → Int32} (F : Ba Z h a ty n f) (W : Wr h h' b sl v) (q : a ≠ b) : Ba Z h' a ty n f := by obtain ⟨c, A, r⟩ := F; exact ⟨c, A.other W q, r⟩
theorem Ba.keep {h' : Heap} {a : Addr} {ty : FieldType} {n : Nat} {ws : List Addr} {f : Nat → Int32} (F : Ba Z h a ty n f) (K : Keep h h' ws) (q : a ∉ ws) : Ba Z h' a ty n f := by obtain ⟨c, A, r⟩ := F; exact ⟨c, ⟨K.2.1 a c A.1 q, A.2⟩, r⟩
theorem Ba.same {h' : Heap} {a : Addr} {ty : FieldType} {n j : Nat} {v : Int32} {f : Nat → Int32} (F : Ba Z h a ty n f) (W : Wr h h' a j (.int v)) : Ba Z h' a ty n (upd f j v) := by
  obtain ⟨c, A, hs, hn, hf⟩ := F
  refine ⟨_, A.same W, by simp [Cell.setSlot, hs], hn, fun k hk => ?_⟩
  rw [upd_eq]
  by_cases q : k = j
  · subst q; simp [Cell.setSlot, hs, hk]
  · rw [if_neg q]; simp only [Cell.setSlot]; rw [Array.getElem?_setIfInBounds_ne (Ne.symm q)]; exact hf k hk
theorem Ba.cong {a : Addr} {ty : FieldType} {n : Nat} {f f' : Nat → Int32} (F : Ba Z h a ty n f) (q : ∀ k, k < n → f k = f' k) : Ba Z h a ty n f' := by
  obtain ⟨c, A, hs, hn, hf⟩ := F
  exact ⟨c, A, hs, hn, fun k hk => by rw [← q k hk]; exact hf k hk⟩
theorem Ba.new {a : Addr} {cA : ClassId} {ty : FieldType} {z : Int32} {n : Nat} (A : Arr Z h a (newA cA ty z) ty) (hz : z.toInt = n) (hd : defaultValue ty = .int 0) : Ba Z h a ty n (fun _ => 0) := by
  have hr := rng32 z
  have hn : z.toNatClampNeg = n := by simp only [Int32.toNatClampNeg, hz]; rfl
  exact ⟨_, A, by rw [sz_new, hn], by omega, fun k hk => by simp [newA, hn, hk, hd]⟩
theorem own_clamp {j : Int32} {k : Nat} (hj : j.toInt = k) : j.toNatClampNeg = k ∧ ¬ j < 0 := by
  refine ⟨by simp only [Int32.toNatClampNeg, hj]; rfl, fun r => ?_⟩
  have := Int32.lt_iff_toInt_lt.mp r
  rw [hj, own_z0] at this; omega
theorem own_in {j : Int32} {k n : Nat} {c : Cell} (hs : c.slots.size = n) (hj : j.toInt = k) (hk : k < n) : ¬ (j < 0 ∨ c.slots.size ≤ j.toNatClampNeg) := by
  obtain ⟨h1, h2⟩ := own_clamp hj
  rw [h1, hs]; intro r; rcases r with r | r
  · exact h2 r
  · omega
theorem own_lenI {n : Nat} (hn : n < 2 ^ 31) : (n.toInt32).toInt = n := by
  have := len_toInt hn
  exact this
theorem g_newP (q : Nat) (hq : pc + 2 = q) (C : Ctx p s m meth c Z own nm bytes ml rt) (X : Stand p l e R s m args below meth c T locs cells slots) {aty : ArrayType} {z : Int32} (n : Nat) (hz : z.toInt = n) (cap : Nat) (hcap : n ≤ cap) (hb' : cap * 8 ≤ 536870912) (hdf : defaultValue (newarray.typeOf aty) = .int 0) (w : (Cond.arrayClass (newarray.typeOf aty)).before a0 Z = true) (eT : T.heap = h) (hd : decode bytes pc = .ok (.newarray aty, 2)) (hc : cells + 1 ≤ R.cells) (hl : slots + cap ≤ R.slots)
    (k : ∀ T' h' a, a = h.size → Stand p l e R s m args below meth c T' locs (cells + 1) (slots + cap) → T'.heap = h' → Ext h h' → Ba Z h' a (newarray.typeOf aty) n (fun _ => 0) → Goes p e below E T' m q Ls (.ref a :: St)) : Goes p e below E T m pc Ls (.int z :: St) := by
  subst hq
  obtain ⟨h1, h2⟩ := own_clamp hz
  obtain ⟨T', h', cA, X', e', E', A', st⟩ := newP X C.c_x C.c_z w eT (g := mkF m pc Ls (.int z :: St)) rfl (hb C.c_by hd) rfl h2 (cap := cap) (by rw [h1]; exact hcap) hb' hc hl
  exact (k T' h' _ rfl X' e' E' (Ba.new A' hz hdf)).back fun t kt => st t kt
theorem g_baload (q : Nat) (hq : pc + 1 = q) (C : Ctx p s m meth c Z own nm bytes ml rt) (X : Stand p l e R s m args below meth c T locs cells slots) {a : Addr} {n : Nat} {f : Nat → Int32} {j : Int32} (eT : T.heap = h) (F : Ba Z h a .byte n f) (i : Nat) (hj : j.toInt = i) (hi : i < n) (v : Int32) (hv : f i = v) (hd : decode bytes pc = .ok (.baload, 1)) (k : Goes p e below E T m q Ls (.int v :: St)) : Goes p e below E T m pc Ls (.int j :: .ref a :: St) := by
  subst hq
  obtain ⟨c0, A, hs, hn, hf⟩ := F
  exact k.back fun t kt => X.baloadBytes C.c_x (j := j) (v := .int v) (by rw [eT]; exact A.1) (State.isArrayOf_alike C.c_z.alike A.2.1) A.2.2 (own_in hs hj hi) (by rw [(own_clamp hj).1, ← hv]; exact hf i hi) (g := mkF m pc Ls (.int j :: .ref a :: St)) rfl rfl (hb C.c_by hd) t kt
theorem g_bastore (q : Nat) (hq : pc + 1 = q) (C : Ctx p s m meth c Z own nm bytes ml rt) (X : Stand p l e R s m args below meth c T locs cells slots) {a : Addr} {n : Nat} {f : Nat → Int32} {j x : Int32} (eT : T.heap = h) (F : Ba Z h a .byte n f) (i : Nat) (hj : j.toInt = i) (hi : i < n) (v : Int32) (hv : x.toInt8.toInt32 = v) (hd : decode bytes pc = .ok (.bastore, 1)) {n0 : Nat} (N : Fr n0 locs) (hn0 : n0 ≤ a)
    (k : ∀ T' h' locs', Stand p l e R s m args below meth c T' locs' cells slots → T'.heap = h' → Wr h h' a i (.int v) → Ba Z h' a .byte n (upd f i v) → Fr n0 locs' → Goes p e below E T' m q Ls St) : Goes p e below E T m pc Ls (.int x :: .int j :: .ref a :: St) := by
  subst hq hv
  have F0 := F
  obtain ⟨c0, A, hs, hn, hf⟩ := F
  obtain ⟨T', h', X', e', W', st⟩ := stB X C.c_x C.c_z eT A (j := j) (own_in hs hj hi) (g := mkF m pc Ls (.int x :: .int j :: .ref a :: St)) rfl rfl (hb C.c_by hd)
  rw [(own_clamp hj).1] at W' X'
  exact (k T' h' _ X' e' W' (F0.same W') (Fr.snoc X' N hn0)).back fun t kt => st t kt
theorem own_narByte {b : Int32} (h0 : -128 ≤ b.toInt) (h1 : b.toInt < 128) : b.toInt8.toInt32 = b := by
  have := c_i2b b
  exact Int32.toInt_inj.mp (by omega)
theorem own_fitB {x : Int32} (h0 : -128 ≤ x.toInt) (h1 : x.toInt < 128) : fits .byte (.int x) = true := by
  have e := own_narByte h0 h1
  rw [← e]; exact fits_nar_byte x

theorem g_callS (q : Nat) (hq : pc + 3 = q) (C : Ctx p s m meth c Z own nm bytes ml rt) (X : Stand p l e R s m args below meth c T locs cells slots) {y : MethodName} {bytes' : ByteArray} {maxL' : Nat} {ret' : Option FieldType} {rm : Room} {Q' : Option Value → Heap → List Loc → Prop} {i W : Nat} {argsL : List Value} (w1 : (Cond.methodLink own i y).before a0 Z = true) (w2 : (Cond.static y).before a0 Z = true) (wc : (Cond.code y bytes' maxL' ret').before a0 Z = true) (wz : (Cond.initialized y.cls).before a0 Z = true) (eT : T.heap = h) (M : MetFree l y (head1 [Cond.code y bytes' maxL' ret'] rm) (fun a' U => a' = argsL.toArray ∧ Z.Warmed39 U.vm ∧ U.heap = h) (fun _ _ _ _ _ => True) (fun _ U o U' => ∃ v L, o = .returned v ∧ Q' v U'.heap L ∧ FrameEnd U o U' L rm.cells rm.slots)) (hlen : ∀ sig, parseMethodDescriptor y.desc = some sig → argsL.length = sig.parameters.length) (hf : rm.frames + 1 ≤ R.frames) (hl : W + (maxL' + 11) + rm.locals ≤ R.locals) (hc : cells + rm.cells ≤ R.cells) (hsl : slots + rm.slots ≤ R.slots) (hsz : Ls.size = ml) (hW : (St.map fun v => v.category).sum ≤ W) (hy : y.cls ≠ "java/lang/invoke/MethodHandle" ∧ y.cls ≠ "java/lang/invoke/VarHandle") (hd : decode bytes pc = .ok (.invokestatic i, 3)) {St0 : List Value} (hst : St0 = argsL.reverse ++ St)
    (k : ∀ v T' L, Stand p l e R s m args below meth c T' (locs ++ L) (cells + rm.cells) (slots + rm.slots) → Q' v T'.heap L → Goes p e below E T' m q Ls (v.toList ++ St)) : Goes p e below E T m pc Ls St0 := by
  subst hq hst
  obtain ⟨v, _, ⟨T', L', k', n'⟩, -, X', ⟨Lc, hQ', l', y', z'⟩, st⟩ := Jvm.LawKit.callS X C.c_x (y := y) C.c_own (mvT C.c_z w1) (mvT C.c_z w2) (mvT C.c_z wz) (mvT C.c_z wc) hy (backOf (W := W) M C.c_z wc wz hf hl) (g := mkF m pc Ls (argsL.reverse ++ St)) rfl (hsz.trans C.c_ml.symm) (argsL := argsL) (rest := St) hlen rfl (by show 2 * 0 + _ ≤ _; omega) (hb C.c_by hd) (fun _ _ => ⟨rfl, eT, hc, hsl⟩)
  dsimp only [Pt.U, Pt.locs, Pt.cells, Pt.slots] at X' l' y' z' st hQ'
  subst l' y' z'
  exact (k v T' Lc X' hQ').back fun t kt => st t kt
end Own
section OwnArith
theorem own_mulc (x y : Int32) (k : Int) (hk : y.toInt = k) : ((x * y).toInt - x.toInt * k) % 4294967296 = 0 := hk ▸ c_imul x y
theorem own_mulc' (x y : Int32) (k : Int) (hk : x.toInt = k) : ((x * y).toInt - k * y.toInt) % 4294967296 = 0 := hk ▸ c_imul x y
theorem own_lmulc (x y : Int64) (k : Int) (hk : y.toInt = k) : ((x * y).toInt - x.toInt * k) % 18446744073709551616 = 0 := hk ▸ c_lmul x y
theorem own_lmulc' (x y : Int64) (k : Int) (hk : x.toInt = k) : ((x * y).toInt - k * y.toInt) % 18446744073709551616 = 0 := hk ▸ c_lmul x y
theorem own_bvor (x y : BitVec 32) : (x ||| y) + (x &&& y) = x + y := by
  have h1 : x = (x &&& y) + (x &&& ~~~y) := by
    rw [BitVec.add_eq_or_of_and_eq_zero]
    · ext i; simp; cases x[i] <;> cases y[i] <;> rfl
    · ext i; simp; cases x[i] <;> cases y[i] <;> simp
  have h2 : x ||| y = y + (x &&& ~~~y) := by
    rw [BitVec.add_eq_or_of_and_eq_zero]
    · ext i; simp; cases x[i] <;> cases y[i] <;> rfl
    · ext i; simp; cases x[i] <;> cases y[i] <;> simp
  rw [h2]
  conv => rhs; rw [h1]
  ac_rfl
theorem own_or0 (x y : Int32) : (x ||| y) + (x &&& y) = x + y := Int32.toBitVec_inj.mp (by simpa using own_bvor x.toBitVec y.toBitVec)
theorem own_or (x y : Int32) : ((x ||| y).toInt + (x &&& y).toInt - (x.toInt + y.toInt)) % 4294967296 = 0 := by
  have h1 := c_iadd (x ||| y) (x &&& y)
  have h2 := c_iadd x y
  rw [own_or0] at h1; omega
theorem own_bvblk (x m a b : BitVec 32) (h1 : m ||| a = b) (h2 : m &&& a = 0#32) : (x &&& m) + (x &&& a) = x &&& b := by
  rw [BitVec.add_eq_or_of_and_eq_zero, ← h1]
  · ext i; simp; cases x[i] <;> simp
  · have : (x &&& m) &&& (x &&& a) = x &&& (m &&& a) := by ext i; simp; cases x[i] <;> simp
    rw [this, h2]; simp
theorem own_blk (x m a b : Int32) (h1 : m ||| a = b) (h2 : m &&& a = 0) : ((x &&& m).toInt + (x &&& a).toInt - (x &&& b).toInt) % 4294967296 = 0 := by
  have e : (x &&& m) + (x &&& a) = x &&& b := Int32.toBitVec_inj.mp (by
    have q1 := congrArg Int32.toBitVec h1
    have q2 := congrArg Int32.toBitVec h2
    simpa using own_bvblk x.toBitVec m.toBitVec a.toBitVec b.toBitVec (by simpa using q1) (by simpa using q2))
  have := c_iadd (x &&& m) (x &&& a)
  rw [e] at this; omega
theorem own_andM1 (x : Int32) : x &&& (-1) = x := Int32.toBitVec_inj.mp (by ext i; simp)
theorem own_narZ {b : Int32} (hb : b.toInt = 0 ∨ b.toInt = 1) : nar .boolean b = b := by
  have : b = 0 ∨ b = 1 := by
    rcases hb with q | q
    · exact Or.inl (Int32.toInt_inj.mp q)
    · exact Or.inr (Int32.toInt_inj.mp q)
  rcases this with rfl | rfl <;> decide
theorem own_narC {b : Int32} (h0 : 0 ≤ b.toInt) (h1 : b.toInt < 65536) : nar .char b = b := by
  have := c_i2c b
  exact Int32.toInt_inj.mp (by show b.toUInt32.toUInt16.toUInt32.toInt32.toInt = _; omega)
theorem own_narB {b : Int32} (h0 : -128 ≤ b.toInt) (h1 : b.toInt < 128) : nar .byte b = b := by
  have := c_i2b b
  exact Int32.toInt_inj.mp (by show b.toInt8.toInt32.toInt = _; omega)
theorem own_eq {x y : Int32} (q : x.toInt = y.toInt) : x = y := Int32.toInt_inj.mp q
theorem own_eqL {x y : Int64} (q : x.toInt = y.toInt) : x = y := Int64.toInt_inj.mp q
end OwnArith


def own_wt (x : Int32) : Int := if x.toInt % 256 / 64 = 2 then 0 else if x.toInt % 256 < 240 then 1 else 2
def own_us (f : Nat → Int32) (i : Nat) : Nat → Int
  | 0 => 0
  | k + 1 => own_us f i k + own_wt (f (i + k))
theorem own_us_cong (f g : Nat → Int32) (i : Nat) : ∀ k, (∀ j, j < k → own_wt (f (i + j)) = own_wt (g (i + j))) → own_us f i k = own_us g i k
  | 0, _ => rfl
  | k + 1, hj => by
    show own_us f i k + _ = own_us g i k + _
    rw [own_us_cong f g i k (fun j q => hj j (by omega)), hj k (by omega)]
theorem own_us_zero (f : Nat → Int32) (i : Nat) : ∀ k, (∀ j, j < k → own_wt (f (i + j)) = 0) → own_us f i k = 0
  | 0, _ => rfl
  | k + 1, hj => by
    show own_us f i k + _ = 0
    rw [own_us_zero f i k (fun j q => hj j (by omega)), hj k (by omega)]; rfl
theorem own_us_add (f : Nat → Int32) (i a : Nat) : ∀ b, own_us f i (a + b) = own_us f i a + own_us f (i + a) b
  | 0 => by show own_us f i a = own_us f i a + 0; omega
  | b + 1 => by
    show own_us f i (a + b) + own_wt (f (i + (a + b))) = own_us f i a + (own_us f (i + a) b + own_wt (f (i + a + b)))
    rw [own_us_add f i a b, Nat.add_assoc i a b]; omega
theorem own_us_lead (f : Nat → Int32) (i k : Nat) (u : Int) (h1 : own_wt (f i) = u) (h2 : ∀ j, 0 < j → j < k → own_wt (f (i + j)) = 0) (h0 : 0 < k) : own_us f i k = u := by
  have e : k = 1 + (k - 1) := by omega
  rw [e, own_us_add]
  rw [own_us_zero f (i + 1) (k - 1) (fun j hj => by have := h2 (1 + j) (by omega) (by omega); rwa [← Nat.add_assoc] at this)]
  show own_us f i 0 + own_wt (f (i + 0)) + 0 = u
  rw [Nat.add_zero, h1]; show (0 : Int) + u + 0 = u; omega
theorem own_pre (f : Nat → Int32) (n1 n2 k : Nat) (u1 u2 : Int) (p1 : 0 < n1) (p2 : 0 < n2) (a1 : own_wt (f 0) = u1) (a2 : ∀ j, 0 < j → j < n1 → own_wt (f j) = 0) (b1 : own_wt (f n1) = u2) (b2 : ∀ j, n1 < j → j < n1 + n2 → own_wt (f j) = 0) (hk : k ≤ n1 + n2) :
    (k = 0 → own_us f 0 k = 0) ∧ (0 < k → k ≤ n1 → own_us f 0 k = u1) ∧ (n1 < k → own_us f 0 k = u1 + u2) := by
  refine ⟨fun q => by subst q; rfl, fun q r => own_us_lead f 0 k u1 a1 (fun j q1 q2 => by rw [Nat.zero_add]; exact a2 j q1 (by omega)) q, fun q => ?_⟩
  have e : k = n1 + (k - n1) := by omega
  rw [e, own_us_add, own_us_lead f 0 n1 u1 a1 (fun j q1 q2 => by rw [Nat.zero_add]; exact a2 j q1 q2) p1, Nat.zero_add, own_us_lead f n1 (k - n1) u2 b1 (fun j q1 q2 => b2 _ (by omega) (by omega)) (by omega)]
theorem own_suf (f : Nat → Int32) (n1 n2 k : Nat) (u1 u2 : Int) (p1 : 0 < n1) (p2 : 0 < n2) (a1 : own_wt (f 0) = u1) (a2 : ∀ j, 0 < j → j < n1 → own_wt (f j) = 0) (b1 : own_wt (f n1) = u2) (b2 : ∀ j, n1 < j → j < n1 + n2 → own_wt (f j) = 0) (hk : k ≤ n1 + n2) :
    (k = 0 → own_us f k (n1 + n2 - k) = u1 + u2) ∧ (0 < k → k ≤ n1 → own_us f k (n1 + n2 - k) = u2) ∧ (n1 < k → own_us f k (n1 + n2 - k) = 0) := by
  have t := (own_pre f n1 n2 (n1 + n2) u1 u2 p1 p2 a1 a2 b1 b2 (Nat.le_refl _)).2.2 (by omega)
  have q := own_pre f n1 n2 k u1 u2 p1 p2 a1 a2 b1 b2 hk
  have e : n1 + n2 = k + (n1 + n2 - k) := by omega
  have s := own_us_add f 0 k (n1 + n2 - k)
  rw [← e, t, Nat.zero_add] at s
  refine ⟨fun r => ?_, fun r1 r2 => ?_, fun r => ?_⟩
  · have := q.1 r; omega
  · have := q.2.1 r1 r2; omega
  · have := q.2.2 r; omega
theorem d2_0 : decode prog_60_method_2_code 0 = .ok (.iload_n 0, 1) := by decide +kernel
theorem d2_1 : decode prog_60_method_2_code 1 = .ok (.sipush 128, 3) := by decide +kernel
theorem d2_4 : decode prog_60_method_2_code 4 = .ok (.if_icmp .ge 10, 3) := by decide +kernel
theorem d2_7 : decode prog_60_method_2_code 7 = .ok (.aload_n 1, 1) := by decide +kernel
theorem d2_8 : decode prog_60_method_2_code 8 = .ok (.iload_n 2, 1) := by decide +kernel
theorem d2_9 : decode prog_60_method_2_code 9 = .ok (.iload_n 0, 1) := by decide +kernel
theorem d2_10 : decode prog_60_method_2_code 10 = .ok (.i2b, 1) := by decide +kernel
theorem d2_11 : decode prog_60_method_2_code 11 = .ok (.bastore, 1) := by decide +kernel
theorem d2_12 : decode prog_60_method_2_code 12 = .ok (.iconst 1, 1) := by decide +kernel
theorem d2_13 : decode prog_60_method_2_code 13 = .ok (.ireturn, 1) := by decide +kernel
theorem d2_14 : decode prog_60_method_2_code 14 = .ok (.iload_n 0, 1) := by decide +kernel
theorem d2_15 : decode prog_60_method_2_code 15 = .ok (.sipush 2048, 3) := by decide +kernel
theorem d2_18 : decode prog_60_method_2_code 18 = .ok (.if_icmp .ge 31, 3) := by decide +kernel
theorem d2_21 : decode prog_60_method_2_code 21 = .ok (.aload_n 1, 1) := by decide +kernel
theorem d2_22 : decode prog_60_method_2_code 22 = .ok (.iload_n 2, 1) := by decide +kernel
theorem d2_23 : decode prog_60_method_2_code 23 = .ok (.sipush 192, 3) := by decide +kernel
theorem d2_26 : decode prog_60_method_2_code 26 = .ok (.iload_n 0, 1) := by decide +kernel
theorem d2_27 : decode prog_60_method_2_code 27 = .ok (.bipush 6, 2) := by decide +kernel
theorem d2_29 : decode prog_60_method_2_code 29 = .ok (.ishr, 1) := by decide +kernel
theorem d2_30 : decode prog_60_method_2_code 30 = .ok (.ior, 1) := by decide +kernel
theorem d2_31 : decode prog_60_method_2_code 31 = .ok (.i2b, 1) := by decide +kernel
theorem d2_32 : decode prog_60_method_2_code 32 = .ok (.bastore, 1) := by decide +kernel
theorem d2_33 : decode prog_60_method_2_code 33 = .ok (.aload_n 1, 1) := by decide +kernel
theorem d2_34 : decode prog_60_method_2_code 34 = .ok (.iload_n 2, 1) := by decide +kernel
theorem d2_35 : decode prog_60_method_2_code 35 = .ok (.iconst 1, 1) := by decide +kernel
theorem d2_36 : decode prog_60_method_2_code 36 = .ok (.iadd, 1) := by decide +kernel
theorem d2_37 : decode prog_60_method_2_code 37 = .ok (.sipush 128, 3) := by decide +kernel
theorem d2_40 : decode prog_60_method_2_code 40 = .ok (.iload_n 0, 1) := by decide +kernel
theorem d2_41 : decode prog_60_method_2_code 41 = .ok (.bipush 63, 2) := by decide +kernel
theorem d2_43 : decode prog_60_method_2_code 43 = .ok (.iand, 1) := by decide +kernel
theorem d2_44 : decode prog_60_method_2_code 44 = .ok (.ior, 1) := by decide +kernel
theorem d2_45 : decode prog_60_method_2_code 45 = .ok (.i2b, 1) := by decide +kernel
theorem d2_46 : decode prog_60_method_2_code 46 = .ok (.bastore, 1) := by decide +kernel
theorem d2_47 : decode prog_60_method_2_code 47 = .ok (.iconst 2, 1) := by decide +kernel
theorem d2_48 : decode prog_60_method_2_code 48 = .ok (.ireturn, 1) := by decide +kernel
theorem d2_49 : decode prog_60_method_2_code 49 = .ok (.iload_n 0, 1) := by decide +kernel
theorem d2_50 : decode prog_60_method_2_code 50 = .ok (.ldc 7, 2) := by decide +kernel
theorem d2_52 : decode prog_60_method_2_code 52 = .ok (.if_icmp .ge 48, 3) := by decide +kernel
theorem d2_55 : decode prog_60_method_2_code 55 = .ok (.aload_n 1, 1) := by decide +kernel
theorem d2_56 : decode prog_60_method_2_code 56 = .ok (.iload_n 2, 1) := by decide +kernel
theorem d2_57 : decode prog_60_method_2_code 57 = .ok (.sipush 224, 3) := by decide +kernel
theorem d2_60 : decode prog_60_method_2_code 60 = .ok (.iload_n 0, 1) := by decide +kernel
theorem d2_61 : decode prog_60_method_2_code 61 = .ok (.bipush 12, 2) := by decide +kernel
theorem d2_63 : decode prog_60_method_2_code 63 = .ok (.ishr, 1) := by decide +kernel
theorem d2_64 : decode prog_60_method_2_code 64 = .ok (.ior, 1) := by decide +kernel
theorem d2_65 : decode prog_60_method_2_code 65 = .ok (.i2b, 1) := by decide +kernel
theorem d2_66 : decode prog_60_method_2_code 66 = .ok (.bastore, 1) := by decide +kernel
theorem d2_67 : decode prog_60_method_2_code 67 = .ok (.aload_n 1, 1) := by decide +kernel
theorem d2_68 : decode prog_60_method_2_code 68 = .ok (.iload_n 2, 1) := by decide +kernel
theorem d2_69 : decode prog_60_method_2_code 69 = .ok (.iconst 1, 1) := by decide +kernel
theorem d2_70 : decode prog_60_method_2_code 70 = .ok (.iadd, 1) := by decide +kernel
theorem d2_71 : decode prog_60_method_2_code 71 = .ok (.sipush 128, 3) := by decide +kernel
theorem d2_74 : decode prog_60_method_2_code 74 = .ok (.iload_n 0, 1) := by decide +kernel
theorem d2_75 : decode prog_60_method_2_code 75 = .ok (.bipush 6, 2) := by decide +kernel
theorem d2_77 : decode prog_60_method_2_code 77 = .ok (.ishr, 1) := by decide +kernel
theorem d2_78 : decode prog_60_method_2_code 78 = .ok (.bipush 63, 2) := by decide +kernel
theorem d2_80 : decode prog_60_method_2_code 80 = .ok (.iand, 1) := by decide +kernel
theorem d2_81 : decode prog_60_method_2_code 81 = .ok (.ior, 1) := by decide +kernel
theorem d2_82 : decode prog_60_method_2_code 82 = .ok (.i2b, 1) := by decide +kernel
theorem d2_83 : decode prog_60_method_2_code 83 = .ok (.bastore, 1) := by decide +kernel
theorem d2_84 : decode prog_60_method_2_code 84 = .ok (.aload_n 1, 1) := by decide +kernel
theorem d2_85 : decode prog_60_method_2_code 85 = .ok (.iload_n 2, 1) := by decide +kernel
theorem d2_86 : decode prog_60_method_2_code 86 = .ok (.iconst 2, 1) := by decide +kernel
theorem d2_87 : decode prog_60_method_2_code 87 = .ok (.iadd, 1) := by decide +kernel
theorem d2_88 : decode prog_60_method_2_code 88 = .ok (.sipush 128, 3) := by decide +kernel
theorem d2_91 : decode prog_60_method_2_code 91 = .ok (.iload_n 0, 1) := by decide +kernel
theorem d2_92 : decode prog_60_method_2_code 92 = .ok (.bipush 63, 2) := by decide +kernel
theorem d2_94 : decode prog_60_method_2_code 94 = .ok (.iand, 1) := by decide +kernel
theorem d2_95 : decode prog_60_method_2_code 95 = .ok (.ior, 1) := by decide +kernel
theorem d2_96 : decode prog_60_method_2_code 96 = .ok (.i2b, 1) := by decide +kernel
theorem d2_97 : decode prog_60_method_2_code 97 = .ok (.bastore, 1) := by decide +kernel
theorem d2_98 : decode prog_60_method_2_code 98 = .ok (.iconst 3, 1) := by decide +kernel
theorem d2_99 : decode prog_60_method_2_code 99 = .ok (.ireturn, 1) := by decide +kernel
theorem d2_100 : decode prog_60_method_2_code 100 = .ok (.aload_n 1, 1) := by decide +kernel
theorem d2_101 : decode prog_60_method_2_code 101 = .ok (.iload_n 2, 1) := by decide +kernel
theorem d2_102 : decode prog_60_method_2_code 102 = .ok (.sipush 240, 3) := by decide +kernel
theorem d2_105 : decode prog_60_method_2_code 105 = .ok (.iload_n 0, 1) := by decide +kernel
theorem d2_106 : decode prog_60_method_2_code 106 = .ok (.bipush 18, 2) := by decide +kernel
theorem d2_108 : decode prog_60_method_2_code 108 = .ok (.ishr, 1) := by decide +kernel
theorem d2_109 : decode prog_60_method_2_code 109 = .ok (.ior, 1) := by decide +kernel
theorem d2_110 : decode prog_60_method_2_code 110 = .ok (.i2b, 1) := by decide +kernel
theorem d2_111 : decode prog_60_method_2_code 111 = .ok (.bastore, 1) := by decide +kernel
theorem d2_112 : decode prog_60_method_2_code 112 = .ok (.aload_n 1, 1) := by decide +kernel
theorem d2_113 : decode prog_60_method_2_code 113 = .ok (.iload_n 2, 1) := by decide +kernel
theorem d2_114 : decode prog_60_method_2_code 114 = .ok (.iconst 1, 1) := by decide +kernel
theorem d2_115 : decode prog_60_method_2_code 115 = .ok (.iadd, 1) := by decide +kernel
theorem d2_116 : decode prog_60_method_2_code 116 = .ok (.sipush 128, 3) := by decide +kernel
theorem d2_119 : decode prog_60_method_2_code 119 = .ok (.iload_n 0, 1) := by decide +kernel
theorem d2_120 : decode prog_60_method_2_code 120 = .ok (.bipush 12, 2) := by decide +kernel
theorem d2_122 : decode prog_60_method_2_code 122 = .ok (.ishr, 1) := by decide +kernel
theorem d2_123 : decode prog_60_method_2_code 123 = .ok (.bipush 63, 2) := by decide +kernel
theorem d2_125 : decode prog_60_method_2_code 125 = .ok (.iand, 1) := by decide +kernel
theorem d2_126 : decode prog_60_method_2_code 126 = .ok (.ior, 1) := by decide +kernel
theorem d2_127 : decode prog_60_method_2_code 127 = .ok (.i2b, 1) := by decide +kernel
theorem d2_128 : decode prog_60_method_2_code 128 = .ok (.bastore, 1) := by decide +kernel
theorem d2_129 : decode prog_60_method_2_code 129 = .ok (.aload_n 1, 1) := by decide +kernel
theorem d2_130 : decode prog_60_method_2_code 130 = .ok (.iload_n 2, 1) := by decide +kernel
theorem d2_131 : decode prog_60_method_2_code 131 = .ok (.iconst 2, 1) := by decide +kernel
theorem d2_132 : decode prog_60_method_2_code 132 = .ok (.iadd, 1) := by decide +kernel
theorem d2_133 : decode prog_60_method_2_code 133 = .ok (.sipush 128, 3) := by decide +kernel
theorem d2_136 : decode prog_60_method_2_code 136 = .ok (.iload_n 0, 1) := by decide +kernel
theorem d2_137 : decode prog_60_method_2_code 137 = .ok (.bipush 6, 2) := by decide +kernel
theorem d2_139 : decode prog_60_method_2_code 139 = .ok (.ishr, 1) := by decide +kernel
theorem d2_140 : decode prog_60_method_2_code 140 = .ok (.bipush 63, 2) := by decide +kernel
theorem d2_142 : decode prog_60_method_2_code 142 = .ok (.iand, 1) := by decide +kernel
theorem d2_143 : decode prog_60_method_2_code 143 = .ok (.ior, 1) := by decide +kernel
theorem d2_144 : decode prog_60_method_2_code 144 = .ok (.i2b, 1) := by decide +kernel
theorem d2_145 : decode prog_60_method_2_code 145 = .ok (.bastore, 1) := by decide +kernel
theorem d2_146 : decode prog_60_method_2_code 146 = .ok (.aload_n 1, 1) := by decide +kernel
theorem d2_147 : decode prog_60_method_2_code 147 = .ok (.iload_n 2, 1) := by decide +kernel
theorem d2_148 : decode prog_60_method_2_code 148 = .ok (.iconst 3, 1) := by decide +kernel
theorem d2_149 : decode prog_60_method_2_code 149 = .ok (.iadd, 1) := by decide +kernel
theorem d2_150 : decode prog_60_method_2_code 150 = .ok (.sipush 128, 3) := by decide +kernel
theorem d2_153 : decode prog_60_method_2_code 153 = .ok (.iload_n 0, 1) := by decide +kernel
theorem d2_154 : decode prog_60_method_2_code 154 = .ok (.bipush 63, 2) := by decide +kernel
theorem d2_156 : decode prog_60_method_2_code 156 = .ok (.iand, 1) := by decide +kernel
theorem d2_157 : decode prog_60_method_2_code 157 = .ok (.ior, 1) := by decide +kernel
theorem d2_158 : decode prog_60_method_2_code 158 = .ok (.i2b, 1) := by decide +kernel
theorem d2_159 : decode prog_60_method_2_code 159 = .ok (.bastore, 1) := by decide +kernel
theorem d2_160 : decode prog_60_method_2_code 160 = .ok (.iconst 4, 1) := by decide +kernel
theorem d2_161 : decode prog_60_method_2_code 161 = .ok (.ireturn, 1) := by decide +kernel
theorem pn_25196549 : plainName "com/example/fieldpare/fieldpare/Utf8" = true := by first | (simp [plainName, overriddenIn]; done) | decide +kernel
theorem ef_2 (m : MethodId) (p0 : Int32) (b1 : Addr) (p2 : Int32) : entryFrame m #[(.int p0), (.ref b1), (.int p2)] 3 = mkF m 0 #[.val (.int p0), .val (.ref b1), .val (.int p2)] [] := by first | (simp [entryFrame, mkF, argsToLocals, Value.category]; done) | rfl
def Q2 (Z : State) (p0 : Int32) (b1 : Addr) (p2 : Int32) (f : Nat → Int32) (n : Nat) (h0 : Heap) (n0 : Nat) (v : Option Value) (h : Heap) (L : List Loc) : Prop := ∃ (f' : Nat → Int32) (q : Nat), v = some (.int (Int32.ofNat q)) ∧ (q = q ∧ 1 ≤ q ∧ q ≤ 4) ∧ own_wt (f' n) = (if p0.toInt < 65536 then 1 else 2) ∧ (∀ j, n < j → j < n + q → own_wt (f' j) = 0) ∧ (∀ k, (k < n ∨ n + q ≤ k) → (f' k).toInt = (f k).toInt) ∧ Fr n0 L ∧ Keep h0 h [b1] ∧ Ba Z h b1 .byte 8 f'
set_option maxRecDepth 65536 in
set_option maxHeartbeats 40000000 in
theorem rm2 (l : Launch) (Z : State) (a0 : Array Value) (hw : ∀ d ∈ tables_1, d.before a0 Z = true) (ws : List Jvm.Cond) (p0 : Int32) (b1 : Addr) (p2 : Int32) (f : Nat → Int32) (n : Nat) (h0 : Heap) (n0 : Nat) (Z0 : n0 ≤ h0.size) (B_b1 : Ba Z h0 b1 .byte 8 f) (hn : p2.toInt = n) (hn8 : n + 4 ≤ 8) (hc : 0 ≤ p0.toInt ∧ p0.toInt < 1114112) (g_b1 : n0 ≤ b1) :
    MetFree l (⟨"com/example/fieldpare/fieldpare/Utf8", "encode", "(I[BI)I"⟩ : MethodName) (head1 (Jvm.Cond.code (⟨"com/example/fieldpare/fieldpare/Utf8", "encode", "(I[BI)I"⟩ : MethodName) prog_60_method_2_code 3 (some .int) :: ws) ({ frames := 0, cells := 0, slots := 0, locals := 0 } : Room)) (fun a U => a = #[(.int p0), (.ref b1), (.int p2)] ∧ Z.Warmed39 U.vm ∧ U.heap = h0) (fun _ _ _ _ _ => True) (fun _ U o U' => ∃ v L, o = .returned v ∧ Q2 Z p0 b1 p2 f n h0 n0 v U'.heap L ∧ FrameEnd U o U' L ({ frames := 0, cells := 0, slots := 0, locals := 0 } : Room).cells ({ frames := 0, cells := 0, slots := 0, locals := 0 } : Room).slots) := by
  refine MetFree.of_bodySF (plainFor_of_name pn_25196549) hisR ?_
  intro p e s m args below meth c s₁ Bd hml0 hP hK
  obtain ⟨rfl, hZ, hh⟩ := hP
  have C : Ctx p s m meth c Z "com/example/fieldpare/fieldpare/Utf8" "encode" prog_60_method_2_code 3 (some .int) := Ctx.of Bd hml0 hZ
  have X0 : Stand p l e ({ frames := 0, cells := 0, slots := 0, locals := 0 } : Room) s m #[(.int p0), (.ref b1), (.int p2)] below meth c s₁ [] 0 0 := Stand.of_body Bd
  have e0 : s₁.heap = h0 := by rw [← hh, Bd.state]; rfl
  have N0 := Fr.nil n0
  refine Goes.enter (ef_2 m p0 b1 p2) ?_
  clear hK hml0 hh
  refine g_iloadN 1 rfl C X0 d2_0 rfl ?_
  refine g_sipush 4 rfl C X0 (128 : Int32) d2_1 rfl ?_
  by_cases hb1 : p0.toInt < (128 : Int32).toInt
  · skip
    refine g_icmp_ge_f 7 rfl C X0 d2_4 hb1 ?_
    refine g_aloadN 8 rfl C X0 d2_7 rfl rfl ?_
    refine g_iloadN 9 rfl C X0 d2_8 rfl ?_
    refine g_iloadN 10 rfl C X0 d2_9 rfl ?_
    refine g_i2b 11 rfl C X0 d2_10 ?_
    have fr2 := rng32 p2
    obtain ⟨w3, hw3⟩ : ∃ z : Int32, ((((p0).toInt8.toInt32)).toInt8.toInt32) = z := ⟨_, rfl⟩
    refine g_bastore 12 rfl C X0 e0 B_b1 (n) (by omega) (by omega) w3 hw3 d2_11 N0 g_b1 fun T4 h5 ls6 X7 e8 W9 B10 N11 => ?_
    have Zs12 := Nat.le_trans Z0 (Nat.le_of_eq W9.size.symm)
    have Kp13 : Keep h0 h5 [b1] := (Keep.refl h0 [b1]).wr W9 (Or.inl (List.mem_of_getElem? (i := 0) rfl))
    refine g_iconst 13 rfl C X7 (1 : Int32) d2_12 rfl ?_
    have fr14 := rng32 p0
    have fc15 : (128 : Int32).toInt = 128 := rfl
    have fr16 := rng32 w3
    have fo17 := c_i2b p0
    have fo18 := c_i2b ((p0).toInt8.toInt32)
    have fe19 : ((((p0).toInt8.toInt32)).toInt8.toInt32).toInt = w3.toInt := congrArg Int32.toInt hw3
    have hv20 : ((upd f (n) w3) n).toInt = w3.toInt := congrArg Int32.toInt (upd_same (by omega))
    have hw21 : own_wt ((upd f (n) w3) n) = 1 := by
      simp only [own_wt, hv20]; (repeat' split) <;> omega
    exact g_retI C X7 rfl d2_13 e8 (by decide) (by decide) ⟨_, 1, rfl, ⟨rfl, by decide, by decide⟩, (by rw [hw21]; split <;> omega), (fun j h1 h2 => by omega), (fun k hk => congrArg Int32.toInt (upd_ne (by omega))), N11, Kp13, B10⟩
  · skip
    refine g_icmp_ge_t 14 C X0 d2_4 (by decide) (by decide) hb1 ?_
    refine g_iloadN 15 rfl C X0 d2_14 rfl ?_
    refine g_sipush 18 rfl C X0 (2048 : Int32) d2_15 rfl ?_
    by_cases hb22 : p0.toInt < (2048 : Int32).toInt
    · skip
      refine g_icmp_ge_f 21 rfl C X0 d2_18 hb22 ?_
      refine g_aloadN 22 rfl C X0 d2_21 rfl rfl ?_
      refine g_iloadN 23 rfl C X0 d2_22 rfl ?_
      refine g_sipush 26 rfl C X0 (192 : Int32) d2_23 rfl ?_
      refine g_iloadN 27 rfl C X0 d2_26 rfl ?_
      refine g_bipush 29 rfl C X0 (6 : Int32) d2_27 rfl ?_
      refine g_ishr 30 rfl C X0 d2_29 ?_
      refine g_ior 31 rfl C X0 d2_30 ?_
      refine g_i2b 32 rfl C X0 d2_31 ?_
      have fr23 := rng32 p2
      obtain ⟨w24, hw24⟩ : ∃ z : Int32, ((((((192 : Int32) ||| (p0 >>> ((6 : Int32) &&& 31)))).toInt8.toInt32)).toInt8.toInt32) = z := ⟨_, rfl⟩
      refine g_bastore 33 rfl C X0 e0 B_b1 (n) (by omega) (by omega) w24 hw24 d2_32 N0 g_b1 fun T25 h26 ls27 X28 e29 W30 B31 N32 => ?_
      have Zs33 := Nat.le_trans Z0 (Nat.le_of_eq W30.size.symm)
      have Kp34 : Keep h0 h26 [b1] := (Keep.refl h0 [b1]).wr W30 (Or.inl (List.mem_of_getElem? (i := 0) rfl))
      refine g_aloadN 34 rfl C X28 d2_33 rfl rfl ?_
      refine g_iloadN 35 rfl C X28 d2_34 rfl ?_
      refine g_iconst 36 rfl C X28 (1 : Int32) d2_35 rfl ?_
      refine g_iadd 37 rfl C X28 d2_36 ?_
      refine g_sipush 40 rfl C X28 (128 : Int32) d2_37 rfl ?_
      refine g_iloadN 41 rfl C X28 d2_40 rfl ?_
      refine g_bipush 43 rfl C X28 (63 : Int32) d2_41 rfl ?_
      refine g_iand 44 rfl C X28 d2_43 ?_
      refine g_ior 45 rfl C X28 d2_44 ?_
      refine g_i2b 46 rfl C X28 d2_45 ?_
      have fc35 : (1 : Int32).toInt = 1 := rfl
      have fo36 := c_iadd p2 (1 : Int32)
      have fr37 := rng32 (p2 + (1 : Int32))
      obtain ⟨w38, hw38⟩ : ∃ z : Int32, ((((((128 : Int32) ||| (p0 &&& (63 : Int32)))).toInt8.toInt32)).toInt8.toInt32) = z := ⟨_, rfl⟩
      refine g_bastore 47 rfl C X28 e29 B31 (n + 1) (by omega) (by omega) w38 hw38 d2_46 N32 g_b1 fun T39 h40 ls41 X42 e43 W44 B45 N46 => ?_
      have Zs47 := Nat.le_trans Zs33 (Nat.le_of_eq W44.size.symm)
      have Kp48 : Keep h0 h40 [b1] := Kp34.wr W44 (Or.inl (List.mem_of_getElem? (i := 0) rfl))
      refine g_iconst 48 rfl C X42 (2 : Int32) d2_47 rfl ?_
      have fr49 := rng32 p0
      have fc50 : (128 : Int32).toInt = 128 := rfl
      have fc51 : (2048 : Int32).toInt = 2048 := rfl
      have fr52 := rng32 w24
      have fc53 : (192 : Int32).toInt = 192 := rfl
      have fc54 : (6 : Int32).toInt = 6 := rfl
      have fo55 : ((p0 >>> ((6 : Int32) &&& 31))).toInt = p0.toInt / 64 := c_ishr p0 (6 : Int32) 6 (by decide)
      have fo56 := c_or (192 : Int32) (p0 >>> ((6 : Int32) &&& 31)) 6 (by decide) 64 (by decide) (by omega) (by omega) (by omega)
      have fr57 := rng32 ((192 : Int32) ||| (p0 >>> ((6 : Int32) &&& 31)))
      have fo58 := c_i2b ((192 : Int32) ||| (p0 >>> ((6 : Int32) &&& 31)))
      have fo59 := c_i2b ((((192 : Int32) ||| (p0 >>> ((6 : Int32) &&& 31)))).toInt8.toInt32)
      have fe60 : ((((((192 : Int32) ||| (p0 >>> ((6 : Int32) &&& 31)))).toInt8.toInt32)).toInt8.toInt32).toInt = w24.toInt := congrArg Int32.toInt hw24
      have fr61 := rng32 w38
      have fc62 : (63 : Int32).toInt = 63 := rfl
      have fo63 : (p0 &&& (63 : Int32)).toInt = p0.toInt % 64 := c_mask p0 (63 : Int32) 6 (by decide) (by decide)
      have fo64 := c_or (128 : Int32) (p0 &&& (63 : Int32)) 7 (by decide) 128 (by decide) (by omega) (by omega) (by omega)
      have fr65 := rng32 ((128 : Int32) ||| (p0 &&& (63 : Int32)))
      have fo66 := c_i2b ((128 : Int32) ||| (p0 &&& (63 : Int32)))
      have fo67 := c_i2b ((((128 : Int32) ||| (p0 &&& (63 : Int32)))).toInt8.toInt32)
      have fe68 : ((((((128 : Int32) ||| (p0 &&& (63 : Int32)))).toInt8.toInt32)).toInt8.toInt32).toInt = w38.toInt := congrArg Int32.toInt hw38
      have hv69 : ((upd (upd f (n) w24) (n + 1) w38) n).toInt = w24.toInt := congrArg Int32.toInt ((upd_ne (by omega)).trans (upd_same (by omega)))
      have hw70 : own_wt ((upd (upd f (n) w24) (n + 1) w38) n) = 1 := by
        simp only [own_wt, hv69]; (repeat' split) <;> omega
      have hv71 : ((upd (upd f (n) w24) (n + 1) w38) (n + 1)).toInt = w38.toInt := congrArg Int32.toInt (upd_same (by omega))
      have hw72 : own_wt ((upd (upd f (n) w24) (n + 1) w38) (n + 1)) = 0 := by
        simp only [own_wt, hv71]; (repeat' split) <;> omega
      exact g_retI C X42 rfl d2_48 e43 (by decide) (by decide) ⟨_, 2, rfl, ⟨rfl, by decide, by decide⟩, (by rw [hw70]; split <;> omega), (fun j h1 h2 => by
        rcases (by omega : j = n + 1) with rfl
        · exact hw72), (fun k hk => congrArg Int32.toInt ((upd_ne (by omega)).trans (upd_ne (by omega)))), N46, Kp48, B45⟩
    · skip
      refine g_icmp_ge_t 49 C X0 d2_18 (by decide) (by decide) hb22 ?_
      refine g_iloadN 50 rfl C X0 d2_49 rfl ?_
      refine g_ldc 52 rfl C X0 (hw _ (List.mem_of_getElem? (i := 11) rfl)) d2_50 ?_
      by_cases hb73 : p0.toInt < (65536 : Int32).toInt
      · skip
        refine g_icmp_ge_f 55 rfl C X0 d2_52 hb73 ?_
        refine g_aloadN 56 rfl C X0 d2_55 rfl rfl ?_
        refine g_iloadN 57 rfl C X0 d2_56 rfl ?_
        refine g_sipush 60 rfl C X0 (224 : Int32) d2_57 rfl ?_
        refine g_iloadN 61 rfl C X0 d2_60 rfl ?_
        refine g_bipush 63 rfl C X0 (12 : Int32) d2_61 rfl ?_
        refine g_ishr 64 rfl C X0 d2_63 ?_
        refine g_ior 65 rfl C X0 d2_64 ?_
        refine g_i2b 66 rfl C X0 d2_65 ?_
        have fr74 := rng32 p2
        obtain ⟨w75, hw75⟩ : ∃ z : Int32, ((((((224 : Int32) ||| (p0 >>> ((12 : Int32) &&& 31)))).toInt8.toInt32)).toInt8.toInt32) = z := ⟨_, rfl⟩
        refine g_bastore 67 rfl C X0 e0 B_b1 (n) (by omega) (by omega) w75 hw75 d2_66 N0 g_b1 fun T76 h77 ls78 X79 e80 W81 B82 N83 => ?_
        have Zs84 := Nat.le_trans Z0 (Nat.le_of_eq W81.size.symm)
        have Kp85 : Keep h0 h77 [b1] := (Keep.refl h0 [b1]).wr W81 (Or.inl (List.mem_of_getElem? (i := 0) rfl))
        refine g_aloadN 68 rfl C X79 d2_67 rfl rfl ?_
        refine g_iloadN 69 rfl C X79 d2_68 rfl ?_
        refine g_iconst 70 rfl C X79 (1 : Int32) d2_69 rfl ?_
        refine g_iadd 71 rfl C X79 d2_70 ?_
        refine g_sipush 74 rfl C X79 (128 : Int32) d2_71 rfl ?_
        refine g_iloadN 75 rfl C X79 d2_74 rfl ?_
        refine g_bipush 77 rfl C X79 (6 : Int32) d2_75 rfl ?_
        refine g_ishr 78 rfl C X79 d2_77 ?_
        refine g_bipush 80 rfl C X79 (63 : Int32) d2_78 rfl ?_
        refine g_iand 81 rfl C X79 d2_80 ?_
        refine g_ior 82 rfl C X79 d2_81 ?_
        refine g_i2b 83 rfl C X79 d2_82 ?_
        have fc86 : (1 : Int32).toInt = 1 := rfl
        have fo87 := c_iadd p2 (1 : Int32)
        have fr88 := rng32 (p2 + (1 : Int32))
        obtain ⟨w89, hw89⟩ : ∃ z : Int32, ((((((128 : Int32) ||| ((p0 >>> ((6 : Int32) &&& 31)) &&& (63 : Int32)))).toInt8.toInt32)).toInt8.toInt32) = z := ⟨_, rfl⟩
        refine g_bastore 84 rfl C X79 e80 B82 (n + 1) (by omega) (by omega) w89 hw89 d2_83 N83 g_b1 fun T90 h91 ls92 X93 e94 W95 B96 N97 => ?_
        have Zs98 := Nat.le_trans Zs84 (Nat.le_of_eq W95.size.symm)
        have Kp99 : Keep h0 h91 [b1] := Kp85.wr W95 (Or.inl (List.mem_of_getElem? (i := 0) rfl))
        refine g_aloadN 85 rfl C X93 d2_84 rfl rfl ?_
        refine g_iloadN 86 rfl C X93 d2_85 rfl ?_
        refine g_iconst 87 rfl C X93 (2 : Int32) d2_86 rfl ?_
        refine g_iadd 88 rfl C X93 d2_87 ?_
        refine g_sipush 91 rfl C X93 (128 : Int32) d2_88 rfl ?_
        refine g_iloadN 92 rfl C X93 d2_91 rfl ?_
        refine g_bipush 94 rfl C X93 (63 : Int32) d2_92 rfl ?_
        refine g_iand 95 rfl C X93 d2_94 ?_
        refine g_ior 96 rfl C X93 d2_95 ?_
        refine g_i2b 97 rfl C X93 d2_96 ?_
        have fc100 : (2 : Int32).toInt = 2 := rfl
        have fo101 := c_iadd p2 (2 : Int32)
        have fr102 := rng32 (p2 + (2 : Int32))
        obtain ⟨w103, hw103⟩ : ∃ z : Int32, ((((((128 : Int32) ||| (p0 &&& (63 : Int32)))).toInt8.toInt32)).toInt8.toInt32) = z := ⟨_, rfl⟩
        refine g_bastore 98 rfl C X93 e94 B96 (n + 2) (by omega) (by omega) w103 hw103 d2_97 N97 g_b1 fun T104 h105 ls106 X107 e108 W109 B110 N111 => ?_
        have Zs112 := Nat.le_trans Zs98 (Nat.le_of_eq W109.size.symm)
        have Kp113 : Keep h0 h105 [b1] := Kp99.wr W109 (Or.inl (List.mem_of_getElem? (i := 0) rfl))
        refine g_iconst 99 rfl C X107 (3 : Int32) d2_98 rfl ?_
        have fr114 := rng32 p0
        have fc115 : (128 : Int32).toInt = 128 := rfl
        have fc116 : (2048 : Int32).toInt = 2048 := rfl
        have fc117 : (65536 : Int32).toInt = 65536 := rfl
        have fr118 := rng32 w75
        have fc119 : (224 : Int32).toInt = 224 := rfl
        have fc120 : (12 : Int32).toInt = 12 := rfl
        have fo121 : ((p0 >>> ((12 : Int32) &&& 31))).toInt = p0.toInt / 4096 := c_ishr p0 (12 : Int32) 12 (by decide)
        have fo122 := c_or (224 : Int32) (p0 >>> ((12 : Int32) &&& 31)) 5 (by decide) 32 (by decide) (by omega) (by omega) (by omega)
        have fr123 := rng32 ((224 : Int32) ||| (p0 >>> ((12 : Int32) &&& 31)))
        have fo124 := c_i2b ((224 : Int32) ||| (p0 >>> ((12 : Int32) &&& 31)))
        have fo125 := c_i2b ((((224 : Int32) ||| (p0 >>> ((12 : Int32) &&& 31)))).toInt8.toInt32)
        have fe126 : ((((((224 : Int32) ||| (p0 >>> ((12 : Int32) &&& 31)))).toInt8.toInt32)).toInt8.toInt32).toInt = w75.toInt := congrArg Int32.toInt hw75
        have fr127 := rng32 w89
        have fc128 : (6 : Int32).toInt = 6 := rfl
        have fo129 : ((p0 >>> ((6 : Int32) &&& 31))).toInt = p0.toInt / 64 := c_ishr p0 (6 : Int32) 6 (by decide)
        have fc130 : (63 : Int32).toInt = 63 := rfl
        have fo131 : ((p0 >>> ((6 : Int32) &&& 31)) &&& (63 : Int32)).toInt = (p0 >>> ((6 : Int32) &&& 31)).toInt % 64 := c_mask (p0 >>> ((6 : Int32) &&& 31)) (63 : Int32) 6 (by decide) (by decide)
        have fo132 := c_or (128 : Int32) ((p0 >>> ((6 : Int32) &&& 31)) &&& (63 : Int32)) 7 (by decide) 128 (by decide) (by omega) (by omega) (by omega)
        have fr133 := rng32 ((128 : Int32) ||| ((p0 >>> ((6 : Int32) &&& 31)) &&& (63 : Int32)))
        have fo134 := c_i2b ((128 : Int32) ||| ((p0 >>> ((6 : Int32) &&& 31)) &&& (63 : Int32)))
        have fo135 := c_i2b ((((128 : Int32) ||| ((p0 >>> ((6 : Int32) &&& 31)) &&& (63 : Int32)))).toInt8.toInt32)
        have fe136 : ((((((128 : Int32) ||| ((p0 >>> ((6 : Int32) &&& 31)) &&& (63 : Int32)))).toInt8.toInt32)).toInt8.toInt32).toInt = w89.toInt := congrArg Int32.toInt hw89
        have fr137 := rng32 w103
        have fo138 : (p0 &&& (63 : Int32)).toInt = p0.toInt % 64 := c_mask p0 (63 : Int32) 6 (by decide) (by decide)
        have fo139 := c_or (128 : Int32) (p0 &&& (63 : Int32)) 7 (by decide) 128 (by decide) (by omega) (by omega) (by omega)
        have fr140 := rng32 ((128 : Int32) ||| (p0 &&& (63 : Int32)))
        have fo141 := c_i2b ((128 : Int32) ||| (p0 &&& (63 : Int32)))
        have fo142 := c_i2b ((((128 : Int32) ||| (p0 &&& (63 : Int32)))).toInt8.toInt32)
        have fe143 : ((((((128 : Int32) ||| (p0 &&& (63 : Int32)))).toInt8.toInt32)).toInt8.toInt32).toInt = w103.toInt := congrArg Int32.toInt hw103
        have hv144 : ((upd (upd (upd f (n) w75) (n + 1) w89) (n + 2) w103) n).toInt = w75.toInt := congrArg Int32.toInt ((upd_ne (by omega)).trans ((upd_ne (by omega)).trans (upd_same (by omega))))
        have hw145 : own_wt ((upd (upd (upd f (n) w75) (n + 1) w89) (n + 2) w103) n) = 1 := by
          simp only [own_wt, hv144]; (repeat' split) <;> omega
        have hv146 : ((upd (upd (upd f (n) w75) (n + 1) w89) (n + 2) w103) (n + 1)).toInt = w89.toInt := congrArg Int32.toInt ((upd_ne (by omega)).trans (upd_same (by omega)))
        have hw147 : own_wt ((upd (upd (upd f (n) w75) (n + 1) w89) (n + 2) w103) (n + 1)) = 0 := by
          simp only [own_wt, hv146]; (repeat' split) <;> omega
        have hv148 : ((upd (upd (upd f (n) w75) (n + 1) w89) (n + 2) w103) (n + 2)).toInt = w103.toInt := congrArg Int32.toInt (upd_same (by omega))
        have hw149 : own_wt ((upd (upd (upd f (n) w75) (n + 1) w89) (n + 2) w103) (n + 2)) = 0 := by
          simp only [own_wt, hv148]; (repeat' split) <;> omega
        exact g_retI C X107 rfl d2_99 e108 (by decide) (by decide) ⟨_, 3, rfl, ⟨rfl, by decide, by decide⟩, (by rw [hw145]; split <;> omega), (fun j h1 h2 => by
          rcases (by omega : j = n + 1 ∨ j = n + 2) with rfl | rfl
          · exact hw147
          · exact hw149), (fun k hk => congrArg Int32.toInt ((upd_ne (by omega)).trans ((upd_ne (by omega)).trans (upd_ne (by omega))))), N111, Kp113, B110⟩
      · skip
        refine g_icmp_ge_t 100 C X0 d2_52 (by decide) (by decide) hb73 ?_
        refine g_aloadN 101 rfl C X0 d2_100 rfl rfl ?_
        refine g_iloadN 102 rfl C X0 d2_101 rfl ?_
        refine g_sipush 105 rfl C X0 (240 : Int32) d2_102 rfl ?_
        refine g_iloadN 106 rfl C X0 d2_105 rfl ?_
        refine g_bipush 108 rfl C X0 (18 : Int32) d2_106 rfl ?_
        refine g_ishr 109 rfl C X0 d2_108 ?_
        refine g_ior 110 rfl C X0 d2_109 ?_
        refine g_i2b 111 rfl C X0 d2_110 ?_
        have fr150 := rng32 p2
        obtain ⟨w151, hw151⟩ : ∃ z : Int32, ((((((240 : Int32) ||| (p0 >>> ((18 : Int32) &&& 31)))).toInt8.toInt32)).toInt8.toInt32) = z := ⟨_, rfl⟩
        refine g_bastore 112 rfl C X0 e0 B_b1 (n) (by omega) (by omega) w151 hw151 d2_111 N0 g_b1 fun T152 h153 ls154 X155 e156 W157 B158 N159 => ?_
        have Zs160 := Nat.le_trans Z0 (Nat.le_of_eq W157.size.symm)
        have Kp161 : Keep h0 h153 [b1] := (Keep.refl h0 [b1]).wr W157 (Or.inl (List.mem_of_getElem? (i := 0) rfl))
        refine g_aloadN 113 rfl C X155 d2_112 rfl rfl ?_
        refine g_iloadN 114 rfl C X155 d2_113 rfl ?_
        refine g_iconst 115 rfl C X155 (1 : Int32) d2_114 rfl ?_
        refine g_iadd 116 rfl C X155 d2_115 ?_
        refine g_sipush 119 rfl C X155 (128 : Int32) d2_116 rfl ?_
        refine g_iloadN 120 rfl C X155 d2_119 rfl ?_
        refine g_bipush 122 rfl C X155 (12 : Int32) d2_120 rfl ?_
        refine g_ishr 123 rfl C X155 d2_122 ?_
        refine g_bipush 125 rfl C X155 (63 : Int32) d2_123 rfl ?_
        refine g_iand 126 rfl C X155 d2_125 ?_
        refine g_ior 127 rfl C X155 d2_126 ?_
        refine g_i2b 128 rfl C X155 d2_127 ?_
        have fc162 : (1 : Int32).toInt = 1 := rfl
        have fo163 := c_iadd p2 (1 : Int32)
        have fr164 := rng32 (p2 + (1 : Int32))
        obtain ⟨w165, hw165⟩ : ∃ z : Int32, ((((((128 : Int32) ||| ((p0 >>> ((12 : Int32) &&& 31)) &&& (63 : Int32)))).toInt8.toInt32)).toInt8.toInt32) = z := ⟨_, rfl⟩
        refine g_bastore 129 rfl C X155 e156 B158 (n + 1) (by omega) (by omega) w165 hw165 d2_128 N159 g_b1 fun T166 h167 ls168 X169 e170 W171 B172 N173 => ?_
        have Zs174 := Nat.le_trans Zs160 (Nat.le_of_eq W171.size.symm)
        have Kp175 : Keep h0 h167 [b1] := Kp161.wr W171 (Or.inl (List.mem_of_getElem? (i := 0) rfl))
        refine g_aloadN 130 rfl C X169 d2_129 rfl rfl ?_
        refine g_iloadN 131 rfl C X169 d2_130 rfl ?_
        refine g_iconst 132 rfl C X169 (2 : Int32) d2_131 rfl ?_
        refine g_iadd 133 rfl C X169 d2_132 ?_
        refine g_sipush 136 rfl C X169 (128 : Int32) d2_133 rfl ?_
        refine g_iloadN 137 rfl C X169 d2_136 rfl ?_
        refine g_bipush 139 rfl C X169 (6 : Int32) d2_137 rfl ?_
        refine g_ishr 140 rfl C X169 d2_139 ?_
        refine g_bipush 142 rfl C X169 (63 : Int32) d2_140 rfl ?_
        refine g_iand 143 rfl C X169 d2_142 ?_
        refine g_ior 144 rfl C X169 d2_143 ?_
        refine g_i2b 145 rfl C X169 d2_144 ?_
        have fc176 : (2 : Int32).toInt = 2 := rfl
        have fo177 := c_iadd p2 (2 : Int32)
        have fr178 := rng32 (p2 + (2 : Int32))
        obtain ⟨w179, hw179⟩ : ∃ z : Int32, ((((((128 : Int32) ||| ((p0 >>> ((6 : Int32) &&& 31)) &&& (63 : Int32)))).toInt8.toInt32)).toInt8.toInt32) = z := ⟨_, rfl⟩
        refine g_bastore 146 rfl C X169 e170 B172 (n + 2) (by omega) (by omega) w179 hw179 d2_145 N173 g_b1 fun T180 h181 ls182 X183 e184 W185 B186 N187 => ?_
        have Zs188 := Nat.le_trans Zs174 (Nat.le_of_eq W185.size.symm)
        have Kp189 : Keep h0 h181 [b1] := Kp175.wr W185 (Or.inl (List.mem_of_getElem? (i := 0) rfl))
        refine g_aloadN 147 rfl C X183 d2_146 rfl rfl ?_
        refine g_iloadN 148 rfl C X183 d2_147 rfl ?_
        refine g_iconst 149 rfl C X183 (3 : Int32) d2_148 rfl ?_
        refine g_iadd 150 rfl C X183 d2_149 ?_
        refine g_sipush 153 rfl C X183 (128 : Int32) d2_150 rfl ?_
        refine g_iloadN 154 rfl C X183 d2_153 rfl ?_
        refine g_bipush 156 rfl C X183 (63 : Int32) d2_154 rfl ?_
        refine g_iand 157 rfl C X183 d2_156 ?_
        refine g_ior 158 rfl C X183 d2_157 ?_
        refine g_i2b 159 rfl C X183 d2_158 ?_
        have fc190 : (3 : Int32).toInt = 3 := rfl
        have fo191 := c_iadd p2 (3 : Int32)
        have fr192 := rng32 (p2 + (3 : Int32))
        obtain ⟨w193, hw193⟩ : ∃ z : Int32, ((((((128 : Int32) ||| (p0 &&& (63 : Int32)))).toInt8.toInt32)).toInt8.toInt32) = z := ⟨_, rfl⟩
        refine g_bastore 160 rfl C X183 e184 B186 (n + 3) (by omega) (by omega) w193 hw193 d2_159 N187 g_b1 fun T194 h195 ls196 X197 e198 W199 B200 N201 => ?_
        have Zs202 := Nat.le_trans Zs188 (Nat.le_of_eq W199.size.symm)
        have Kp203 : Keep h0 h195 [b1] := Kp189.wr W199 (Or.inl (List.mem_of_getElem? (i := 0) rfl))
        refine g_iconst 161 rfl C X197 (4 : Int32) d2_160 rfl ?_
        have fr204 := rng32 p0
        have fc205 : (128 : Int32).toInt = 128 := rfl
        have fc206 : (2048 : Int32).toInt = 2048 := rfl
        have fc207 : (65536 : Int32).toInt = 65536 := rfl
        have fr208 := rng32 w151
        have fc209 : (240 : Int32).toInt = 240 := rfl
        have fc210 : (18 : Int32).toInt = 18 := rfl
        have fo211 : ((p0 >>> ((18 : Int32) &&& 31))).toInt = p0.toInt / 262144 := c_ishr p0 (18 : Int32) 18 (by decide)
        have fo212 := c_or (240 : Int32) (p0 >>> ((18 : Int32) &&& 31)) 4 (by decide) 16 (by decide) (by omega) (by omega) (by omega)
        have fr213 := rng32 ((240 : Int32) ||| (p0 >>> ((18 : Int32) &&& 31)))
        have fo214 := c_i2b ((240 : Int32) ||| (p0 >>> ((18 : Int32) &&& 31)))
        have fo215 := c_i2b ((((240 : Int32) ||| (p0 >>> ((18 : Int32) &&& 31)))).toInt8.toInt32)
        have fe216 : ((((((240 : Int32) ||| (p0 >>> ((18 : Int32) &&& 31)))).toInt8.toInt32)).toInt8.toInt32).toInt = w151.toInt := congrArg Int32.toInt hw151
        have fr217 := rng32 w165
        have fc218 : (12 : Int32).toInt = 12 := rfl
        have fo219 : ((p0 >>> ((12 : Int32) &&& 31))).toInt = p0.toInt / 4096 := c_ishr p0 (12 : Int32) 12 (by decide)
        have fc220 : (63 : Int32).toInt = 63 := rfl
        have fo221 : ((p0 >>> ((12 : Int32) &&& 31)) &&& (63 : Int32)).toInt = (p0 >>> ((12 : Int32) &&& 31)).toInt % 64 := c_mask (p0 >>> ((12 : Int32) &&& 31)) (63 : Int32) 6 (by decide) (by decide)
        have fo222 := c_or (128 : Int32) ((p0 >>> ((12 : Int32) &&& 31)) &&& (63 : Int32)) 7 (by decide) 128 (by decide) (by omega) (by omega) (by omega)
        have fr223 := rng32 ((128 : Int32) ||| ((p0 >>> ((12 : Int32) &&& 31)) &&& (63 : Int32)))
        have fo224 := c_i2b ((128 : Int32) ||| ((p0 >>> ((12 : Int32) &&& 31)) &&& (63 : Int32)))
        have fo225 := c_i2b ((((128 : Int32) ||| ((p0 >>> ((12 : Int32) &&& 31)) &&& (63 : Int32)))).toInt8.toInt32)
        have fe226 : ((((((128 : Int32) ||| ((p0 >>> ((12 : Int32) &&& 31)) &&& (63 : Int32)))).toInt8.toInt32)).toInt8.toInt32).toInt = w165.toInt := congrArg Int32.toInt hw165
        have fr227 := rng32 w179
        have fc228 : (6 : Int32).toInt = 6 := rfl
        have fo229 : ((p0 >>> ((6 : Int32) &&& 31))).toInt = p0.toInt / 64 := c_ishr p0 (6 : Int32) 6 (by decide)
        have fo230 : ((p0 >>> ((6 : Int32) &&& 31)) &&& (63 : Int32)).toInt = (p0 >>> ((6 : Int32) &&& 31)).toInt % 64 := c_mask (p0 >>> ((6 : Int32) &&& 31)) (63 : Int32) 6 (by decide) (by decide)
        have fo231 := c_or (128 : Int32) ((p0 >>> ((6 : Int32) &&& 31)) &&& (63 : Int32)) 7 (by decide) 128 (by decide) (by omega) (by omega) (by omega)
        have fr232 := rng32 ((128 : Int32) ||| ((p0 >>> ((6 : Int32) &&& 31)) &&& (63 : Int32)))
        have fo233 := c_i2b ((128 : Int32) ||| ((p0 >>> ((6 : Int32) &&& 31)) &&& (63 : Int32)))
        have fo234 := c_i2b ((((128 : Int32) ||| ((p0 >>> ((6 : Int32) &&& 31)) &&& (63 : Int32)))).toInt8.toInt32)
        have fe235 : ((((((128 : Int32) ||| ((p0 >>> ((6 : Int32) &&& 31)) &&& (63 : Int32)))).toInt8.toInt32)).toInt8.toInt32).toInt = w179.toInt := congrArg Int32.toInt hw179
        have fr236 := rng32 w193
        have fo237 : (p0 &&& (63 : Int32)).toInt = p0.toInt % 64 := c_mask p0 (63 : Int32) 6 (by decide) (by decide)
        have fo238 := c_or (128 : Int32) (p0 &&& (63 : Int32)) 7 (by decide) 128 (by decide) (by omega) (by omega) (by omega)
        have fr239 := rng32 ((128 : Int32) ||| (p0 &&& (63 : Int32)))
        have fo240 := c_i2b ((128 : Int32) ||| (p0 &&& (63 : Int32)))
        have fo241 := c_i2b ((((128 : Int32) ||| (p0 &&& (63 : Int32)))).toInt8.toInt32)
        have fe242 : ((((((128 : Int32) ||| (p0 &&& (63 : Int32)))).toInt8.toInt32)).toInt8.toInt32).toInt = w193.toInt := congrArg Int32.toInt hw193
        have hv243 : ((upd (upd (upd (upd f (n) w151) (n + 1) w165) (n + 2) w179) (n + 3) w193) n).toInt = w151.toInt := congrArg Int32.toInt ((upd_ne (by omega)).trans ((upd_ne (by omega)).trans ((upd_ne (by omega)).trans (upd_same (by omega)))))
        have hw244 : own_wt ((upd (upd (upd (upd f (n) w151) (n + 1) w165) (n + 2) w179) (n + 3) w193) n) = 2 := by
          simp only [own_wt, hv243]; (repeat' split) <;> omega
        have hv245 : ((upd (upd (upd (upd f (n) w151) (n + 1) w165) (n + 2) w179) (n + 3) w193) (n + 1)).toInt = w165.toInt := congrArg Int32.toInt ((upd_ne (by omega)).trans ((upd_ne (by omega)).trans (upd_same (by omega))))
        have hw246 : own_wt ((upd (upd (upd (upd f (n) w151) (n + 1) w165) (n + 2) w179) (n + 3) w193) (n + 1)) = 0 := by
          simp only [own_wt, hv245]; (repeat' split) <;> omega
        have hv247 : ((upd (upd (upd (upd f (n) w151) (n + 1) w165) (n + 2) w179) (n + 3) w193) (n + 2)).toInt = w179.toInt := congrArg Int32.toInt ((upd_ne (by omega)).trans (upd_same (by omega)))
        have hw248 : own_wt ((upd (upd (upd (upd f (n) w151) (n + 1) w165) (n + 2) w179) (n + 3) w193) (n + 2)) = 0 := by
          simp only [own_wt, hv247]; (repeat' split) <;> omega
        have hv249 : ((upd (upd (upd (upd f (n) w151) (n + 1) w165) (n + 2) w179) (n + 3) w193) (n + 3)).toInt = w193.toInt := congrArg Int32.toInt (upd_same (by omega))
        have hw250 : own_wt ((upd (upd (upd (upd f (n) w151) (n + 1) w165) (n + 2) w179) (n + 3) w193) (n + 3)) = 0 := by
          simp only [own_wt, hv249]; (repeat' split) <;> omega
        exact g_retI C X197 rfl d2_161 e198 (by decide) (by decide) ⟨_, 4, rfl, ⟨rfl, by decide, by decide⟩, (by rw [hw244]; split <;> omega), (fun j h1 h2 => by
          rcases (by omega : j = n + 1 ∨ j = n + 2 ∨ j = n + 3) with rfl | rfl | rfl
          · exact hw246
          · exact hw248
          · exact hw250), (fun k hk => congrArg Int32.toInt ((upd_ne (by omega)).trans ((upd_ne (by omega)).trans ((upd_ne (by omega)).trans (upd_ne (by omega)))))), N201, Kp203, B200⟩
theorem d1_0 : decode method_2_code 0 = .ok (.iload_n 1, 1) := by decide +kernel
theorem d1_1 : decode method_2_code 1 = .ok (.ldc 7, 2) := by decide +kernel
theorem d1_3 : decode method_2_code 3 = .ok (.iand, 1) := by decide +kernel
theorem d1_4 : decode method_2_code 4 = .ok (.istore_n 2, 1) := by decide +kernel
theorem d1_5 : decode method_2_code 5 = .ok (.iload_n 0, 1) := by decide +kernel
theorem d1_6 : decode method_2_code 6 = .ok (.ifCond .ne 9, 3) := by decide +kernel
theorem d1_9 : decode method_2_code 9 = .ok (.iload_n 2, 1) := by decide +kernel
theorem d1_10 : decode method_2_code 10 = .ok (.sipush 128, 3) := by decide +kernel
theorem d1_13 : decode method_2_code 13 = .ok (.irem, 1) := by decide +kernel
theorem d1_14 : decode method_2_code 14 = .ok (.ireturn, 1) := by decide +kernel
theorem d1_15 : decode method_2_code 15 = .ok (.iload_n 0, 1) := by decide +kernel
theorem d1_16 : decode method_2_code 16 = .ok (.iconst 1, 1) := by decide +kernel
theorem d1_17 : decode method_2_code 17 = .ok (.if_icmp .ne 13, 3) := by decide +kernel
theorem d1_20 : decode method_2_code 20 = .ok (.sipush 128, 3) := by decide +kernel
theorem d1_23 : decode method_2_code 23 = .ok (.iload_n 2, 1) := by decide +kernel
theorem d1_24 : decode method_2_code 24 = .ok (.sipush 1920, 3) := by decide +kernel
theorem d1_27 : decode method_2_code 27 = .ok (.irem, 1) := by decide +kernel
theorem d1_28 : decode method_2_code 28 = .ok (.iadd, 1) := by decide +kernel
theorem d1_29 : decode method_2_code 29 = .ok (.ireturn, 1) := by decide +kernel
theorem d1_30 : decode method_2_code 30 = .ok (.iload_n 0, 1) := by decide +kernel
theorem d1_31 : decode method_2_code 31 = .ok (.iconst 2, 1) := by decide +kernel
theorem d1_32 : decode method_2_code 32 = .ok (.if_icmp .ne 12, 3) := by decide +kernel
theorem d1_35 : decode method_2_code 35 = .ok (.sipush 2048, 3) := by decide +kernel
theorem d1_38 : decode method_2_code 38 = .ok (.iload_n 2, 1) := by decide +kernel
theorem d1_39 : decode method_2_code 39 = .ok (.ldc 8, 2) := by decide +kernel
theorem d1_41 : decode method_2_code 41 = .ok (.irem, 1) := by decide +kernel
theorem d1_42 : decode method_2_code 42 = .ok (.iadd, 1) := by decide +kernel
theorem d1_43 : decode method_2_code 43 = .ok (.ireturn, 1) := by decide +kernel
theorem d1_44 : decode method_2_code 44 = .ok (.ldc 9, 2) := by decide +kernel
theorem d1_46 : decode method_2_code 46 = .ok (.iload_n 2, 1) := by decide +kernel
theorem d1_47 : decode method_2_code 47 = .ok (.ldc 10, 2) := by decide +kernel
theorem d1_49 : decode method_2_code 49 = .ok (.irem, 1) := by decide +kernel
theorem d1_50 : decode method_2_code 50 = .ok (.iadd, 1) := by decide +kernel
theorem d1_51 : decode method_2_code 51 = .ok (.ireturn, 1) := by decide +kernel
theorem pn_1313303 : plainName "com/example/fieldpare/fieldpare/Utf8UnitsPinLaw" = true := by first | (simp [plainName, overriddenIn]; done) | decide +kernel
theorem ef_1 (m : MethodId) (p0 : Int32) (p1 : Int32) : entryFrame m #[(.int p0), (.int p1)] 3 = mkF m 0 #[.val (.int p0), .val (.int p1), .unset] [] := by first | (simp [entryFrame, mkF, argsToLocals, Value.category]; done) | rfl
def Q1 (Z : State) (p0 : Int32) (p1 : Int32) (h0 : Heap) (n0 : Nat) (v : Option Value) (h : Heap) (L : List Loc) : Prop := ∃ r : Int32, v = some (.int r) ∧ (0 ≤ r.toInt ∧ r.toInt < 1114112) ∧ Fr n0 L ∧ h = h0
set_option maxRecDepth 65536 in
set_option maxHeartbeats 40000000 in
theorem rm1 (l : Launch) (Z : State) (a0 : Array Value) (hw : ∀ d ∈ tables_1, d.before a0 Z = true) (ws : List Jvm.Cond) (p0 : Int32) (p1 : Int32) (h0 : Heap) (n0 : Nat) (Z0 : n0 ≤ h0.size) :
    MetFree l (⟨"com/example/fieldpare/fieldpare/Utf8UnitsPinLaw", "pick", "(II)I"⟩ : MethodName) (head1 (Jvm.Cond.code (⟨"com/example/fieldpare/fieldpare/Utf8UnitsPinLaw", "pick", "(II)I"⟩ : MethodName) method_2_code 3 (some .int) :: ws) ({ frames := 0, cells := 0, slots := 0, locals := 0 } : Room)) (fun a U => a = #[(.int p0), (.int p1)] ∧ Z.Warmed39 U.vm ∧ U.heap = h0) (fun _ _ _ _ _ => True) (fun _ U o U' => ∃ v L, o = .returned v ∧ Q1 Z p0 p1 h0 n0 v U'.heap L ∧ FrameEnd U o U' L ({ frames := 0, cells := 0, slots := 0, locals := 0 } : Room).cells ({ frames := 0, cells := 0, slots := 0, locals := 0 } : Room).slots) := by
  refine MetFree.of_bodySF (plainFor_of_name pn_1313303) hisR ?_
  intro p e s m args below meth c s₁ Bd hml0 hP hK
  obtain ⟨rfl, hZ, hh⟩ := hP
  have C : Ctx p s m meth c Z "com/example/fieldpare/fieldpare/Utf8UnitsPinLaw" "pick" method_2_code 3 (some .int) := Ctx.of Bd hml0 hZ
  have X0 : Stand p l e ({ frames := 0, cells := 0, slots := 0, locals := 0 } : Room) s m #[(.int p0), (.int p1)] below meth c s₁ [] 0 0 := Stand.of_body Bd
  have e0 : s₁.heap = h0 := by rw [← hh, Bd.state]; rfl
  have N0 := Fr.nil n0
  refine Goes.enter (ef_1 m p0 p1) ?_
  clear hK hml0 hh
  refine g_iloadN 1 rfl C X0 d1_0 rfl ?_
  refine g_ldc 3 rfl C X0 (hw _ (List.mem_of_getElem? (i := 5) rfl)) d1_1 ?_
  refine g_iand 4 rfl C X0 d1_3 ?_
  obtain ⟨v1, hv1⟩ : ∃ z : Int32, (p1 &&& (2147483647 : Int32)) = z := ⟨_, rfl⟩
  refine g_istoreN 5 rfl C X0 v1 hv1 #[.val (.int p0), .val (.int p1), .val (.int v1)] d1_4 rfl ?_
  refine g_iloadN 6 rfl C X0 d1_5 rfl ?_
  by_cases hb2 : p0.toInt = 0
  · skip
    refine g_if_ne_f 9 rfl C X0 d1_6 hb2 ?_
    refine g_iloadN 10 rfl C X0 d1_9 rfl ?_
    refine g_sipush 13 rfl C X0 (128 : Int32) d1_10 rfl ?_
    refine g_irem 14 rfl C X0 d1_13 (by decide) ?_
    have fr3 := rng32 p0
    have fr4 := rng32 v1
    have fr5 := rng32 p1
    have fc6 : (2147483647 : Int32).toInt = 2147483647 := rfl
    have fo7 : (p1 &&& (2147483647 : Int32)).toInt = p1.toInt % 2147483648 := c_mask p1 (2147483647 : Int32) 31 (by decide) (by decide)
    have fe8 : (p1 &&& (2147483647 : Int32)).toInt = v1.toInt := congrArg Int32.toInt hv1
    have fc9 : (128 : Int32).toInt = 128 := rfl
    have fo10 := c_irem v1 (128 : Int32) 128 rfl
    have fr11 := rng32 (v1 % (128 : Int32))
    exact g_retI C X0 rfl d1_14 e0 (by decide) (by decide) ⟨_, rfl, by omega, N0, rfl⟩
  · skip
    refine g_if_ne_t 15 C X0 d1_6 (by decide) (by decide) hb2 ?_
    refine g_iloadN 16 rfl C X0 d1_15 rfl ?_
    refine g_iconst 17 rfl C X0 (1 : Int32) d1_16 rfl ?_
    by_cases hb12 : p0.toInt = (1 : Int32).toInt
    · skip
      refine g_icmp_ne_f 20 rfl C X0 d1_17 hb12 ?_
      refine g_sipush 23 rfl C X0 (128 : Int32) d1_20 rfl ?_
      refine g_iloadN 24 rfl C X0 d1_23 rfl ?_
      refine g_sipush 27 rfl C X0 (1920 : Int32) d1_24 rfl ?_
      refine g_irem 28 rfl C X0 d1_27 (by decide) ?_
      refine g_iadd 29 rfl C X0 d1_28 ?_
      have fr13 := rng32 p0
      have fc14 : (1 : Int32).toInt = 1 := rfl
      have fc15 : (128 : Int32).toInt = 128 := rfl
      have fr16 := rng32 v1
      have fr17 := rng32 p1
      have fc18 : (2147483647 : Int32).toInt = 2147483647 := rfl
      have fo19 : (p1 &&& (2147483647 : Int32)).toInt = p1.toInt % 2147483648 := c_mask p1 (2147483647 : Int32) 31 (by decide) (by decide)
      have fe20 : (p1 &&& (2147483647 : Int32)).toInt = v1.toInt := congrArg Int32.toInt hv1
      have fc21 : (1920 : Int32).toInt = 1920 := rfl
      have fo22 := c_irem v1 (1920 : Int32) 1920 rfl
      have fr23 := rng32 (v1 % (1920 : Int32))
      have fo24 := c_iadd (128 : Int32) (v1 % (1920 : Int32))
      have fr25 := rng32 ((128 : Int32) + (v1 % (1920 : Int32)))
      exact g_retI C X0 rfl d1_29 e0 (by decide) (by decide) ⟨_, rfl, by omega, N0, rfl⟩
    · skip
      refine g_icmp_ne_t 30 C X0 d1_17 (by decide) (by decide) hb12 ?_
      refine g_iloadN 31 rfl C X0 d1_30 rfl ?_
      refine g_iconst 32 rfl C X0 (2 : Int32) d1_31 rfl ?_
      by_cases hb26 : p0.toInt = (2 : Int32).toInt
      · skip
        refine g_icmp_ne_f 35 rfl C X0 d1_32 hb26 ?_
        refine g_sipush 38 rfl C X0 (2048 : Int32) d1_35 rfl ?_
        refine g_iloadN 39 rfl C X0 d1_38 rfl ?_
        refine g_ldc 41 rfl C X0 (hw _ (List.mem_of_getElem? (i := 6) rfl)) d1_39 ?_
        refine g_irem 42 rfl C X0 d1_41 (by decide) ?_
        refine g_iadd 43 rfl C X0 d1_42 ?_
        have fr27 := rng32 p0
        have fc28 : (1 : Int32).toInt = 1 := rfl
        have fc29 : (2 : Int32).toInt = 2 := rfl
        have fc30 : (2048 : Int32).toInt = 2048 := rfl
        have fr31 := rng32 v1
        have fr32 := rng32 p1
        have fc33 : (2147483647 : Int32).toInt = 2147483647 := rfl
        have fo34 : (p1 &&& (2147483647 : Int32)).toInt = p1.toInt % 2147483648 := c_mask p1 (2147483647 : Int32) 31 (by decide) (by decide)
        have fe35 : (p1 &&& (2147483647 : Int32)).toInt = v1.toInt := congrArg Int32.toInt hv1
        have fc36 : (63488 : Int32).toInt = 63488 := rfl
        have fo37 := c_irem v1 (63488 : Int32) 63488 rfl
        have fr38 := rng32 (v1 % (63488 : Int32))
        have fo39 := c_iadd (2048 : Int32) (v1 % (63488 : Int32))
        have fr40 := rng32 ((2048 : Int32) + (v1 % (63488 : Int32)))
        exact g_retI C X0 rfl d1_43 e0 (by decide) (by decide) ⟨_, rfl, by omega, N0, rfl⟩
      · skip
        refine g_icmp_ne_t 44 C X0 d1_32 (by decide) (by decide) hb26 ?_
        refine g_ldc 46 rfl C X0 (hw _ (List.mem_of_getElem? (i := 12) rfl)) d1_44 ?_
        refine g_iloadN 47 rfl C X0 d1_46 rfl ?_
        refine g_ldc 49 rfl C X0 (hw _ (List.mem_of_getElem? (i := 16) rfl)) d1_47 ?_
        refine g_irem 50 rfl C X0 d1_49 (by decide) ?_
        refine g_iadd 51 rfl C X0 d1_50 ?_
        have fr41 := rng32 p0
        have fc42 : (1 : Int32).toInt = 1 := rfl
        have fc43 : (2 : Int32).toInt = 2 := rfl
        have fc44 : (65536 : Int32).toInt = 65536 := rfl
        have fr45 := rng32 v1
        have fr46 := rng32 p1
        have fc47 : (2147483647 : Int32).toInt = 2147483647 := rfl
        have fo48 : (p1 &&& (2147483647 : Int32)).toInt = p1.toInt % 2147483648 := c_mask p1 (2147483647 : Int32) 31 (by decide) (by decide)
        have fe49 : (p1 &&& (2147483647 : Int32)).toInt = v1.toInt := congrArg Int32.toInt hv1
        have fc50 : (1048576 : Int32).toInt = 1048576 := rfl
        have fo51 := c_irem v1 (1048576 : Int32) 1048576 rfl
        have fr52 := rng32 (v1 % (1048576 : Int32))
        have fo53 := c_iadd (65536 : Int32) (v1 % (1048576 : Int32))
        have fr54 := rng32 ((65536 : Int32) + (v1 % (1048576 : Int32)))
        exact g_retI C X0 rfl d1_51 e0 (by decide) (by decide) ⟨_, rfl, by omega, N0, rfl⟩
theorem own_us_b (f : Nat → Int32) (i : Nat) : ∀ k, 0 ≤ own_us f i k ∧ own_us f i k ≤ 2 * k
  | 0 => ⟨Int.le_refl _, Int.le_refl _⟩
  | k + 1 => by
    have h := own_us_b f i k
    have : 0 ≤ own_wt (f (i + k)) ∧ own_wt (f (i + k)) ≤ 2 := by simp only [own_wt]; (repeat' split) <;> omega
    show 0 ≤ own_us f i k + own_wt (f (i + k)) ∧ own_us f i k + own_wt (f (i + k)) ≤ 2 * ((k + 1 : Nat) : Int)
    omega
theorem d3_0 : decode prog_60_method_6_code 0 = .ok (.iconst 0, 1) := by decide +kernel
theorem d3_1 : decode prog_60_method_6_code 1 = .ok (.istore_n 3, 1) := by decide +kernel
theorem d3_2 : decode prog_60_method_6_code 2 = .ok (.iload_n 1, 1) := by decide +kernel
theorem d3_3 : decode prog_60_method_6_code 3 = .ok (.istore 4, 2) := by decide +kernel
theorem d3_5 : decode prog_60_method_6_code 5 = .ok (.iload 4, 2) := by decide +kernel
theorem d3_7 : decode prog_60_method_6_code 7 = .ok (.iload_n 2, 1) := by decide +kernel
theorem d3_8 : decode prog_60_method_6_code 8 = .ok (.if_icmp .ge 51, 3) := by decide +kernel
theorem d3_59 : decode prog_60_method_6_code 59 = .ok (.iload_n 3, 1) := by decide +kernel
theorem d3_60 : decode prog_60_method_6_code 60 = .ok (.ireturn, 1) := by decide +kernel
theorem d3_11 : decode prog_60_method_6_code 11 = .ok (.aload_n 0, 1) := by decide +kernel
theorem d3_12 : decode prog_60_method_6_code 12 = .ok (.iload 4, 2) := by decide +kernel
theorem d3_14 : decode prog_60_method_6_code 14 = .ok (.baload, 1) := by decide +kernel
theorem d3_15 : decode prog_60_method_6_code 15 = .ok (.sipush 255, 3) := by decide +kernel
theorem d3_18 : decode prog_60_method_6_code 18 = .ok (.iand, 1) := by decide +kernel
theorem d3_19 : decode prog_60_method_6_code 19 = .ok (.istore 5, 2) := by decide +kernel
theorem d3_21 : decode prog_60_method_6_code 21 = .ok (.iload_n 3, 1) := by decide +kernel
theorem d3_22 : decode prog_60_method_6_code 22 = .ok (.iload 5, 2) := by decide +kernel
theorem d3_24 : decode prog_60_method_6_code 24 = .ok (.sipush 192, 3) := by decide +kernel
theorem d3_27 : decode prog_60_method_6_code 27 = .ok (.iand, 1) := by decide +kernel
theorem d3_28 : decode prog_60_method_6_code 28 = .ok (.sipush 128, 3) := by decide +kernel
theorem d3_31 : decode prog_60_method_6_code 31 = .ok (.if_icmp .ne 7, 3) := by decide +kernel
theorem d3_34 : decode prog_60_method_6_code 34 = .ok (.iconst 0, 1) := by decide +kernel
theorem d3_35 : decode prog_60_method_6_code 35 = .ok (.goto 16, 3) := by decide +kernel
theorem d3_51 : decode prog_60_method_6_code 51 = .ok (.iadd, 1) := by decide +kernel
theorem d3_52 : decode prog_60_method_6_code 52 = .ok (.istore_n 3, 1) := by decide +kernel
theorem d3_53 : decode prog_60_method_6_code 53 = .ok (.iinc 4 1, 3) := by decide +kernel
theorem d3_56 : decode prog_60_method_6_code 56 = .ok (.goto (-51), 3) := by decide +kernel
theorem d3_38 : decode prog_60_method_6_code 38 = .ok (.iload 5, 2) := by decide +kernel
theorem d3_40 : decode prog_60_method_6_code 40 = .ok (.sipush 240, 3) := by decide +kernel
theorem d3_43 : decode prog_60_method_6_code 43 = .ok (.if_icmp .lt 7, 3) := by decide +kernel
theorem d3_50 : decode prog_60_method_6_code 50 = .ok (.iconst 1, 1) := by decide +kernel
theorem d3_46 : decode prog_60_method_6_code 46 = .ok (.iconst 2, 1) := by decide +kernel
theorem d3_47 : decode prog_60_method_6_code 47 = .ok (.goto 4, 3) := by decide +kernel
theorem ef_3 (m : MethodId) (b0 : Addr) (p1 : Int32) (p2 : Int32) : entryFrame m #[(.ref b0), (.int p1), (.int p2)] 6 = mkF m 0 #[.val (.ref b0), .val (.int p1), .val (.int p2), .unset, .unset, .unset] [] := by first | (simp [entryFrame, mkF, argsToLocals, Value.category]; done) | rfl
def Q3 (Z : State) (b0 : Addr) (p1 : Int32) (p2 : Int32) (f : Nat → Int32) (aa : Nat) (bb : Nat) (h0 : Heap) (n0 : Nat) (v : Option Value) (h : Heap) (L : List Loc) : Prop := ∃ r : Int32, v = some (.int r) ∧ (r.toInt = own_us f aa (bb - aa)) ∧ Fr n0 L ∧ h = h0
set_option maxRecDepth 65536 in
set_option maxHeartbeats 40000000 in
theorem rm3 (l : Launch) (Z : State) (a0 : Array Value) (hw : ∀ d ∈ tables_1, d.before a0 Z = true) (ws : List Jvm.Cond) (b0 : Addr) (p1 : Int32) (p2 : Int32) (f : Nat → Int32) (aa : Nat) (bb : Nat) (h0 : Heap) (n0 : Nat) (Z0 : n0 ≤ h0.size) (B_b0 : Ba Z h0 b0 .byte 8 f) (ha : p1.toInt = aa) (hb : p2.toInt = bb) (hab : aa ≤ bb) (hb8 : bb ≤ 8) :
    MetFree l (⟨"com/example/fieldpare/fieldpare/Utf8", "units", "([BII)I"⟩ : MethodName) (head1 (Jvm.Cond.code (⟨"com/example/fieldpare/fieldpare/Utf8", "units", "([BII)I"⟩ : MethodName) prog_60_method_6_code 6 (some .int) :: ws) ({ frames := 0, cells := 0, slots := 0, locals := 0 } : Room)) (fun a U => a = #[(.ref b0), (.int p1), (.int p2)] ∧ Z.Warmed39 U.vm ∧ U.heap = h0) (fun _ _ _ _ _ => True) (fun _ U o U' => ∃ v L, o = .returned v ∧ Q3 Z b0 p1 p2 f aa bb h0 n0 v U'.heap L ∧ FrameEnd U o U' L ({ frames := 0, cells := 0, slots := 0, locals := 0 } : Room).cells ({ frames := 0, cells := 0, slots := 0, locals := 0 } : Room).slots) := by
  refine MetFree.of_bodySF (plainFor_of_name pn_25196549) hisR ?_
  intro p e s m args below meth c s₁ Bd hml0 hP hK
  obtain ⟨rfl, hZ, hh⟩ := hP
  have C : Ctx p s m meth c Z "com/example/fieldpare/fieldpare/Utf8" "units" prog_60_method_6_code 6 (some .int) := Ctx.of Bd hml0 hZ
  have X0 : Stand p l e ({ frames := 0, cells := 0, slots := 0, locals := 0 } : Room) s m #[(.ref b0), (.int p1), (.int p2)] below meth c s₁ [] 0 0 := Stand.of_body Bd
  have e0 : s₁.heap = h0 := by rw [← hh, Bd.state]; rfl
  have N0 := Fr.nil n0
  refine Goes.enter (ef_3 m b0 p1 p2) ?_
  clear hK hml0 hh
  refine g_iconst 1 rfl C X0 (0 : Int32) d3_0 rfl ?_
  refine g_istoreN 2 rfl C X0 (0 : Int32) rfl #[.val (.ref b0), .val (.int p1), .val (.int p2), .val (.int (0 : Int32)), .unset, .unset] d3_1 rfl ?_
  refine g_iloadN 3 rfl C X0 d3_2 rfl ?_
  refine g_istore 5 rfl C X0 p1 rfl #[.val (.ref b0), .val (.int p1), .val (.int p2), .val (.int (0 : Int32)), .val (.int p1), .unset] d3_3 rfl ?_
  have loop : ∀ (k i : Nat) (vi acc x5 : Int32), vi.toInt = (i : Int) → i + k = bb → acc.toInt = own_us f aa (i - aa) → aa ≤ i → Goes p e below (EndN s (Q3 Z b0 p1 p2 f aa bb h0 n0) ({ frames := 0, cells := 0, slots := 0, locals := 0 } : Room).cells ({ frames := 0, cells := 0, slots := 0, locals := 0 } : Room).slots) s₁ m 5 #[.val (.ref b0), .val (.int p1), .val (.int p2), .val (.int acc), .val (.int vi), .val (.int x5)] [] := by
    intro k
    induction k with
    | zero =>
      intro i vi acc x5 hi hk hacc hai
      refine g_iload 7 rfl C X0 d3_5 rfl ?_
      refine g_iloadN 8 rfl C X0 d3_7 rfl ?_
      have hq2 : ¬ (vi.toInt < p2.toInt) := by
        have fr3 := rng32 vi
        have fr4 := rng32 p2
        omega
      refine g_icmp_ge_t 59 C X0 d3_8 (by decide) (by decide) hq2 ?_
      refine g_iloadN 60 rfl C X0 d3_59 rfl ?_
      have hend : acc.toInt = own_us f aa (bb - aa) := by
        have : bb = i := by omega
        rw [this]; exact hacc
      exact g_retI C X0 rfl d3_60 e0 (by decide) (by decide) ⟨_, rfl, hend, N0, rfl⟩
    | succ k ih =>
      intro i vi acc x5 hi hk hacc hai
      have hus := own_us_b f aa (i - aa)
      refine g_iload 7 rfl C X0 d3_5 rfl ?_
      refine g_iloadN 8 rfl C X0 d3_7 rfl ?_
      have hq6 : vi.toInt < p2.toInt := by
        have fr7 := rng32 vi
        have fr8 := rng32 p2
        omega
      refine g_icmp_ge_f 11 rfl C X0 d3_8 hq6 ?_
      refine g_aloadN 12 rfl C X0 d3_11 rfl rfl ?_
      refine g_iload 14 rfl C X0 d3_12 rfl ?_
      refine g_baload 15 rfl C X0 e0 B_b0 (i) hi (by omega) (f i) rfl d3_14 ?_
      refine g_sipush 18 rfl C X0 (255 : Int32) d3_15 rfl ?_
      refine g_iand 19 rfl C X0 d3_18 ?_
      obtain ⟨v9, hv9⟩ : ∃ z : Int32, ((f i) &&& (255 : Int32)) = z := ⟨_, rfl⟩
      refine g_istore 21 rfl C X0 v9 hv9 #[.val (.ref b0), .val (.int p1), .val (.int p2), .val (.int acc), .val (.int vi), .val (.int v9)] d3_19 rfl ?_
      refine g_iloadN 22 rfl C X0 d3_21 rfl ?_
      refine g_iload 24 rfl C X0 d3_22 rfl ?_
      refine g_sipush 27 rfl C X0 (192 : Int32) d3_24 rfl ?_
      refine g_iand 28 rfl C X0 d3_27 ?_
      refine g_sipush 31 rfl C X0 (128 : Int32) d3_28 rfl ?_
      by_cases hb10 : (v9 &&& (192 : Int32)).toInt = (128 : Int32).toInt
      · skip
        refine g_icmp_ne_f 34 rfl C X0 d3_31 hb10 ?_
        refine g_iconst 35 rfl C X0 (0 : Int32) d3_34 rfl ?_
        refine g_goto 51 C X0 d3_35 (by decide) (by decide) ?_
        have hw11 : own_wt (f i) = 0 := by
          have fr12 := rng32 vi
          have fr13 := rng32 p2
          have fr14 := rng32 v9
          have fr15 := rng32 (f i)
          have fc16 : (255 : Int32).toInt = 255 := rfl
          have fo17 : ((f i) &&& (255 : Int32)).toInt = (f i).toInt % 256 := c_mask (f i) (255 : Int32) 8 (by decide) (by decide)
          have fe18 : ((f i) &&& (255 : Int32)).toInt = v9.toInt := congrArg Int32.toInt hv9
          have fc19 : (192 : Int32).toInt = 192 := rfl
          have fc21 : (63 : Int32).toInt = 63 := rfl
          have fo22 : (v9 &&& (63 : Int32)).toInt = v9.toInt % 64 := c_mask v9 (63 : Int32) 6 (by decide) (by decide)
          have fo23 : (v9 &&& (255 : Int32)).toInt = v9.toInt % 256 := c_mask v9 (255 : Int32) 8 (by decide) (by decide)
          have fo20 := own_blk v9 (192 : Int32) (63 : Int32) (255 : Int32) (by decide) (by decide)
          have fo24 := c_and v9 (192 : Int32) (by decide)
          have fr25 := rng32 (v9 &&& (192 : Int32))
          have fc26 : (128 : Int32).toInt = 128 := rfl
          simp only [own_wt]; (repeat' split) <;> omega
        refine g_iadd 52 rfl C X0 d3_51 ?_
        obtain ⟨v27, hv27⟩ : ∃ z : Int32, (acc + (0 : Int32)) = z := ⟨_, rfl⟩
        refine g_istoreN 53 rfl C X0 v27 hv27 #[.val (.ref b0), .val (.int p1), .val (.int p2), .val (.int v27), .val (.int vi), .val (.int v9)] d3_52 rfl ?_
        obtain ⟨v28, hv28⟩ : ∃ z : Int32, (vi + (1 : Int32)) = z := ⟨_, rfl⟩
        refine g_iinc 56 rfl C X0 (1 : Int32) v28 #[.val (.ref b0), .val (.int p1), .val (.int p2), .val (.int v27), .val (.int v28), .val (.int v9)] d3_53 rfl rfl hv28 rfl ?_
        refine g_goto 5 C X0 d3_56 (by decide) (by decide) ?_
        have hq29 : v28.toInt = ((i + 1 : Nat) : Int) := by
          have fr30 := rng32 v28
          have fr31 := rng32 vi
          have fc32 : (1 : Int32).toInt = 1 := rfl
          have fo33 := c_iadd vi (1 : Int32)
          have fr34 := rng32 (vi + (1 : Int32))
          have fe35 : (vi + (1 : Int32)).toInt = v28.toInt := congrArg Int32.toInt hv28
          omega
        have hq36 : v27.toInt = own_us f aa (i + 1 - aa) := by
          rw [show i + 1 - aa = (i - aa) + 1 by omega]
          show _ = own_us f aa (i - aa) + own_wt (f (aa + (i - aa)))
          rw [show aa + (i - aa) = i by omega, ← hacc, hw11]
          have fr37 := rng32 v27
          have fr38 := rng32 acc
          have fc39 : (0 : Int32).toInt = 0 := rfl
          have fo40 := c_iadd acc (0 : Int32)
          have fr41 := rng32 (acc + (0 : Int32))
          have fe42 : (acc + (0 : Int32)).toInt = v27.toInt := congrArg Int32.toInt hv27
          omega
        exact ih (i + 1) v28 v27 v9 hq29 (by omega) hq36 (by omega)
      · skip
        refine g_icmp_ne_t 38 C X0 d3_31 (by decide) (by decide) hb10 ?_
        refine g_iload 40 rfl C X0 d3_38 rfl ?_
        refine g_sipush 43 rfl C X0 (240 : Int32) d3_40 rfl ?_
        by_cases hb43 : v9.toInt < (240 : Int32).toInt
        · skip
          refine g_icmp_lt_t 50 C X0 d3_43 (by decide) (by decide) hb43 ?_
          refine g_iconst 51 rfl C X0 (1 : Int32) d3_50 rfl ?_
          have hw44 : own_wt (f i) = 1 := by
            have fr45 := rng32 vi
            have fr46 := rng32 p2
            have fr47 := rng32 v9
            have fr48 := rng32 (f i)
            have fc49 : (255 : Int32).toInt = 255 := rfl
            have fo50 : ((f i) &&& (255 : Int32)).toInt = (f i).toInt % 256 := c_mask (f i) (255 : Int32) 8 (by decide) (by decide)
            have fe51 : ((f i) &&& (255 : Int32)).toInt = v9.toInt := congrArg Int32.toInt hv9
            have fc52 : (192 : Int32).toInt = 192 := rfl
            have fc54 : (63 : Int32).toInt = 63 := rfl
            have fo55 : (v9 &&& (63 : Int32)).toInt = v9.toInt % 64 := c_mask v9 (63 : Int32) 6 (by decide) (by decide)
            have fo56 : (v9 &&& (255 : Int32)).toInt = v9.toInt % 256 := c_mask v9 (255 : Int32) 8 (by decide) (by decide)
            have fo53 := own_blk v9 (192 : Int32) (63 : Int32) (255 : Int32) (by decide) (by decide)
            have fo57 := c_and v9 (192 : Int32) (by decide)
            have fr58 := rng32 (v9 &&& (192 : Int32))
            have fc59 : (128 : Int32).toInt = 128 := rfl
            have fc60 : (240 : Int32).toInt = 240 := rfl
            simp only [own_wt]; (repeat' split) <;> omega
          refine g_iadd 52 rfl C X0 d3_51 ?_
          obtain ⟨v61, hv61⟩ : ∃ z : Int32, (acc + (1 : Int32)) = z := ⟨_, rfl⟩
          refine g_istoreN 53 rfl C X0 v61 hv61 #[.val (.ref b0), .val (.int p1), .val (.int p2), .val (.int v61), .val (.int vi), .val (.int v9)] d3_52 rfl ?_
          obtain ⟨v62, hv62⟩ : ∃ z : Int32, (vi + (1 : Int32)) = z := ⟨_, rfl⟩
          refine g_iinc 56 rfl C X0 (1 : Int32) v62 #[.val (.ref b0), .val (.int p1), .val (.int p2), .val (.int v61), .val (.int v62), .val (.int v9)] d3_53 rfl rfl hv62 rfl ?_
          refine g_goto 5 C X0 d3_56 (by decide) (by decide) ?_
          have hq63 : v62.toInt = ((i + 1 : Nat) : Int) := by
            have fr64 := rng32 v62
            have fr65 := rng32 vi
            have fc66 : (1 : Int32).toInt = 1 := rfl
            have fo67 := c_iadd vi (1 : Int32)
            have fr68 := rng32 (vi + (1 : Int32))
            have fe69 : (vi + (1 : Int32)).toInt = v62.toInt := congrArg Int32.toInt hv62
            omega
          have hq70 : v61.toInt = own_us f aa (i + 1 - aa) := by
            rw [show i + 1 - aa = (i - aa) + 1 by omega]
            show _ = own_us f aa (i - aa) + own_wt (f (aa + (i - aa)))
            rw [show aa + (i - aa) = i by omega, ← hacc, hw44]
            have fr71 := rng32 v61
            have fr72 := rng32 acc
            have fc73 : (1 : Int32).toInt = 1 := rfl
            have fo74 := c_iadd acc (1 : Int32)
            have fr75 := rng32 (acc + (1 : Int32))
            have fe76 : (acc + (1 : Int32)).toInt = v61.toInt := congrArg Int32.toInt hv61
            have fc77 : (0 : Int32).toInt = 0 := rfl
            omega
          exact ih (i + 1) v62 v61 v9 hq63 (by omega) hq70 (by omega)
        · skip
          refine g_icmp_lt_f 46 rfl C X0 d3_43 hb43 ?_
          refine g_iconst 47 rfl C X0 (2 : Int32) d3_46 rfl ?_
          refine g_goto 51 C X0 d3_47 (by decide) (by decide) ?_
          have hw78 : own_wt (f i) = 2 := by
            have fr79 := rng32 vi
            have fr80 := rng32 p2
            have fr81 := rng32 v9
            have fr82 := rng32 (f i)
            have fc83 : (255 : Int32).toInt = 255 := rfl
            have fo84 : ((f i) &&& (255 : Int32)).toInt = (f i).toInt % 256 := c_mask (f i) (255 : Int32) 8 (by decide) (by decide)
            have fe85 : ((f i) &&& (255 : Int32)).toInt = v9.toInt := congrArg Int32.toInt hv9
            have fc86 : (192 : Int32).toInt = 192 := rfl
            have fc88 : (63 : Int32).toInt = 63 := rfl
            have fo89 : (v9 &&& (63 : Int32)).toInt = v9.toInt % 64 := c_mask v9 (63 : Int32) 6 (by decide) (by decide)
            have fo90 : (v9 &&& (255 : Int32)).toInt = v9.toInt % 256 := c_mask v9 (255 : Int32) 8 (by decide) (by decide)
            have fo87 := own_blk v9 (192 : Int32) (63 : Int32) (255 : Int32) (by decide) (by decide)
            have fo91 := c_and v9 (192 : Int32) (by decide)
            have fr92 := rng32 (v9 &&& (192 : Int32))
            have fc93 : (128 : Int32).toInt = 128 := rfl
            have fc94 : (240 : Int32).toInt = 240 := rfl
            simp only [own_wt]; (repeat' split) <;> omega
          refine g_iadd 52 rfl C X0 d3_51 ?_
          obtain ⟨v95, hv95⟩ : ∃ z : Int32, (acc + (2 : Int32)) = z := ⟨_, rfl⟩
          refine g_istoreN 53 rfl C X0 v95 hv95 #[.val (.ref b0), .val (.int p1), .val (.int p2), .val (.int v95), .val (.int vi), .val (.int v9)] d3_52 rfl ?_
          obtain ⟨v96, hv96⟩ : ∃ z : Int32, (vi + (1 : Int32)) = z := ⟨_, rfl⟩
          refine g_iinc 56 rfl C X0 (1 : Int32) v96 #[.val (.ref b0), .val (.int p1), .val (.int p2), .val (.int v95), .val (.int v96), .val (.int v9)] d3_53 rfl rfl hv96 rfl ?_
          refine g_goto 5 C X0 d3_56 (by decide) (by decide) ?_
          have hq97 : v96.toInt = ((i + 1 : Nat) : Int) := by
            have fr98 := rng32 v96
            have fr99 := rng32 vi
            have fc100 : (1 : Int32).toInt = 1 := rfl
            have fo101 := c_iadd vi (1 : Int32)
            have fr102 := rng32 (vi + (1 : Int32))
            have fe103 : (vi + (1 : Int32)).toInt = v96.toInt := congrArg Int32.toInt hv96
            omega
          have hq104 : v95.toInt = own_us f aa (i + 1 - aa) := by
            rw [show i + 1 - aa = (i - aa) + 1 by omega]
            show _ = own_us f aa (i - aa) + own_wt (f (aa + (i - aa)))
            rw [show aa + (i - aa) = i by omega, ← hacc, hw78]
            have fr105 := rng32 v95
            have fr106 := rng32 acc
            have fc107 : (2 : Int32).toInt = 2 := rfl
            have fo108 := c_iadd acc (2 : Int32)
            have fr109 := rng32 (acc + (2 : Int32))
            have fe110 : (acc + (2 : Int32)).toInt = v95.toInt := congrArg Int32.toInt hv95
            have fc111 : (0 : Int32).toInt = 0 := rfl
            omega
          exact ih (i + 1) v96 v95 v9 hq97 (by omega) hq104 (by omega)
  by_cases hab : aa < bb
  · skip
    have hacc0 : (0 : Int32).toInt = own_us f aa (aa - aa) := by rw [Nat.sub_self]; rfl
    refine g_iload 7 rfl C X0 d3_5 rfl ?_
    refine g_iloadN 8 rfl C X0 d3_7 rfl ?_
    have hq113 : p1.toInt < p2.toInt := by
      have fr114 := rng32 p1
      have fr115 := rng32 p2
      omega
    refine g_icmp_ge_f 11 rfl C X0 d3_8 hq113 ?_
    refine g_aloadN 12 rfl C X0 d3_11 rfl rfl ?_
    refine g_iload 14 rfl C X0 d3_12 rfl ?_
    refine g_baload 15 rfl C X0 e0 B_b0 (aa) ha (by omega) (f aa) rfl d3_14 ?_
    refine g_sipush 18 rfl C X0 (255 : Int32) d3_15 rfl ?_
    refine g_iand 19 rfl C X0 d3_18 ?_
    obtain ⟨v116, hv116⟩ : ∃ z : Int32, ((f aa) &&& (255 : Int32)) = z := ⟨_, rfl⟩
    refine g_istore 21 rfl C X0 v116 hv116 #[.val (.ref b0), .val (.int p1), .val (.int p2), .val (.int (0 : Int32)), .val (.int p1), .val (.int v116)] d3_19 rfl ?_
    refine g_iloadN 22 rfl C X0 d3_21 rfl ?_
    refine g_iload 24 rfl C X0 d3_22 rfl ?_
    refine g_sipush 27 rfl C X0 (192 : Int32) d3_24 rfl ?_
    refine g_iand 28 rfl C X0 d3_27 ?_
    refine g_sipush 31 rfl C X0 (128 : Int32) d3_28 rfl ?_
    by_cases hb117 : (v116 &&& (192 : Int32)).toInt = (128 : Int32).toInt
    · skip
      refine g_icmp_ne_f 34 rfl C X0 d3_31 hb117 ?_
      refine g_iconst 35 rfl C X0 (0 : Int32) d3_34 rfl ?_
      refine g_goto 51 C X0 d3_35 (by decide) (by decide) ?_
      have hw118 : own_wt (f aa) = 0 := by
        have fr119 := rng32 p1
        have fr120 := rng32 p2
        have fr121 := rng32 v116
        have fr122 := rng32 (f aa)
        have fc123 : (255 : Int32).toInt = 255 := rfl
        have fo124 : ((f aa) &&& (255 : Int32)).toInt = (f aa).toInt % 256 := c_mask (f aa) (255 : Int32) 8 (by decide) (by decide)
        have fe125 : ((f aa) &&& (255 : Int32)).toInt = v116.toInt := congrArg Int32.toInt hv116
        have fc126 : (192 : Int32).toInt = 192 := rfl
        have fc128 : (63 : Int32).toInt = 63 := rfl
        have fo129 : (v116 &&& (63 : Int32)).toInt = v116.toInt % 64 := c_mask v116 (63 : Int32) 6 (by decide) (by decide)
        have fo130 : (v116 &&& (255 : Int32)).toInt = v116.toInt % 256 := c_mask v116 (255 : Int32) 8 (by decide) (by decide)
        have fo127 := own_blk v116 (192 : Int32) (63 : Int32) (255 : Int32) (by decide) (by decide)
        have fo131 := c_and v116 (192 : Int32) (by decide)
        have fr132 := rng32 (v116 &&& (192 : Int32))
        have fc133 : (128 : Int32).toInt = 128 := rfl
        simp only [own_wt]; (repeat' split) <;> omega
      refine g_iadd 52 rfl C X0 d3_51 ?_
      refine g_istoreN 53 rfl C X0 (0 : Int32) (by decide) #[.val (.ref b0), .val (.int p1), .val (.int p2), .val (.int (0 : Int32)), .val (.int p1), .val (.int v116)] d3_52 rfl ?_
      obtain ⟨v134, hv134⟩ : ∃ z : Int32, (p1 + (1 : Int32)) = z := ⟨_, rfl⟩
      refine g_iinc 56 rfl C X0 (1 : Int32) v134 #[.val (.ref b0), .val (.int p1), .val (.int p2), .val (.int (0 : Int32)), .val (.int v134), .val (.int v116)] d3_53 rfl rfl hv134 rfl ?_
      refine g_goto 5 C X0 d3_56 (by decide) (by decide) ?_
      have hq135 : v134.toInt = ((aa + 1 : Nat) : Int) := by
        have fr136 := rng32 v134
        have fr137 := rng32 p1
        have fc138 : (1 : Int32).toInt = 1 := rfl
        have fo139 := c_iadd p1 (1 : Int32)
        have fr140 := rng32 (p1 + (1 : Int32))
        have fe141 : (p1 + (1 : Int32)).toInt = v134.toInt := congrArg Int32.toInt hv134
        omega
      have hq142 : (0 : Int32).toInt = own_us f aa (aa + 1 - aa) := by
        rw [show aa + 1 - aa = (aa - aa) + 1 by omega]
        show _ = own_us f aa (aa - aa) + own_wt (f (aa + (aa - aa)))
        rw [show aa + (aa - aa) = aa by omega, ← hacc0, hw118]
        have fc143 : (0 : Int32).toInt = 0 := rfl
        omega
      exact loop (bb - (aa + 1)) (aa + 1) v134 (0 : Int32) v116 hq135 (by omega) hq142 (by omega)
    · skip
      refine g_icmp_ne_t 38 C X0 d3_31 (by decide) (by decide) hb117 ?_
      refine g_iload 40 rfl C X0 d3_38 rfl ?_
      refine g_sipush 43 rfl C X0 (240 : Int32) d3_40 rfl ?_
      by_cases hb144 : v116.toInt < (240 : Int32).toInt
      · skip
        refine g_icmp_lt_t 50 C X0 d3_43 (by decide) (by decide) hb144 ?_
        refine g_iconst 51 rfl C X0 (1 : Int32) d3_50 rfl ?_
        have hw145 : own_wt (f aa) = 1 := by
          have fr146 := rng32 p1
          have fr147 := rng32 p2
          have fr148 := rng32 v116
          have fr149 := rng32 (f aa)
          have fc150 : (255 : Int32).toInt = 255 := rfl
          have fo151 : ((f aa) &&& (255 : Int32)).toInt = (f aa).toInt % 256 := c_mask (f aa) (255 : Int32) 8 (by decide) (by decide)
          have fe152 : ((f aa) &&& (255 : Int32)).toInt = v116.toInt := congrArg Int32.toInt hv116
          have fc153 : (192 : Int32).toInt = 192 := rfl
          have fc155 : (63 : Int32).toInt = 63 := rfl
          have fo156 : (v116 &&& (63 : Int32)).toInt = v116.toInt % 64 := c_mask v116 (63 : Int32) 6 (by decide) (by decide)
          have fo157 : (v116 &&& (255 : Int32)).toInt = v116.toInt % 256 := c_mask v116 (255 : Int32) 8 (by decide) (by decide)
          have fo154 := own_blk v116 (192 : Int32) (63 : Int32) (255 : Int32) (by decide) (by decide)
          have fo158 := c_and v116 (192 : Int32) (by decide)
          have fr159 := rng32 (v116 &&& (192 : Int32))
          have fc160 : (128 : Int32).toInt = 128 := rfl
          have fc161 : (240 : Int32).toInt = 240 := rfl
          simp only [own_wt]; (repeat' split) <;> omega
        refine g_iadd 52 rfl C X0 d3_51 ?_
        refine g_istoreN 53 rfl C X0 (1 : Int32) (by decide) #[.val (.ref b0), .val (.int p1), .val (.int p2), .val (.int (1 : Int32)), .val (.int p1), .val (.int v116)] d3_52 rfl ?_
        obtain ⟨v162, hv162⟩ : ∃ z : Int32, (p1 + (1 : Int32)) = z := ⟨_, rfl⟩
        refine g_iinc 56 rfl C X0 (1 : Int32) v162 #[.val (.ref b0), .val (.int p1), .val (.int p2), .val (.int (1 : Int32)), .val (.int v162), .val (.int v116)] d3_53 rfl rfl hv162 rfl ?_
        refine g_goto 5 C X0 d3_56 (by decide) (by decide) ?_
        have hq163 : v162.toInt = ((aa + 1 : Nat) : Int) := by
          have fr164 := rng32 v162
          have fr165 := rng32 p1
          have fc166 : (1 : Int32).toInt = 1 := rfl
          have fo167 := c_iadd p1 (1 : Int32)
          have fr168 := rng32 (p1 + (1 : Int32))
          have fe169 : (p1 + (1 : Int32)).toInt = v162.toInt := congrArg Int32.toInt hv162
          omega
        have hq170 : (1 : Int32).toInt = own_us f aa (aa + 1 - aa) := by
          rw [show aa + 1 - aa = (aa - aa) + 1 by omega]
          show _ = own_us f aa (aa - aa) + own_wt (f (aa + (aa - aa)))
          rw [show aa + (aa - aa) = aa by omega, ← hacc0, hw145]
          have fc171 : (1 : Int32).toInt = 1 := rfl
          have fc172 : (0 : Int32).toInt = 0 := rfl
          omega
        exact loop (bb - (aa + 1)) (aa + 1) v162 (1 : Int32) v116 hq163 (by omega) hq170 (by omega)
      · skip
        refine g_icmp_lt_f 46 rfl C X0 d3_43 hb144 ?_
        refine g_iconst 47 rfl C X0 (2 : Int32) d3_46 rfl ?_
        refine g_goto 51 C X0 d3_47 (by decide) (by decide) ?_
        have hw173 : own_wt (f aa) = 2 := by
          have fr174 := rng32 p1
          have fr175 := rng32 p2
          have fr176 := rng32 v116
          have fr177 := rng32 (f aa)
          have fc178 : (255 : Int32).toInt = 255 := rfl
          have fo179 : ((f aa) &&& (255 : Int32)).toInt = (f aa).toInt % 256 := c_mask (f aa) (255 : Int32) 8 (by decide) (by decide)
          have fe180 : ((f aa) &&& (255 : Int32)).toInt = v116.toInt := congrArg Int32.toInt hv116
          have fc181 : (192 : Int32).toInt = 192 := rfl
          have fc183 : (63 : Int32).toInt = 63 := rfl
          have fo184 : (v116 &&& (63 : Int32)).toInt = v116.toInt % 64 := c_mask v116 (63 : Int32) 6 (by decide) (by decide)
          have fo185 : (v116 &&& (255 : Int32)).toInt = v116.toInt % 256 := c_mask v116 (255 : Int32) 8 (by decide) (by decide)
          have fo182 := own_blk v116 (192 : Int32) (63 : Int32) (255 : Int32) (by decide) (by decide)
          have fo186 := c_and v116 (192 : Int32) (by decide)
          have fr187 := rng32 (v116 &&& (192 : Int32))
          have fc188 : (128 : Int32).toInt = 128 := rfl
          have fc189 : (240 : Int32).toInt = 240 := rfl
          simp only [own_wt]; (repeat' split) <;> omega
        refine g_iadd 52 rfl C X0 d3_51 ?_
        refine g_istoreN 53 rfl C X0 (2 : Int32) (by decide) #[.val (.ref b0), .val (.int p1), .val (.int p2), .val (.int (2 : Int32)), .val (.int p1), .val (.int v116)] d3_52 rfl ?_
        obtain ⟨v190, hv190⟩ : ∃ z : Int32, (p1 + (1 : Int32)) = z := ⟨_, rfl⟩
        refine g_iinc 56 rfl C X0 (1 : Int32) v190 #[.val (.ref b0), .val (.int p1), .val (.int p2), .val (.int (2 : Int32)), .val (.int v190), .val (.int v116)] d3_53 rfl rfl hv190 rfl ?_
        refine g_goto 5 C X0 d3_56 (by decide) (by decide) ?_
        have hq191 : v190.toInt = ((aa + 1 : Nat) : Int) := by
          have fr192 := rng32 v190
          have fr193 := rng32 p1
          have fc194 : (1 : Int32).toInt = 1 := rfl
          have fo195 := c_iadd p1 (1 : Int32)
          have fr196 := rng32 (p1 + (1 : Int32))
          have fe197 : (p1 + (1 : Int32)).toInt = v190.toInt := congrArg Int32.toInt hv190
          omega
        have hq198 : (2 : Int32).toInt = own_us f aa (aa + 1 - aa) := by
          rw [show aa + 1 - aa = (aa - aa) + 1 by omega]
          show _ = own_us f aa (aa - aa) + own_wt (f (aa + (aa - aa)))
          rw [show aa + (aa - aa) = aa by omega, ← hacc0, hw173]
          have fc199 : (2 : Int32).toInt = 2 := rfl
          have fc200 : (0 : Int32).toInt = 0 := rfl
          omega
        exact loop (bb - (aa + 1)) (aa + 1) v190 (2 : Int32) v116 hq191 (by omega) hq198 (by omega)
  · skip
    have hacc0 : (0 : Int32).toInt = own_us f aa (aa - aa) := by rw [Nat.sub_self]; rfl
    refine g_iload 7 rfl C X0 d3_5 rfl ?_
    refine g_iloadN 8 rfl C X0 d3_7 rfl ?_
    have hq202 : ¬ (p1.toInt < p2.toInt) := by
      have fr203 := rng32 p1
      have fr204 := rng32 p2
      omega
    refine g_icmp_ge_t 59 C X0 d3_8 (by decide) (by decide) hq202 ?_
    refine g_iloadN 60 rfl C X0 d3_59 rfl ?_
    have hend : (0 : Int32).toInt = own_us f aa (bb - aa) := by
      have : bb = aa := by omega
      rw [this]; exact hacc0
    exact g_retI C X0 rfl d3_60 e0 (by decide) (by decide) ⟨_, rfl, hend, N0, rfl⟩
theorem own_wtc {x y : Int32} (q : x.toInt = y.toInt) : own_wt x = own_wt y := by rw [Int32.toInt_inj.mp q]
theorem pd_1793237 : parseMethodDescriptor "(II)I" = some ⟨[.int, .int], some .int⟩ := by decide +kernel
theorem pd_30946454 : parseMethodDescriptor "(I[BI)I" = some ⟨[.int, (.array .byte), .int], some .int⟩ := by decide +kernel
theorem pd_14998784 : parseMethodDescriptor "([BII)I" = some ⟨[(.array .byte), .int, .int], some .int⟩ := by decide +kernel
theorem ef_0 (m : MethodId) (p0 : Int32) (p1 : Int32) (p2 : Int32) (p3 : Int32) : entryFrame m #[(.int p0), (.int p1), (.int p2), (.int p3)] maxLocals = mkF m 0 #[.val (.int p0), .val (.int p1), .val (.int p2), .val (.int p3), .unset, .unset, .unset, .unset, .unset, .unset, .unset, .unset, .unset, .unset, .unset, .unset, .unset, .unset] [] := by first | (simp [entryFrame, mkF, argsToLocals, Value.category, maxLocals]; done) | rfl
def Q0 (Z : State) (p0 : Int32) (p1 : Int32) (p2 : Int32) (p3 : Int32) (h0 : Heap) (n0 : Nat) (v : Option Value) (h : Heap) (L : List Loc) : Prop := v = some (.int 1) ∧ Fr n0 L
set_option maxRecDepth 65536 in
set_option maxHeartbeats 40000000 in
theorem rm0 (l : Launch) (Z : State) (a0 : Array Value) (hw : ∀ d ∈ tables_1, d.before a0 Z = true) (ws : List Jvm.Cond) (p0 : Int32) (p1 : Int32) (p2 : Int32) (p3 : Int32) (h0 : Heap) (n0 : Nat) (Z0 : n0 ≤ h0.size) :
    MetFree l x (head1 (Jvm.Cond.code x code maxLocals ret :: ws) room_1) (fun a U => a = #[(.int p0), (.int p1), (.int p2), (.int p3)] ∧ Z.Warmed39 U.vm ∧ U.heap = h0) (fun _ _ _ _ _ => True) (fun _ U o U' => ∃ v L, o = .returned v ∧ Q0 Z p0 p1 p2 p3 h0 n0 v U'.heap L ∧ FrameEnd U o U' L 16 128) := by
  refine MetFree.of_bodySF (plainFor_of_name pn_1313303) hisR ?_
  intro p e s m args below meth c s₁ Bd hml0 hP hK
  obtain ⟨rfl, hZ, hh⟩ := hP
  have C : Ctx p s m meth c Z "com/example/fieldpare/fieldpare/Utf8UnitsPinLaw" "law" code maxLocals ret := Ctx.of Bd hml0 hZ
  have X0 : Stand p l e room_1 s m #[(.int p0), (.int p1), (.int p2), (.int p3)] below meth c s₁ [] 0 0 := Stand.of_body Bd
  have e0 : s₁.heap = h0 := by rw [← hh, Bd.state]; rfl
  have N0 := Fr.nil n0
  refine Goes.enter (ef_0 m p0 p1 p2 p3) ?_
  clear hK hml0 hh
  refine g_bipush 2 rfl C X0 (8 : Int32) at_0 rfl ?_
  refine g_newP 4 rfl C X0 8 (by decide) 8 (by decide) (by decide) rfl (hw _ (List.mem_of_getElem? (i := 0) rfl)) e0 at_2 (by decide) (by decide) fun T1 h2 o3 g4 X5 e6 E7 B8 => ?_
  have gn9 : n0 ≤ o3 := by rw [g4]; exact Z0
  have Zs10 := Nat.le_trans Z0 E7.1
  refine g_astore 6 rfl C X5 #[.val (.int p0), .val (.int p1), .val (.int p2), .val (.int p3), .val (.ref o3), .unset, .unset, .unset, .unset, .unset, .unset, .unset, .unset, .unset, .unset, .unset, .unset, .unset] at_4 rfl rfl ?_
  refine g_iloadN 7 rfl C X5 at_6 rfl ?_
  refine g_iconst 8 rfl C X5 (3 : Int32) at_7 rfl ?_
  refine g_iand 9 rfl C X5 at_8 ?_
  refine g_iloadN 10 rfl C X5 at_9 rfl ?_
  refine g_callS 13 rfl C X5 (argsL := [(.int (p2 &&& (3 : Int32))), (.int p0)]) (hw _ (List.mem_of_getElem? (i := 1) rfl)) (hw _ (List.mem_of_getElem? (i := 2) rfl)) (hw _ (List.mem_of_getElem? (i := 4) rfl)) (hw _ (List.mem_of_getElem? (i := 3) rfl)) e6 (rm1 l Z a0 hw [] (p2 &&& (3 : Int32)) p0 h2 n0 Zs10) (lenOf pd_1793237 rfl) (by decide) (by decide) (by decide) (by decide) rfl (W := 0) (Nat.le_of_eq rfl) (by decide) at_10 rfl fun r11 T12 Lc13 X14 hQ15 => ?_
  obtain ⟨r16, rfl, hs17, Nq18, eh19⟩ := hQ15
  have N20 := Fr.app N0 Nq18
  show Goes _ _ _ _ _ _ 13 _ [(.int r16)]
  refine g_istore 15 rfl C X14 r16 rfl #[.val (.int p0), .val (.int p1), .val (.int p2), .val (.int p3), .val (.ref o3), .val (.int r16), .unset, .unset, .unset, .unset, .unset, .unset, .unset, .unset, .unset, .unset, .unset, .unset] at_13 rfl ?_
  refine g_iloadN 16 rfl C X14 at_15 rfl ?_
  refine g_iconst 17 rfl C X14 (2 : Int32) at_16 rfl ?_
  refine g_iushr 18 rfl C X14 at_17 ?_
  refine g_iconst 19 rfl C X14 (3 : Int32) at_18 rfl ?_
  refine g_iand 20 rfl C X14 at_19 ?_
  refine g_iloadN 21 rfl C X14 at_20 rfl ?_
  refine g_callS 24 rfl C X14 (argsL := [(.int ((((p2).toUInt32 >>> ((2 : Int32) &&& 31).toUInt32).toInt32) &&& (3 : Int32))), (.int p1)]) (hw _ (List.mem_of_getElem? (i := 1) rfl)) (hw _ (List.mem_of_getElem? (i := 2) rfl)) (hw _ (List.mem_of_getElem? (i := 4) rfl)) (hw _ (List.mem_of_getElem? (i := 3) rfl)) eh19 (rm1 l Z a0 hw [] ((((p2).toUInt32 >>> ((2 : Int32) &&& 31).toUInt32).toInt32) &&& (3 : Int32)) p1 h2 n0 Zs10) (lenOf pd_1793237 rfl) (by decide) (by decide) (by decide) (by decide) rfl (W := 0) (Nat.le_of_eq rfl) (by decide) at_21 rfl fun r21 T22 Lc23 X24 hQ25 => ?_
  obtain ⟨r26, rfl, hs27, Nq28, eh29⟩ := hQ25
  have N30 := Fr.app N20 Nq28
  show Goes _ _ _ _ _ _ 24 _ [(.int r26)]
  refine g_istore 26 rfl C X24 r26 rfl #[.val (.int p0), .val (.int p1), .val (.int p2), .val (.int p3), .val (.ref o3), .val (.int r16), .val (.int r26), .unset, .unset, .unset, .unset, .unset, .unset, .unset, .unset, .unset, .unset, .unset] at_24 rfl ?_
  refine g_iload 28 rfl C X24 at_26 rfl ?_
  refine g_aload 30 rfl C X24 at_28 rfl rfl ?_
  refine g_iconst 31 rfl C X24 (0 : Int32) at_30 rfl ?_
  have hq31 : 0 ≤ r16.toInt ∧ r16.toInt < 1114112 := by
    omega
  refine g_callS 34 rfl C X24 (argsL := [(.int r16), (.ref o3), (.int (0 : Int32))]) (hw _ (List.mem_of_getElem? (i := 7) rfl)) (hw _ (List.mem_of_getElem? (i := 8) rfl)) (hw _ (List.mem_of_getElem? (i := 10) rfl)) (hw _ (List.mem_of_getElem? (i := 9) rfl)) eh29 (rm2 l Z a0 hw [] r16 o3 (0 : Int32) (fun _ => 0) 0 h2 n0 Zs10 B8 rfl (by omega) hq31 gn9) (lenOf pd_30946454 rfl) (by decide) (by decide) (by decide) (by decide) rfl (W := 0) (Nat.le_of_eq rfl) (by decide) at_31 rfl fun r32 T33 Lc34 X35 hQ36 => ?_
  obtain ⟨f37, q38, rfl, hq39, hl40, hc41, hk42, Nq43, Kc44, B45⟩ := hQ36
  have Zs46 := Nat.le_trans Zs10 Kc44.1
  obtain ⟨v47, hv47⟩ : ∃ z : Int32, Int32.ofNat q38 = z := ⟨_, rfl⟩
  rw [hv47]
  have hnv47 : v47.toInt = q38 := by rw [← hv47]; exact Int32.toInt_ofNat_small (by omega)
  have N48 := Fr.app N30 Nq43
  show Goes _ _ _ _ _ _ 34 _ [(.int v47)]
  refine g_istore 36 rfl C X35 v47 rfl #[.val (.int p0), .val (.int p1), .val (.int p2), .val (.int p3), .val (.ref o3), .val (.int r16), .val (.int r26), .val (.int v47), .unset, .unset, .unset, .unset, .unset, .unset, .unset, .unset, .unset, .unset] at_34 rfl ?_
  refine g_iload 38 rfl C X35 at_36 rfl ?_
  refine g_aload 40 rfl C X35 at_38 rfl rfl ?_
  refine g_iload 42 rfl C X35 at_40 rfl ?_
  have hq49 : 0 ≤ r26.toInt ∧ r26.toInt < 1114112 := by
    omega
  refine g_callS 45 rfl C X35 (argsL := [(.int r26), (.ref o3), (.int v47)]) (hw _ (List.mem_of_getElem? (i := 7) rfl)) (hw _ (List.mem_of_getElem? (i := 8) rfl)) (hw _ (List.mem_of_getElem? (i := 10) rfl)) (hw _ (List.mem_of_getElem? (i := 9) rfl)) rfl (rm2 l Z a0 hw [] r26 o3 v47 f37 q38 (T33.heap) n0 Zs46 B45 hnv47 (by omega) hq49 gn9) (lenOf pd_30946454 rfl) (by decide) (by decide) (by decide) (by decide) rfl (W := 0) (Nat.le_of_eq rfl) (by decide) at_42 rfl fun r50 T51 Lc52 X53 hQ54 => ?_
  obtain ⟨f55, q56, rfl, hq57, hl58, hc59, hk60, Nq61, Kc62, B63⟩ := hQ54
  have Zs64 := Nat.le_trans Zs46 Kc62.1
  obtain ⟨v65, hv65⟩ : ∃ z : Int32, Int32.ofNat q56 = z := ⟨_, rfl⟩
  rw [hv65]
  have hnv65 : v65.toInt = q56 := by rw [← hv65]; exact Int32.toInt_ofNat_small (by omega)
  have N66 := Fr.app N48 Nq61
  show Goes _ _ _ _ _ _ 45 _ [(.int v65)]
  refine g_istore 47 rfl C X53 v65 rfl #[.val (.int p0), .val (.int p1), .val (.int p2), .val (.int p3), .val (.ref o3), .val (.int r16), .val (.int r26), .val (.int v47), .val (.int v65), .unset, .unset, .unset, .unset, .unset, .unset, .unset, .unset, .unset] at_45 rfl ?_
  refine g_iload 49 rfl C X53 at_47 rfl ?_
  refine g_iload 51 rfl C X53 at_49 rfl ?_
  refine g_iadd 52 rfl C X53 at_51 ?_
  obtain ⟨v67, hv67⟩ : ∃ z : Int32, (v47 + v65) = z := ⟨_, rfl⟩
  refine g_istore 54 rfl C X53 v67 hv67 #[.val (.int p0), .val (.int p1), .val (.int p2), .val (.int p3), .val (.ref o3), .val (.int r16), .val (.int r26), .val (.int v47), .val (.int v65), .val (.int v67), .unset, .unset, .unset, .unset, .unset, .unset, .unset, .unset] at_52 rfl ?_
  refine g_iload 56 rfl C X53 at_54 rfl ?_
  refine g_ldc 58 rfl C X53 (hw _ (List.mem_of_getElem? (i := 12) rfl)) at_56 ?_
  by_cases hb68 : r16.toInt < (65536 : Int32).toInt
  · skip
    refine g_icmp_lt_t 65 C X53 at_58 (by decide) (by decide) hb68 ?_
    refine g_iconst 66 rfl C X53 (1 : Int32) at_65 rfl ?_
    refine g_istore 68 rfl C X53 (1 : Int32) rfl #[.val (.int p0), .val (.int p1), .val (.int p2), .val (.int p3), .val (.ref o3), .val (.int r16), .val (.int r26), .val (.int v47), .val (.int v65), .val (.int v67), .val (.int (1 : Int32)), .unset, .unset, .unset, .unset, .unset, .unset, .unset] at_66 rfl ?_
    refine g_iload 70 rfl C X53 at_68 rfl ?_
    refine g_ldc 72 rfl C X53 (hw _ (List.mem_of_getElem? (i := 12) rfl)) at_70 ?_
    by_cases hb69 : r26.toInt < (65536 : Int32).toInt
    · skip
      refine g_icmp_lt_t 79 C X53 at_72 (by decide) (by decide) hb69 ?_
      refine g_iconst 80 rfl C X53 (1 : Int32) at_79 rfl ?_
      refine g_istore 82 rfl C X53 (1 : Int32) rfl #[.val (.int p0), .val (.int p1), .val (.int p2), .val (.int p3), .val (.ref o3), .val (.int r16), .val (.int r26), .val (.int v47), .val (.int v65), .val (.int v67), .val (.int (1 : Int32)), .val (.int (1 : Int32)), .unset, .unset, .unset, .unset, .unset, .unset] at_80 rfl ?_
      refine g_iloadN 83 rfl C X53 at_82 rfl ?_
      refine g_ldc 85 rfl C X53 (hw _ (List.mem_of_getElem? (i := 5) rfl)) at_83 ?_
      refine g_iand 86 rfl C X53 at_85 ?_
      refine g_iload 88 rfl C X53 at_86 rfl ?_
      refine g_iconst 89 rfl C X53 (1 : Int32) at_88 rfl ?_
      refine g_iadd 90 rfl C X53 at_89 ?_
      have hq70 : (v67 + (1 : Int32)).toInt ≠ 0 := by
        have fr71 := rng32 v67
        have fr72 := rng32 v47
        have fr73 := rng32 v65
        have fo74 := c_iadd v47 v65
        have fr75 := rng32 (v47 + v65)
        have fe76 : (v47 + v65).toInt = v67.toInt := congrArg Int32.toInt hv67
        have fc77 : (1 : Int32).toInt = 1 := rfl
        have fo78 := c_iadd v67 (1 : Int32)
        have fr79 := rng32 (v67 + (1 : Int32))
        omega
      refine g_irem 91 rfl C X53 at_90 (fun r => hq70 (by rw [r]; rfl)) ?_
      obtain ⟨v80, hv80⟩ : ∃ z : Int32, ((p3 &&& (2147483647 : Int32)) % (v67 + (1 : Int32))) = z := ⟨_, rfl⟩
      refine g_istore 93 rfl C X53 v80 hv80 #[.val (.int p0), .val (.int p1), .val (.int p2), .val (.int p3), .val (.ref o3), .val (.int r16), .val (.int r26), .val (.int v47), .val (.int v65), .val (.int v67), .val (.int (1 : Int32)), .val (.int (1 : Int32)), .val (.int v80), .unset, .unset, .unset, .unset, .unset] at_91 rfl ?_
      refine g_iload 95 rfl C X53 at_93 rfl ?_
      by_cases hb81 : v80.toInt = 0
      · skip
        refine g_if_ne_f 98 rfl C X53 at_95 hb81 ?_
        refine g_iconst 99 rfl C X53 (0 : Int32) at_98 rfl ?_
        refine g_goto 119 C X53 at_99 (by decide) (by decide) ?_
        refine g_istore 121 rfl C X53 (0 : Int32) rfl #[.val (.int p0), .val (.int p1), .val (.int p2), .val (.int p3), .val (.ref o3), .val (.int r16), .val (.int r26), .val (.int v47), .val (.int v65), .val (.int v67), .val (.int (1 : Int32)), .val (.int (1 : Int32)), .val (.int v80), .val (.int (0 : Int32)), .unset, .unset, .unset, .unset] at_119 rfl ?_
        refine g_iload 123 rfl C X53 at_121 rfl ?_
        refine g_if_ne_f 126 rfl C X53 at_123 hb81 ?_
        refine g_iload 128 rfl C X53 at_126 rfl ?_
        refine g_iload 130 rfl C X53 at_128 rfl ?_
        refine g_iadd 131 rfl C X53 at_130 ?_
        refine g_goto 147 C X53 at_131 (by decide) (by decide) ?_
        refine g_istore 149 rfl C X53 (2 : Int32) (by decide) #[.val (.int p0), .val (.int p1), .val (.int p2), .val (.int p3), .val (.ref o3), .val (.int r16), .val (.int r26), .val (.int v47), .val (.int v65), .val (.int v67), .val (.int (1 : Int32)), .val (.int (1 : Int32)), .val (.int v80), .val (.int (0 : Int32)), .val (.int (2 : Int32)), .unset, .unset, .unset] at_147 rfl ?_
        refine g_aload 151 rfl C X53 at_149 rfl rfl ?_
        refine g_iconst 152 rfl C X53 (0 : Int32) at_151 rfl ?_
        refine g_iload 154 rfl C X53 at_152 rfl ?_
        have hq83 : 0 ≤ v80.toInt ∧ v80.toInt ≤ ((q38 + q56 : Nat) : Int) := by
          have hrem := c_iremV (p3 &&& (2147483647 : Int32)) (v67 + (1 : Int32))
          have fr84 := rng32 p3
          have fc85 : (2147483647 : Int32).toInt = 2147483647 := rfl
          have fo86 : (p3 &&& (2147483647 : Int32)).toInt = p3.toInt % 2147483648 := c_mask p3 (2147483647 : Int32) 31 (by decide) (by decide)
          have fr87 := rng32 v67
          have fr88 := rng32 v47
          have fr89 := rng32 v65
          have fo90 := c_iadd v47 v65
          have fr91 := rng32 (v47 + v65)
          have fe92 : (v47 + v65).toInt = v67.toInt := congrArg Int32.toInt hv67
          have fc93 : (1 : Int32).toInt = 1 := rfl
          have fo94 := c_iadd v67 (1 : Int32)
          have fr95 := rng32 (v67 + (1 : Int32))
          have fr96 := rng32 v80
          have fr98 := rng32 ((p3 &&& (2147483647 : Int32)) % (v67 + (1 : Int32)))
          have fe99 : ((p3 &&& (2147483647 : Int32)) % (v67 + (1 : Int32))).toInt = v80.toInt := congrArg Int32.toInt hv80
          omega
        obtain ⟨n82, hn82⟩ : ∃ n : Nat, v80.toInt = n := ⟨v80.toInt.toNat, by omega⟩
        have hn82m : n82 ≤ q38 + q56 := by omega
        have ha100 : own_wt (f55 0) = (if r16.toInt < 65536 then 1 else 2) := by rw [← hl40]; exact own_wtc (hk60 0 (by omega))
        have ha101 : ∀ j, 0 < j → j < q38 → own_wt (f55 j) = 0 := fun j r1 r2 => by rw [own_wtc (hk60 j (by omega))]; exact hc41 j r1 (by omega)
        refine g_callS 157 rfl C X53 (argsL := [(.ref o3), (.int (0 : Int32)), (.int v80)]) (hw _ (List.mem_of_getElem? (i := 13) rfl)) (hw _ (List.mem_of_getElem? (i := 14) rfl)) (hw _ (List.mem_of_getElem? (i := 15) rfl)) (hw _ (List.mem_of_getElem? (i := 9) rfl)) rfl (rm3 l Z a0 hw [] o3 (0 : Int32) v80 f55 0 n82 (T51.heap) n0 Zs64 B63 rfl hn82 (by omega) (by omega)) (lenOf pd_14998784 rfl) (by decide) (by decide) (by decide) (by decide) rfl (W := 0) (Nat.le_of_eq rfl) (by decide) at_154 rfl fun r102 T103 Lc104 X105 hQ106 => ?_
        obtain ⟨r107, rfl, hs108, Nq109, eh110⟩ := hQ106
        have N111 := Fr.app N66 Nq109
        show Goes _ _ _ _ _ _ 157 _ [(.int r107)]
        refine g_iload 159 rfl C X105 at_157 rfl ?_
        have hq113 : r107.toInt = (0 : Int32).toInt := by
          have hp := own_pre f55 q38 q56 n82 _ _ (by omega) (by omega) ha100 ha101 hl58 hc59 (by omega)
          rw [Nat.sub_zero] at hs108
          have i1 : (if r16.toInt < 65536 then (1 : Int) else 2) = 1 ∧ r16.toInt < 65536 ∨ (if r16.toInt < 65536 then (1 : Int) else 2) = 2 ∧ ¬ r16.toInt < 65536 := by split <;> omega
          have i2 : (if r26.toInt < 65536 then (1 : Int) else 2) = 1 ∧ r26.toInt < 65536 ∨ (if r26.toInt < 65536 then (1 : Int) else 2) = 2 ∧ ¬ r26.toInt < 65536 := by split <;> omega
          have fr114 := rng32 r107
          have fc115 : (0 : Int32).toInt = 0 := rfl
          have fc116 : (65536 : Int32).toInt = 65536 := rfl
          have fc117 : (1 : Int32).toInt = 1 := rfl
          have fc118 : (2 : Int32).toInt = 2 := rfl
          omega
        refine g_icmp_ne_f 162 rfl C X105 at_159 hq113 ?_
        clear hs108
        refine g_iconst 163 rfl C X105 (1 : Int32) at_162 rfl ?_
        refine g_goto 167 C X105 at_163 (by decide) (by decide) ?_
        refine g_istore 169 rfl C X105 (1 : Int32) rfl #[.val (.int p0), .val (.int p1), .val (.int p2), .val (.int p3), .val (.ref o3), .val (.int r16), .val (.int r26), .val (.int v47), .val (.int v65), .val (.int v67), .val (.int (1 : Int32)), .val (.int (1 : Int32)), .val (.int v80), .val (.int (0 : Int32)), .val (.int (2 : Int32)), .val (.int (1 : Int32)), .unset, .unset] at_167 rfl ?_
        refine g_aload 171 rfl C X105 at_169 rfl rfl ?_
        refine g_iload 173 rfl C X105 at_171 rfl ?_
        refine g_iload 175 rfl C X105 at_173 rfl ?_
        have hq119 : v67.toInt = ((q38 + q56 : Nat) : Int) := by
          have fr120 := rng32 v67
          have fr121 := rng32 v47
          have fr122 := rng32 v65
          have fo123 := c_iadd v47 v65
          have fr124 := rng32 (v47 + v65)
          have fe125 : (v47 + v65).toInt = v67.toInt := congrArg Int32.toInt hv67
          omega
        refine g_callS 178 rfl C X105 (argsL := [(.ref o3), (.int v80), (.int v67)]) (hw _ (List.mem_of_getElem? (i := 13) rfl)) (hw _ (List.mem_of_getElem? (i := 14) rfl)) (hw _ (List.mem_of_getElem? (i := 15) rfl)) (hw _ (List.mem_of_getElem? (i := 9) rfl)) eh110 (rm3 l Z a0 hw [] o3 v80 v67 f55 n82 (q38 + q56) (T51.heap) n0 Zs64 B63 hn82 hq119 (by omega) (by omega)) (lenOf pd_14998784 rfl) (by decide) (by decide) (by decide) (by decide) rfl (W := 0) (Nat.le_of_eq rfl) (by decide) at_175 rfl fun r126 T127 Lc128 X129 hQ130 => ?_
        obtain ⟨r131, rfl, hs132, Nq133, eh134⟩ := hQ130
        have N135 := Fr.app N111 Nq133
        show Goes _ _ _ _ _ _ 178 _ [(.int r131)]
        refine g_iload 180 rfl C X129 at_178 rfl ?_
        have hq137 : r131.toInt = (2 : Int32).toInt := by
          have hp := own_suf f55 q38 q56 n82 _ _ (by omega) (by omega) ha100 ha101 hl58 hc59 (by omega)
          have i1 : (if r16.toInt < 65536 then (1 : Int) else 2) = 1 ∧ r16.toInt < 65536 ∨ (if r16.toInt < 65536 then (1 : Int) else 2) = 2 ∧ ¬ r16.toInt < 65536 := by split <;> omega
          have i2 : (if r26.toInt < 65536 then (1 : Int) else 2) = 1 ∧ r26.toInt < 65536 ∨ (if r26.toInt < 65536 then (1 : Int) else 2) = 2 ∧ ¬ r26.toInt < 65536 := by split <;> omega
          have fr138 := rng32 r131
          have fc139 : (2 : Int32).toInt = 2 := rfl
          have fc140 : (65536 : Int32).toInt = 65536 := rfl
          have fc141 : (0 : Int32).toInt = 0 := rfl
          have fc142 : (1 : Int32).toInt = 1 := rfl
          omega
        refine g_icmp_ne_f 183 rfl C X129 at_180 hq137 ?_
        clear hs132
        refine g_iconst 184 rfl C X129 (1 : Int32) at_183 rfl ?_
        refine g_goto 188 C X129 at_184 (by decide) (by decide) ?_
        refine g_istore 190 rfl C X129 (1 : Int32) rfl #[.val (.int p0), .val (.int p1), .val (.int p2), .val (.int p3), .val (.ref o3), .val (.int r16), .val (.int r26), .val (.int v47), .val (.int v65), .val (.int v67), .val (.int (1 : Int32)), .val (.int (1 : Int32)), .val (.int v80), .val (.int (0 : Int32)), .val (.int (2 : Int32)), .val (.int (1 : Int32)), .val (.int (1 : Int32)), .unset] at_188 rfl ?_
        refine g_aload 192 rfl C X129 at_190 rfl rfl ?_
        refine g_iload 194 rfl C X129 at_192 rfl ?_
        refine g_iload 196 rfl C X129 at_194 rfl ?_
        refine g_callS 199 rfl C X129 (argsL := [(.ref o3), (.int v80), (.int v80)]) (hw _ (List.mem_of_getElem? (i := 13) rfl)) (hw _ (List.mem_of_getElem? (i := 14) rfl)) (hw _ (List.mem_of_getElem? (i := 15) rfl)) (hw _ (List.mem_of_getElem? (i := 9) rfl)) eh134 (rm3 l Z a0 hw [] o3 v80 v80 f55 n82 n82 (T51.heap) n0 Zs64 B63 hn82 hn82 (by omega) (by omega)) (lenOf pd_14998784 rfl) (by decide) (by decide) (by decide) (by decide) rfl (W := 0) (Nat.le_of_eq rfl) (by decide) at_196 rfl fun r143 T144 Lc145 X146 hQ147 => ?_
        obtain ⟨r148, rfl, hs149, Nq150, eh151⟩ := hQ147
        have N152 := Fr.app N135 Nq150
        show Goes _ _ _ _ _ _ 199 _ [(.int r148)]
        have hq154 : r148.toInt = 0 := by
          rw [Nat.sub_self] at hs149
          have hu : own_us f55 n82 0 = 0 := rfl
          have fr155 := rng32 r148
          have fc156 : (65536 : Int32).toInt = 65536 := rfl
          have fc157 : (0 : Int32).toInt = 0 := rfl
          have fc158 : (1 : Int32).toInt = 1 := rfl
          have fc159 : (2 : Int32).toInt = 2 := rfl
          omega
        refine g_if_ne_f 202 rfl C X146 at_199 hq154 ?_
        clear hs149
        refine g_iconst 203 rfl C X146 (1 : Int32) at_202 rfl ?_
        refine g_goto 207 C X146 at_203 (by decide) (by decide) ?_
        refine g_istore 209 rfl C X146 (1 : Int32) rfl #[.val (.int p0), .val (.int p1), .val (.int p2), .val (.int p3), .val (.ref o3), .val (.int r16), .val (.int r26), .val (.int v47), .val (.int v65), .val (.int v67), .val (.int (1 : Int32)), .val (.int (1 : Int32)), .val (.int v80), .val (.int (0 : Int32)), .val (.int (2 : Int32)), .val (.int (1 : Int32)), .val (.int (1 : Int32)), .val (.int (1 : Int32))] at_207 rfl ?_
        refine g_iload 211 rfl C X146 at_209 rfl ?_
        refine g_if_eq_f 214 rfl C X146 at_211 (by decide) ?_
        refine g_iload 216 rfl C X146 at_214 rfl ?_
        refine g_if_eq_f 219 rfl C X146 at_216 (by decide) ?_
        refine g_iload 221 rfl C X146 at_219 rfl ?_
        refine g_if_eq_f 224 rfl C X146 at_221 (by decide) ?_
        refine g_iconst 225 rfl C X146 (1 : Int32) at_224 rfl ?_
        refine g_goto 229 C X146 at_225 (by decide) (by decide) ?_
        exact g_retN C X146 (z' := (1 : Int32)) rfl (Or.inl rfl) at_229 eh151 (by decide) (by decide) rfl ⟨rfl, N152⟩
      · skip
        refine g_if_ne_t 102 C X53 at_95 (by decide) (by decide) hb81 ?_
        refine g_iload 104 rfl C X53 at_102 rfl ?_
        refine g_iload 106 rfl C X53 at_104 rfl ?_
        by_cases hb160 : v47.toInt < v80.toInt
        · skip
          refine g_icmp_gt_t 114 C X53 at_106 (by decide) (by decide) hb160 ?_
          refine g_iload 116 rfl C X53 at_114 rfl ?_
          refine g_iload 118 rfl C X53 at_116 rfl ?_
          refine g_iadd 119 rfl C X53 at_118 ?_
          refine g_istore 121 rfl C X53 (2 : Int32) (by decide) #[.val (.int p0), .val (.int p1), .val (.int p2), .val (.int p3), .val (.ref o3), .val (.int r16), .val (.int r26), .val (.int v47), .val (.int v65), .val (.int v67), .val (.int (1 : Int32)), .val (.int (1 : Int32)), .val (.int v80), .val (.int (2 : Int32)), .unset, .unset, .unset, .unset] at_119 rfl ?_
          refine g_iload 123 rfl C X53 at_121 rfl ?_
          refine g_if_ne_t 134 C X53 at_123 (by decide) (by decide) hb81 ?_
          refine g_iload 136 rfl C X53 at_134 rfl ?_
          refine g_iload 138 rfl C X53 at_136 rfl ?_
          refine g_icmp_gt_t 146 C X53 at_138 (by decide) (by decide) hb160 ?_
          refine g_iconst 147 rfl C X53 (0 : Int32) at_146 rfl ?_
          refine g_istore 149 rfl C X53 (0 : Int32) rfl #[.val (.int p0), .val (.int p1), .val (.int p2), .val (.int p3), .val (.ref o3), .val (.int r16), .val (.int r26), .val (.int v47), .val (.int v65), .val (.int v67), .val (.int (1 : Int32)), .val (.int (1 : Int32)), .val (.int v80), .val (.int (2 : Int32)), .val (.int (0 : Int32)), .unset, .unset, .unset] at_147 rfl ?_
          refine g_aload 151 rfl C X53 at_149 rfl rfl ?_
          refine g_iconst 152 rfl C X53 (0 : Int32) at_151 rfl ?_
          refine g_iload 154 rfl C X53 at_152 rfl ?_
          have hq162 : 0 ≤ v80.toInt ∧ v80.toInt ≤ ((q38 + q56 : Nat) : Int) := by
            have hrem := c_iremV (p3 &&& (2147483647 : Int32)) (v67 + (1 : Int32))
            have fr163 := rng32 p3
            have fc164 : (2147483647 : Int32).toInt = 2147483647 := rfl
            have fo165 : (p3 &&& (2147483647 : Int32)).toInt = p3.toInt % 2147483648 := c_mask p3 (2147483647 : Int32) 31 (by decide) (by decide)
            have fr166 := rng32 v67
            have fr167 := rng32 v47
            have fr168 := rng32 v65
            have fo169 := c_iadd v47 v65
            have fr170 := rng32 (v47 + v65)
            have fe171 : (v47 + v65).toInt = v67.toInt := congrArg Int32.toInt hv67
            have fc172 : (1 : Int32).toInt = 1 := rfl
            have fo173 := c_iadd v67 (1 : Int32)
            have fr174 := rng32 (v67 + (1 : Int32))
            have fr175 := rng32 v80
            have fr177 := rng32 ((p3 &&& (2147483647 : Int32)) % (v67 + (1 : Int32)))
            have fe178 : ((p3 &&& (2147483647 : Int32)) % (v67 + (1 : Int32))).toInt = v80.toInt := congrArg Int32.toInt hv80
            omega
          obtain ⟨n161, hn161⟩ : ∃ n : Nat, v80.toInt = n := ⟨v80.toInt.toNat, by omega⟩
          have hn161m : n161 ≤ q38 + q56 := by omega
          have ha179 : own_wt (f55 0) = (if r16.toInt < 65536 then 1 else 2) := by rw [← hl40]; exact own_wtc (hk60 0 (by omega))
          have ha180 : ∀ j, 0 < j → j < q38 → own_wt (f55 j) = 0 := fun j r1 r2 => by rw [own_wtc (hk60 j (by omega))]; exact hc41 j r1 (by omega)
          refine g_callS 157 rfl C X53 (argsL := [(.ref o3), (.int (0 : Int32)), (.int v80)]) (hw _ (List.mem_of_getElem? (i := 13) rfl)) (hw _ (List.mem_of_getElem? (i := 14) rfl)) (hw _ (List.mem_of_getElem? (i := 15) rfl)) (hw _ (List.mem_of_getElem? (i := 9) rfl)) rfl (rm3 l Z a0 hw [] o3 (0 : Int32) v80 f55 0 n161 (T51.heap) n0 Zs64 B63 rfl hn161 (by omega) (by omega)) (lenOf pd_14998784 rfl) (by decide) (by decide) (by decide) (by decide) rfl (W := 0) (Nat.le_of_eq rfl) (by decide) at_154 rfl fun r181 T182 Lc183 X184 hQ185 => ?_
          obtain ⟨r186, rfl, hs187, Nq188, eh189⟩ := hQ185
          have N190 := Fr.app N66 Nq188
          show Goes _ _ _ _ _ _ 157 _ [(.int r186)]
          refine g_iload 159 rfl C X184 at_157 rfl ?_
          have hq192 : r186.toInt = (2 : Int32).toInt := by
            have hp := own_pre f55 q38 q56 n161 _ _ (by omega) (by omega) ha179 ha180 hl58 hc59 (by omega)
            rw [Nat.sub_zero] at hs187
            have i1 : (if r16.toInt < 65536 then (1 : Int) else 2) = 1 ∧ r16.toInt < 65536 ∨ (if r16.toInt < 65536 then (1 : Int) else 2) = 2 ∧ ¬ r16.toInt < 65536 := by split <;> omega
            have i2 : (if r26.toInt < 65536 then (1 : Int) else 2) = 1 ∧ r26.toInt < 65536 ∨ (if r26.toInt < 65536 then (1 : Int) else 2) = 2 ∧ ¬ r26.toInt < 65536 := by split <;> omega
            have fr193 := rng32 r186
            have fc194 : (2 : Int32).toInt = 2 := rfl
            have fc195 : (65536 : Int32).toInt = 65536 := rfl
            have fc196 : (0 : Int32).toInt = 0 := rfl
            have fc197 : (1 : Int32).toInt = 1 := rfl
            omega
          refine g_icmp_ne_f 162 rfl C X184 at_159 hq192 ?_
          clear hs187
          refine g_iconst 163 rfl C X184 (1 : Int32) at_162 rfl ?_
          refine g_goto 167 C X184 at_163 (by decide) (by decide) ?_
          refine g_istore 169 rfl C X184 (1 : Int32) rfl #[.val (.int p0), .val (.int p1), .val (.int p2), .val (.int p3), .val (.ref o3), .val (.int r16), .val (.int r26), .val (.int v47), .val (.int v65), .val (.int v67), .val (.int (1 : Int32)), .val (.int (1 : Int32)), .val (.int v80), .val (.int (2 : Int32)), .val (.int (0 : Int32)), .val (.int (1 : Int32)), .unset, .unset] at_167 rfl ?_
          refine g_aload 171 rfl C X184 at_169 rfl rfl ?_
          refine g_iload 173 rfl C X184 at_171 rfl ?_
          refine g_iload 175 rfl C X184 at_173 rfl ?_
          have hq198 : v67.toInt = ((q38 + q56 : Nat) : Int) := by
            have fr199 := rng32 v67
            have fr200 := rng32 v47
            have fr201 := rng32 v65
            have fo202 := c_iadd v47 v65
            have fr203 := rng32 (v47 + v65)
            have fe204 : (v47 + v65).toInt = v67.toInt := congrArg Int32.toInt hv67
            omega
          refine g_callS 178 rfl C X184 (argsL := [(.ref o3), (.int v80), (.int v67)]) (hw _ (List.mem_of_getElem? (i := 13) rfl)) (hw _ (List.mem_of_getElem? (i := 14) rfl)) (hw _ (List.mem_of_getElem? (i := 15) rfl)) (hw _ (List.mem_of_getElem? (i := 9) rfl)) eh189 (rm3 l Z a0 hw [] o3 v80 v67 f55 n161 (q38 + q56) (T51.heap) n0 Zs64 B63 hn161 hq198 (by omega) (by omega)) (lenOf pd_14998784 rfl) (by decide) (by decide) (by decide) (by decide) rfl (W := 0) (Nat.le_of_eq rfl) (by decide) at_175 rfl fun r205 T206 Lc207 X208 hQ209 => ?_
          obtain ⟨r210, rfl, hs211, Nq212, eh213⟩ := hQ209
          have N214 := Fr.app N190 Nq212
          show Goes _ _ _ _ _ _ 178 _ [(.int r210)]
          refine g_iload 180 rfl C X208 at_178 rfl ?_
          have hq216 : r210.toInt = (0 : Int32).toInt := by
            have hp := own_suf f55 q38 q56 n161 _ _ (by omega) (by omega) ha179 ha180 hl58 hc59 (by omega)
            have i1 : (if r16.toInt < 65536 then (1 : Int) else 2) = 1 ∧ r16.toInt < 65536 ∨ (if r16.toInt < 65536 then (1 : Int) else 2) = 2 ∧ ¬ r16.toInt < 65536 := by split <;> omega
            have i2 : (if r26.toInt < 65536 then (1 : Int) else 2) = 1 ∧ r26.toInt < 65536 ∨ (if r26.toInt < 65536 then (1 : Int) else 2) = 2 ∧ ¬ r26.toInt < 65536 := by split <;> omega
            have fr217 := rng32 r210
            have fc218 : (0 : Int32).toInt = 0 := rfl
            have fc219 : (65536 : Int32).toInt = 65536 := rfl
            have fc220 : (1 : Int32).toInt = 1 := rfl
            have fc221 : (2 : Int32).toInt = 2 := rfl
            omega
          refine g_icmp_ne_f 183 rfl C X208 at_180 hq216 ?_
          clear hs211
          refine g_iconst 184 rfl C X208 (1 : Int32) at_183 rfl ?_
          refine g_goto 188 C X208 at_184 (by decide) (by decide) ?_
          refine g_istore 190 rfl C X208 (1 : Int32) rfl #[.val (.int p0), .val (.int p1), .val (.int p2), .val (.int p3), .val (.ref o3), .val (.int r16), .val (.int r26), .val (.int v47), .val (.int v65), .val (.int v67), .val (.int (1 : Int32)), .val (.int (1 : Int32)), .val (.int v80), .val (.int (2 : Int32)), .val (.int (0 : Int32)), .val (.int (1 : Int32)), .val (.int (1 : Int32)), .unset] at_188 rfl ?_
          refine g_aload 192 rfl C X208 at_190 rfl rfl ?_
          refine g_iload 194 rfl C X208 at_192 rfl ?_
          refine g_iload 196 rfl C X208 at_194 rfl ?_
          refine g_callS 199 rfl C X208 (argsL := [(.ref o3), (.int v80), (.int v80)]) (hw _ (List.mem_of_getElem? (i := 13) rfl)) (hw _ (List.mem_of_getElem? (i := 14) rfl)) (hw _ (List.mem_of_getElem? (i := 15) rfl)) (hw _ (List.mem_of_getElem? (i := 9) rfl)) eh213 (rm3 l Z a0 hw [] o3 v80 v80 f55 n161 n161 (T51.heap) n0 Zs64 B63 hn161 hn161 (by omega) (by omega)) (lenOf pd_14998784 rfl) (by decide) (by decide) (by decide) (by decide) rfl (W := 0) (Nat.le_of_eq rfl) (by decide) at_196 rfl fun r222 T223 Lc224 X225 hQ226 => ?_
          obtain ⟨r227, rfl, hs228, Nq229, eh230⟩ := hQ226
          have N231 := Fr.app N214 Nq229
          show Goes _ _ _ _ _ _ 199 _ [(.int r227)]
          have hq233 : r227.toInt = 0 := by
            rw [Nat.sub_self] at hs228
            have hu : own_us f55 n161 0 = 0 := rfl
            have fr234 := rng32 r227
            have fc235 : (65536 : Int32).toInt = 65536 := rfl
            have fc236 : (0 : Int32).toInt = 0 := rfl
            have fc237 : (1 : Int32).toInt = 1 := rfl
            have fc238 : (2 : Int32).toInt = 2 := rfl
            omega
          refine g_if_ne_f 202 rfl C X225 at_199 hq233 ?_
          clear hs228
          refine g_iconst 203 rfl C X225 (1 : Int32) at_202 rfl ?_
          refine g_goto 207 C X225 at_203 (by decide) (by decide) ?_
          refine g_istore 209 rfl C X225 (1 : Int32) rfl #[.val (.int p0), .val (.int p1), .val (.int p2), .val (.int p3), .val (.ref o3), .val (.int r16), .val (.int r26), .val (.int v47), .val (.int v65), .val (.int v67), .val (.int (1 : Int32)), .val (.int (1 : Int32)), .val (.int v80), .val (.int (2 : Int32)), .val (.int (0 : Int32)), .val (.int (1 : Int32)), .val (.int (1 : Int32)), .val (.int (1 : Int32))] at_207 rfl ?_
          refine g_iload 211 rfl C X225 at_209 rfl ?_
          refine g_if_eq_f 214 rfl C X225 at_211 (by decide) ?_
          refine g_iload 216 rfl C X225 at_214 rfl ?_
          refine g_if_eq_f 219 rfl C X225 at_216 (by decide) ?_
          refine g_iload 221 rfl C X225 at_219 rfl ?_
          refine g_if_eq_f 224 rfl C X225 at_221 (by decide) ?_
          refine g_iconst 225 rfl C X225 (1 : Int32) at_224 rfl ?_
          refine g_goto 229 C X225 at_225 (by decide) (by decide) ?_
          exact g_retN C X225 (z' := (1 : Int32)) rfl (Or.inl rfl) at_229 eh230 (by decide) (by decide) rfl ⟨rfl, N231⟩
        · skip
          refine g_icmp_gt_f 109 rfl C X53 at_106 hb160 ?_
          refine g_iload 111 rfl C X53 at_109 rfl ?_
          refine g_goto 119 C X53 at_111 (by decide) (by decide) ?_
          refine g_istore 121 rfl C X53 (1 : Int32) rfl #[.val (.int p0), .val (.int p1), .val (.int p2), .val (.int p3), .val (.ref o3), .val (.int r16), .val (.int r26), .val (.int v47), .val (.int v65), .val (.int v67), .val (.int (1 : Int32)), .val (.int (1 : Int32)), .val (.int v80), .val (.int (1 : Int32)), .unset, .unset, .unset, .unset] at_119 rfl ?_
          refine g_iload 123 rfl C X53 at_121 rfl ?_
          refine g_if_ne_t 134 C X53 at_123 (by decide) (by decide) hb81 ?_
          refine g_iload 136 rfl C X53 at_134 rfl ?_
          refine g_iload 138 rfl C X53 at_136 rfl ?_
          refine g_icmp_gt_f 141 rfl C X53 at_138 hb160 ?_
          refine g_iload 143 rfl C X53 at_141 rfl ?_
          refine g_goto 147 C X53 at_143 (by decide) (by decide) ?_
          refine g_istore 149 rfl C X53 (1 : Int32) rfl #[.val (.int p0), .val (.int p1), .val (.int p2), .val (.int p3), .val (.ref o3), .val (.int r16), .val (.int r26), .val (.int v47), .val (.int v65), .val (.int v67), .val (.int (1 : Int32)), .val (.int (1 : Int32)), .val (.int v80), .val (.int (1 : Int32)), .val (.int (1 : Int32)), .unset, .unset, .unset] at_147 rfl ?_
          refine g_aload 151 rfl C X53 at_149 rfl rfl ?_
          refine g_iconst 152 rfl C X53 (0 : Int32) at_151 rfl ?_
          refine g_iload 154 rfl C X53 at_152 rfl ?_
          have hq240 : 0 ≤ v80.toInt ∧ v80.toInt ≤ ((q38 + q56 : Nat) : Int) := by
            have hrem := c_iremV (p3 &&& (2147483647 : Int32)) (v67 + (1 : Int32))
            have fr241 := rng32 p3
            have fc242 : (2147483647 : Int32).toInt = 2147483647 := rfl
            have fo243 : (p3 &&& (2147483647 : Int32)).toInt = p3.toInt % 2147483648 := c_mask p3 (2147483647 : Int32) 31 (by decide) (by decide)
            have fr244 := rng32 v67
            have fr245 := rng32 v47
            have fr246 := rng32 v65
            have fo247 := c_iadd v47 v65
            have fr248 := rng32 (v47 + v65)
            have fe249 : (v47 + v65).toInt = v67.toInt := congrArg Int32.toInt hv67
            have fc250 : (1 : Int32).toInt = 1 := rfl
            have fo251 := c_iadd v67 (1 : Int32)
            have fr252 := rng32 (v67 + (1 : Int32))
            have fr253 := rng32 v80
            have fr255 := rng32 ((p3 &&& (2147483647 : Int32)) % (v67 + (1 : Int32)))
            have fe256 : ((p3 &&& (2147483647 : Int32)) % (v67 + (1 : Int32))).toInt = v80.toInt := congrArg Int32.toInt hv80
            omega
          obtain ⟨n239, hn239⟩ : ∃ n : Nat, v80.toInt = n := ⟨v80.toInt.toNat, by omega⟩
          have hn239m : n239 ≤ q38 + q56 := by omega
          have ha257 : own_wt (f55 0) = (if r16.toInt < 65536 then 1 else 2) := by rw [← hl40]; exact own_wtc (hk60 0 (by omega))
          have ha258 : ∀ j, 0 < j → j < q38 → own_wt (f55 j) = 0 := fun j r1 r2 => by rw [own_wtc (hk60 j (by omega))]; exact hc41 j r1 (by omega)
          refine g_callS 157 rfl C X53 (argsL := [(.ref o3), (.int (0 : Int32)), (.int v80)]) (hw _ (List.mem_of_getElem? (i := 13) rfl)) (hw _ (List.mem_of_getElem? (i := 14) rfl)) (hw _ (List.mem_of_getElem? (i := 15) rfl)) (hw _ (List.mem_of_getElem? (i := 9) rfl)) rfl (rm3 l Z a0 hw [] o3 (0 : Int32) v80 f55 0 n239 (T51.heap) n0 Zs64 B63 rfl hn239 (by omega) (by omega)) (lenOf pd_14998784 rfl) (by decide) (by decide) (by decide) (by decide) rfl (W := 0) (Nat.le_of_eq rfl) (by decide) at_154 rfl fun r259 T260 Lc261 X262 hQ263 => ?_
          obtain ⟨r264, rfl, hs265, Nq266, eh267⟩ := hQ263
          have N268 := Fr.app N66 Nq266
          show Goes _ _ _ _ _ _ 157 _ [(.int r264)]
          refine g_iload 159 rfl C X262 at_157 rfl ?_
          have hq270 : r264.toInt = (1 : Int32).toInt := by
            have hp := own_pre f55 q38 q56 n239 _ _ (by omega) (by omega) ha257 ha258 hl58 hc59 (by omega)
            rw [Nat.sub_zero] at hs265
            have i1 : (if r16.toInt < 65536 then (1 : Int) else 2) = 1 ∧ r16.toInt < 65536 ∨ (if r16.toInt < 65536 then (1 : Int) else 2) = 2 ∧ ¬ r16.toInt < 65536 := by split <;> omega
            have i2 : (if r26.toInt < 65536 then (1 : Int) else 2) = 1 ∧ r26.toInt < 65536 ∨ (if r26.toInt < 65536 then (1 : Int) else 2) = 2 ∧ ¬ r26.toInt < 65536 := by split <;> omega
            have fr271 := rng32 r264
            have fc272 : (1 : Int32).toInt = 1 := rfl
            have fc273 : (65536 : Int32).toInt = 65536 := rfl
            have fc274 : (0 : Int32).toInt = 0 := rfl
            have fc275 : (2 : Int32).toInt = 2 := rfl
            omega
          refine g_icmp_ne_f 162 rfl C X262 at_159 hq270 ?_
          clear hs265
          refine g_iconst 163 rfl C X262 (1 : Int32) at_162 rfl ?_
          refine g_goto 167 C X262 at_163 (by decide) (by decide) ?_
          refine g_istore 169 rfl C X262 (1 : Int32) rfl #[.val (.int p0), .val (.int p1), .val (.int p2), .val (.int p3), .val (.ref o3), .val (.int r16), .val (.int r26), .val (.int v47), .val (.int v65), .val (.int v67), .val (.int (1 : Int32)), .val (.int (1 : Int32)), .val (.int v80), .val (.int (1 : Int32)), .val (.int (1 : Int32)), .val (.int (1 : Int32)), .unset, .unset] at_167 rfl ?_
          refine g_aload 171 rfl C X262 at_169 rfl rfl ?_
          refine g_iload 173 rfl C X262 at_171 rfl ?_
          refine g_iload 175 rfl C X262 at_173 rfl ?_
          have hq276 : v67.toInt = ((q38 + q56 : Nat) : Int) := by
            have fr277 := rng32 v67
            have fr278 := rng32 v47
            have fr279 := rng32 v65
            have fo280 := c_iadd v47 v65
            have fr281 := rng32 (v47 + v65)
            have fe282 : (v47 + v65).toInt = v67.toInt := congrArg Int32.toInt hv67
            omega
          refine g_callS 178 rfl C X262 (argsL := [(.ref o3), (.int v80), (.int v67)]) (hw _ (List.mem_of_getElem? (i := 13) rfl)) (hw _ (List.mem_of_getElem? (i := 14) rfl)) (hw _ (List.mem_of_getElem? (i := 15) rfl)) (hw _ (List.mem_of_getElem? (i := 9) rfl)) eh267 (rm3 l Z a0 hw [] o3 v80 v67 f55 n239 (q38 + q56) (T51.heap) n0 Zs64 B63 hn239 hq276 (by omega) (by omega)) (lenOf pd_14998784 rfl) (by decide) (by decide) (by decide) (by decide) rfl (W := 0) (Nat.le_of_eq rfl) (by decide) at_175 rfl fun r283 T284 Lc285 X286 hQ287 => ?_
          obtain ⟨r288, rfl, hs289, Nq290, eh291⟩ := hQ287
          have N292 := Fr.app N268 Nq290
          show Goes _ _ _ _ _ _ 178 _ [(.int r288)]
          refine g_iload 180 rfl C X286 at_178 rfl ?_
          have hq294 : r288.toInt = (1 : Int32).toInt := by
            have hp := own_suf f55 q38 q56 n239 _ _ (by omega) (by omega) ha257 ha258 hl58 hc59 (by omega)
            have i1 : (if r16.toInt < 65536 then (1 : Int) else 2) = 1 ∧ r16.toInt < 65536 ∨ (if r16.toInt < 65536 then (1 : Int) else 2) = 2 ∧ ¬ r16.toInt < 65536 := by split <;> omega
            have i2 : (if r26.toInt < 65536 then (1 : Int) else 2) = 1 ∧ r26.toInt < 65536 ∨ (if r26.toInt < 65536 then (1 : Int) else 2) = 2 ∧ ¬ r26.toInt < 65536 := by split <;> omega
            have fr295 := rng32 r288
            have fc296 : (1 : Int32).toInt = 1 := rfl
            have fc297 : (65536 : Int32).toInt = 65536 := rfl
            have fc298 : (0 : Int32).toInt = 0 := rfl
            have fc299 : (2 : Int32).toInt = 2 := rfl
            omega
          refine g_icmp_ne_f 183 rfl C X286 at_180 hq294 ?_
          clear hs289
          refine g_iconst 184 rfl C X286 (1 : Int32) at_183 rfl ?_
          refine g_goto 188 C X286 at_184 (by decide) (by decide) ?_
          refine g_istore 190 rfl C X286 (1 : Int32) rfl #[.val (.int p0), .val (.int p1), .val (.int p2), .val (.int p3), .val (.ref o3), .val (.int r16), .val (.int r26), .val (.int v47), .val (.int v65), .val (.int v67), .val (.int (1 : Int32)), .val (.int (1 : Int32)), .val (.int v80), .val (.int (1 : Int32)), .val (.int (1 : Int32)), .val (.int (1 : Int32)), .val (.int (1 : Int32)), .unset] at_188 rfl ?_
          refine g_aload 192 rfl C X286 at_190 rfl rfl ?_
          refine g_iload 194 rfl C X286 at_192 rfl ?_
          refine g_iload 196 rfl C X286 at_194 rfl ?_
          refine g_callS 199 rfl C X286 (argsL := [(.ref o3), (.int v80), (.int v80)]) (hw _ (List.mem_of_getElem? (i := 13) rfl)) (hw _ (List.mem_of_getElem? (i := 14) rfl)) (hw _ (List.mem_of_getElem? (i := 15) rfl)) (hw _ (List.mem_of_getElem? (i := 9) rfl)) eh291 (rm3 l Z a0 hw [] o3 v80 v80 f55 n239 n239 (T51.heap) n0 Zs64 B63 hn239 hn239 (by omega) (by omega)) (lenOf pd_14998784 rfl) (by decide) (by decide) (by decide) (by decide) rfl (W := 0) (Nat.le_of_eq rfl) (by decide) at_196 rfl fun r300 T301 Lc302 X303 hQ304 => ?_
          obtain ⟨r305, rfl, hs306, Nq307, eh308⟩ := hQ304
          have N309 := Fr.app N292 Nq307
          show Goes _ _ _ _ _ _ 199 _ [(.int r305)]
          have hq311 : r305.toInt = 0 := by
            rw [Nat.sub_self] at hs306
            have hu : own_us f55 n239 0 = 0 := rfl
            have fr312 := rng32 r305
            have fc313 : (65536 : Int32).toInt = 65536 := rfl
            have fc314 : (0 : Int32).toInt = 0 := rfl
            have fc315 : (1 : Int32).toInt = 1 := rfl
            have fc316 : (2 : Int32).toInt = 2 := rfl
            omega
          refine g_if_ne_f 202 rfl C X303 at_199 hq311 ?_
          clear hs306
          refine g_iconst 203 rfl C X303 (1 : Int32) at_202 rfl ?_
          refine g_goto 207 C X303 at_203 (by decide) (by decide) ?_
          refine g_istore 209 rfl C X303 (1 : Int32) rfl #[.val (.int p0), .val (.int p1), .val (.int p2), .val (.int p3), .val (.ref o3), .val (.int r16), .val (.int r26), .val (.int v47), .val (.int v65), .val (.int v67), .val (.int (1 : Int32)), .val (.int (1 : Int32)), .val (.int v80), .val (.int (1 : Int32)), .val (.int (1 : Int32)), .val (.int (1 : Int32)), .val (.int (1 : Int32)), .val (.int (1 : Int32))] at_207 rfl ?_
          refine g_iload 211 rfl C X303 at_209 rfl ?_
          refine g_if_eq_f 214 rfl C X303 at_211 (by decide) ?_
          refine g_iload 216 rfl C X303 at_214 rfl ?_
          refine g_if_eq_f 219 rfl C X303 at_216 (by decide) ?_
          refine g_iload 221 rfl C X303 at_219 rfl ?_
          refine g_if_eq_f 224 rfl C X303 at_221 (by decide) ?_
          refine g_iconst 225 rfl C X303 (1 : Int32) at_224 rfl ?_
          refine g_goto 229 C X303 at_225 (by decide) (by decide) ?_
          exact g_retN C X303 (z' := (1 : Int32)) rfl (Or.inl rfl) at_229 eh308 (by decide) (by decide) rfl ⟨rfl, N309⟩
    · skip
      refine g_icmp_lt_f 75 rfl C X53 at_72 hb69 ?_
      refine g_iconst 76 rfl C X53 (2 : Int32) at_75 rfl ?_
      refine g_goto 80 C X53 at_76 (by decide) (by decide) ?_
      refine g_istore 82 rfl C X53 (2 : Int32) rfl #[.val (.int p0), .val (.int p1), .val (.int p2), .val (.int p3), .val (.ref o3), .val (.int r16), .val (.int r26), .val (.int v47), .val (.int v65), .val (.int v67), .val (.int (1 : Int32)), .val (.int (2 : Int32)), .unset, .unset, .unset, .unset, .unset, .unset] at_80 rfl ?_
      refine g_iloadN 83 rfl C X53 at_82 rfl ?_
      refine g_ldc 85 rfl C X53 (hw _ (List.mem_of_getElem? (i := 5) rfl)) at_83 ?_
      refine g_iand 86 rfl C X53 at_85 ?_
      refine g_iload 88 rfl C X53 at_86 rfl ?_
      refine g_iconst 89 rfl C X53 (1 : Int32) at_88 rfl ?_
      refine g_iadd 90 rfl C X53 at_89 ?_
      have hq317 : (v67 + (1 : Int32)).toInt ≠ 0 := by
        have fr318 := rng32 v67
        have fr319 := rng32 v47
        have fr320 := rng32 v65
        have fo321 := c_iadd v47 v65
        have fr322 := rng32 (v47 + v65)
        have fe323 : (v47 + v65).toInt = v67.toInt := congrArg Int32.toInt hv67
        have fc324 : (1 : Int32).toInt = 1 := rfl
        have fo325 := c_iadd v67 (1 : Int32)
        have fr326 := rng32 (v67 + (1 : Int32))
        omega
      refine g_irem 91 rfl C X53 at_90 (fun r => hq317 (by rw [r]; rfl)) ?_
      obtain ⟨v327, hv327⟩ : ∃ z : Int32, ((p3 &&& (2147483647 : Int32)) % (v67 + (1 : Int32))) = z := ⟨_, rfl⟩
      refine g_istore 93 rfl C X53 v327 hv327 #[.val (.int p0), .val (.int p1), .val (.int p2), .val (.int p3), .val (.ref o3), .val (.int r16), .val (.int r26), .val (.int v47), .val (.int v65), .val (.int v67), .val (.int (1 : Int32)), .val (.int (2 : Int32)), .val (.int v327), .unset, .unset, .unset, .unset, .unset] at_91 rfl ?_
      refine g_iload 95 rfl C X53 at_93 rfl ?_
      by_cases hb328 : v327.toInt = 0
      · skip
        refine g_if_ne_f 98 rfl C X53 at_95 hb328 ?_
        refine g_iconst 99 rfl C X53 (0 : Int32) at_98 rfl ?_
        refine g_goto 119 C X53 at_99 (by decide) (by decide) ?_
        refine g_istore 121 rfl C X53 (0 : Int32) rfl #[.val (.int p0), .val (.int p1), .val (.int p2), .val (.int p3), .val (.ref o3), .val (.int r16), .val (.int r26), .val (.int v47), .val (.int v65), .val (.int v67), .val (.int (1 : Int32)), .val (.int (2 : Int32)), .val (.int v327), .val (.int (0 : Int32)), .unset, .unset, .unset, .unset] at_119 rfl ?_
        refine g_iload 123 rfl C X53 at_121 rfl ?_
        refine g_if_ne_f 126 rfl C X53 at_123 hb328 ?_
        refine g_iload 128 rfl C X53 at_126 rfl ?_
        refine g_iload 130 rfl C X53 at_128 rfl ?_
        refine g_iadd 131 rfl C X53 at_130 ?_
        refine g_goto 147 C X53 at_131 (by decide) (by decide) ?_
        refine g_istore 149 rfl C X53 (3 : Int32) (by decide) #[.val (.int p0), .val (.int p1), .val (.int p2), .val (.int p3), .val (.ref o3), .val (.int r16), .val (.int r26), .val (.int v47), .val (.int v65), .val (.int v67), .val (.int (1 : Int32)), .val (.int (2 : Int32)), .val (.int v327), .val (.int (0 : Int32)), .val (.int (3 : Int32)), .unset, .unset, .unset] at_147 rfl ?_
        refine g_aload 151 rfl C X53 at_149 rfl rfl ?_
        refine g_iconst 152 rfl C X53 (0 : Int32) at_151 rfl ?_
        refine g_iload 154 rfl C X53 at_152 rfl ?_
        have hq330 : 0 ≤ v327.toInt ∧ v327.toInt ≤ ((q38 + q56 : Nat) : Int) := by
          have hrem := c_iremV (p3 &&& (2147483647 : Int32)) (v67 + (1 : Int32))
          have fr331 := rng32 p3
          have fc332 : (2147483647 : Int32).toInt = 2147483647 := rfl
          have fo333 : (p3 &&& (2147483647 : Int32)).toInt = p3.toInt % 2147483648 := c_mask p3 (2147483647 : Int32) 31 (by decide) (by decide)
          have fr334 := rng32 v67
          have fr335 := rng32 v47
          have fr336 := rng32 v65
          have fo337 := c_iadd v47 v65
          have fr338 := rng32 (v47 + v65)
          have fe339 : (v47 + v65).toInt = v67.toInt := congrArg Int32.toInt hv67
          have fc340 : (1 : Int32).toInt = 1 := rfl
          have fo341 := c_iadd v67 (1 : Int32)
          have fr342 := rng32 (v67 + (1 : Int32))
          have fr343 := rng32 v327
          have fr345 := rng32 ((p3 &&& (2147483647 : Int32)) % (v67 + (1 : Int32)))
          have fe346 : ((p3 &&& (2147483647 : Int32)) % (v67 + (1 : Int32))).toInt = v327.toInt := congrArg Int32.toInt hv327
          omega
        obtain ⟨n329, hn329⟩ : ∃ n : Nat, v327.toInt = n := ⟨v327.toInt.toNat, by omega⟩
        have hn329m : n329 ≤ q38 + q56 := by omega
        have ha347 : own_wt (f55 0) = (if r16.toInt < 65536 then 1 else 2) := by rw [← hl40]; exact own_wtc (hk60 0 (by omega))
        have ha348 : ∀ j, 0 < j → j < q38 → own_wt (f55 j) = 0 := fun j r1 r2 => by rw [own_wtc (hk60 j (by omega))]; exact hc41 j r1 (by omega)
        refine g_callS 157 rfl C X53 (argsL := [(.ref o3), (.int (0 : Int32)), (.int v327)]) (hw _ (List.mem_of_getElem? (i := 13) rfl)) (hw _ (List.mem_of_getElem? (i := 14) rfl)) (hw _ (List.mem_of_getElem? (i := 15) rfl)) (hw _ (List.mem_of_getElem? (i := 9) rfl)) rfl (rm3 l Z a0 hw [] o3 (0 : Int32) v327 f55 0 n329 (T51.heap) n0 Zs64 B63 rfl hn329 (by omega) (by omega)) (lenOf pd_14998784 rfl) (by decide) (by decide) (by decide) (by decide) rfl (W := 0) (Nat.le_of_eq rfl) (by decide) at_154 rfl fun r349 T350 Lc351 X352 hQ353 => ?_
        obtain ⟨r354, rfl, hs355, Nq356, eh357⟩ := hQ353
        have N358 := Fr.app N66 Nq356
        show Goes _ _ _ _ _ _ 157 _ [(.int r354)]
        refine g_iload 159 rfl C X352 at_157 rfl ?_
        have hq360 : r354.toInt = (0 : Int32).toInt := by
          have hp := own_pre f55 q38 q56 n329 _ _ (by omega) (by omega) ha347 ha348 hl58 hc59 (by omega)
          rw [Nat.sub_zero] at hs355
          have i1 : (if r16.toInt < 65536 then (1 : Int) else 2) = 1 ∧ r16.toInt < 65536 ∨ (if r16.toInt < 65536 then (1 : Int) else 2) = 2 ∧ ¬ r16.toInt < 65536 := by split <;> omega
          have i2 : (if r26.toInt < 65536 then (1 : Int) else 2) = 1 ∧ r26.toInt < 65536 ∨ (if r26.toInt < 65536 then (1 : Int) else 2) = 2 ∧ ¬ r26.toInt < 65536 := by split <;> omega
          have fr361 := rng32 r354
          have fc362 : (0 : Int32).toInt = 0 := rfl
          have fc363 : (65536 : Int32).toInt = 65536 := rfl
          have fc364 : (1 : Int32).toInt = 1 := rfl
          have fc365 : (2 : Int32).toInt = 2 := rfl
          omega
        refine g_icmp_ne_f 162 rfl C X352 at_159 hq360 ?_
        clear hs355
        refine g_iconst 163 rfl C X352 (1 : Int32) at_162 rfl ?_
        refine g_goto 167 C X352 at_163 (by decide) (by decide) ?_
        refine g_istore 169 rfl C X352 (1 : Int32) rfl #[.val (.int p0), .val (.int p1), .val (.int p2), .val (.int p3), .val (.ref o3), .val (.int r16), .val (.int r26), .val (.int v47), .val (.int v65), .val (.int v67), .val (.int (1 : Int32)), .val (.int (2 : Int32)), .val (.int v327), .val (.int (0 : Int32)), .val (.int (3 : Int32)), .val (.int (1 : Int32)), .unset, .unset] at_167 rfl ?_
        refine g_aload 171 rfl C X352 at_169 rfl rfl ?_
        refine g_iload 173 rfl C X352 at_171 rfl ?_
        refine g_iload 175 rfl C X352 at_173 rfl ?_
        have hq366 : v67.toInt = ((q38 + q56 : Nat) : Int) := by
          have fr367 := rng32 v67
          have fr368 := rng32 v47
          have fr369 := rng32 v65
          have fo370 := c_iadd v47 v65
          have fr371 := rng32 (v47 + v65)
          have fe372 : (v47 + v65).toInt = v67.toInt := congrArg Int32.toInt hv67
          omega
        refine g_callS 178 rfl C X352 (argsL := [(.ref o3), (.int v327), (.int v67)]) (hw _ (List.mem_of_getElem? (i := 13) rfl)) (hw _ (List.mem_of_getElem? (i := 14) rfl)) (hw _ (List.mem_of_getElem? (i := 15) rfl)) (hw _ (List.mem_of_getElem? (i := 9) rfl)) eh357 (rm3 l Z a0 hw [] o3 v327 v67 f55 n329 (q38 + q56) (T51.heap) n0 Zs64 B63 hn329 hq366 (by omega) (by omega)) (lenOf pd_14998784 rfl) (by decide) (by decide) (by decide) (by decide) rfl (W := 0) (Nat.le_of_eq rfl) (by decide) at_175 rfl fun r373 T374 Lc375 X376 hQ377 => ?_
        obtain ⟨r378, rfl, hs379, Nq380, eh381⟩ := hQ377
        have N382 := Fr.app N358 Nq380
        show Goes _ _ _ _ _ _ 178 _ [(.int r378)]
        refine g_iload 180 rfl C X376 at_178 rfl ?_
        have hq384 : r378.toInt = (3 : Int32).toInt := by
          have hp := own_suf f55 q38 q56 n329 _ _ (by omega) (by omega) ha347 ha348 hl58 hc59 (by omega)
          have i1 : (if r16.toInt < 65536 then (1 : Int) else 2) = 1 ∧ r16.toInt < 65536 ∨ (if r16.toInt < 65536 then (1 : Int) else 2) = 2 ∧ ¬ r16.toInt < 65536 := by split <;> omega
          have i2 : (if r26.toInt < 65536 then (1 : Int) else 2) = 1 ∧ r26.toInt < 65536 ∨ (if r26.toInt < 65536 then (1 : Int) else 2) = 2 ∧ ¬ r26.toInt < 65536 := by split <;> omega
          have fr385 := rng32 r378
          have fc386 : (3 : Int32).toInt = 3 := rfl
          have fc387 : (65536 : Int32).toInt = 65536 := rfl
          have fc388 : (0 : Int32).toInt = 0 := rfl
          have fc389 : (1 : Int32).toInt = 1 := rfl
          have fc390 : (2 : Int32).toInt = 2 := rfl
          omega
        refine g_icmp_ne_f 183 rfl C X376 at_180 hq384 ?_
        clear hs379
        refine g_iconst 184 rfl C X376 (1 : Int32) at_183 rfl ?_
        refine g_goto 188 C X376 at_184 (by decide) (by decide) ?_
        refine g_istore 190 rfl C X376 (1 : Int32) rfl #[.val (.int p0), .val (.int p1), .val (.int p2), .val (.int p3), .val (.ref o3), .val (.int r16), .val (.int r26), .val (.int v47), .val (.int v65), .val (.int v67), .val (.int (1 : Int32)), .val (.int (2 : Int32)), .val (.int v327), .val (.int (0 : Int32)), .val (.int (3 : Int32)), .val (.int (1 : Int32)), .val (.int (1 : Int32)), .unset] at_188 rfl ?_
        refine g_aload 192 rfl C X376 at_190 rfl rfl ?_
        refine g_iload 194 rfl C X376 at_192 rfl ?_
        refine g_iload 196 rfl C X376 at_194 rfl ?_
        refine g_callS 199 rfl C X376 (argsL := [(.ref o3), (.int v327), (.int v327)]) (hw _ (List.mem_of_getElem? (i := 13) rfl)) (hw _ (List.mem_of_getElem? (i := 14) rfl)) (hw _ (List.mem_of_getElem? (i := 15) rfl)) (hw _ (List.mem_of_getElem? (i := 9) rfl)) eh381 (rm3 l Z a0 hw [] o3 v327 v327 f55 n329 n329 (T51.heap) n0 Zs64 B63 hn329 hn329 (by omega) (by omega)) (lenOf pd_14998784 rfl) (by decide) (by decide) (by decide) (by decide) rfl (W := 0) (Nat.le_of_eq rfl) (by decide) at_196 rfl fun r391 T392 Lc393 X394 hQ395 => ?_
        obtain ⟨r396, rfl, hs397, Nq398, eh399⟩ := hQ395
        have N400 := Fr.app N382 Nq398
        show Goes _ _ _ _ _ _ 199 _ [(.int r396)]
        have hq402 : r396.toInt = 0 := by
          rw [Nat.sub_self] at hs397
          have hu : own_us f55 n329 0 = 0 := rfl
          have fr403 := rng32 r396
          have fc404 : (65536 : Int32).toInt = 65536 := rfl
          have fc405 : (0 : Int32).toInt = 0 := rfl
          have fc406 : (1 : Int32).toInt = 1 := rfl
          have fc407 : (2 : Int32).toInt = 2 := rfl
          omega
        refine g_if_ne_f 202 rfl C X394 at_199 hq402 ?_
        clear hs397
        refine g_iconst 203 rfl C X394 (1 : Int32) at_202 rfl ?_
        refine g_goto 207 C X394 at_203 (by decide) (by decide) ?_
        refine g_istore 209 rfl C X394 (1 : Int32) rfl #[.val (.int p0), .val (.int p1), .val (.int p2), .val (.int p3), .val (.ref o3), .val (.int r16), .val (.int r26), .val (.int v47), .val (.int v65), .val (.int v67), .val (.int (1 : Int32)), .val (.int (2 : Int32)), .val (.int v327), .val (.int (0 : Int32)), .val (.int (3 : Int32)), .val (.int (1 : Int32)), .val (.int (1 : Int32)), .val (.int (1 : Int32))] at_207 rfl ?_
        refine g_iload 211 rfl C X394 at_209 rfl ?_
        refine g_if_eq_f 214 rfl C X394 at_211 (by decide) ?_
        refine g_iload 216 rfl C X394 at_214 rfl ?_
        refine g_if_eq_f 219 rfl C X394 at_216 (by decide) ?_
        refine g_iload 221 rfl C X394 at_219 rfl ?_
        refine g_if_eq_f 224 rfl C X394 at_221 (by decide) ?_
        refine g_iconst 225 rfl C X394 (1 : Int32) at_224 rfl ?_
        refine g_goto 229 C X394 at_225 (by decide) (by decide) ?_
        exact g_retN C X394 (z' := (1 : Int32)) rfl (Or.inl rfl) at_229 eh399 (by decide) (by decide) rfl ⟨rfl, N400⟩
      · skip
        refine g_if_ne_t 102 C X53 at_95 (by decide) (by decide) hb328 ?_
        refine g_iload 104 rfl C X53 at_102 rfl ?_
        refine g_iload 106 rfl C X53 at_104 rfl ?_
        by_cases hb408 : v47.toInt < v327.toInt
        · skip
          refine g_icmp_gt_t 114 C X53 at_106 (by decide) (by decide) hb408 ?_
          refine g_iload 116 rfl C X53 at_114 rfl ?_
          refine g_iload 118 rfl C X53 at_116 rfl ?_
          refine g_iadd 119 rfl C X53 at_118 ?_
          refine g_istore 121 rfl C X53 (3 : Int32) (by decide) #[.val (.int p0), .val (.int p1), .val (.int p2), .val (.int p3), .val (.ref o3), .val (.int r16), .val (.int r26), .val (.int v47), .val (.int v65), .val (.int v67), .val (.int (1 : Int32)), .val (.int (2 : Int32)), .val (.int v327), .val (.int (3 : Int32)), .unset, .unset, .unset, .unset] at_119 rfl ?_
          refine g_iload 123 rfl C X53 at_121 rfl ?_
          refine g_if_ne_t 134 C X53 at_123 (by decide) (by decide) hb328 ?_
          refine g_iload 136 rfl C X53 at_134 rfl ?_
          refine g_iload 138 rfl C X53 at_136 rfl ?_
          refine g_icmp_gt_t 146 C X53 at_138 (by decide) (by decide) hb408 ?_
          refine g_iconst 147 rfl C X53 (0 : Int32) at_146 rfl ?_
          refine g_istore 149 rfl C X53 (0 : Int32) rfl #[.val (.int p0), .val (.int p1), .val (.int p2), .val (.int p3), .val (.ref o3), .val (.int r16), .val (.int r26), .val (.int v47), .val (.int v65), .val (.int v67), .val (.int (1 : Int32)), .val (.int (2 : Int32)), .val (.int v327), .val (.int (3 : Int32)), .val (.int (0 : Int32)), .unset, .unset, .unset] at_147 rfl ?_
          refine g_aload 151 rfl C X53 at_149 rfl rfl ?_
          refine g_iconst 152 rfl C X53 (0 : Int32) at_151 rfl ?_
          refine g_iload 154 rfl C X53 at_152 rfl ?_
          have hq410 : 0 ≤ v327.toInt ∧ v327.toInt ≤ ((q38 + q56 : Nat) : Int) := by
            have hrem := c_iremV (p3 &&& (2147483647 : Int32)) (v67 + (1 : Int32))
            have fr411 := rng32 p3
            have fc412 : (2147483647 : Int32).toInt = 2147483647 := rfl
            have fo413 : (p3 &&& (2147483647 : Int32)).toInt = p3.toInt % 2147483648 := c_mask p3 (2147483647 : Int32) 31 (by decide) (by decide)
            have fr414 := rng32 v67
            have fr415 := rng32 v47
            have fr416 := rng32 v65
            have fo417 := c_iadd v47 v65
            have fr418 := rng32 (v47 + v65)
            have fe419 : (v47 + v65).toInt = v67.toInt := congrArg Int32.toInt hv67
            have fc420 : (1 : Int32).toInt = 1 := rfl
            have fo421 := c_iadd v67 (1 : Int32)
            have fr422 := rng32 (v67 + (1 : Int32))
            have fr423 := rng32 v327
            have fr425 := rng32 ((p3 &&& (2147483647 : Int32)) % (v67 + (1 : Int32)))
            have fe426 : ((p3 &&& (2147483647 : Int32)) % (v67 + (1 : Int32))).toInt = v327.toInt := congrArg Int32.toInt hv327
            omega
          obtain ⟨n409, hn409⟩ : ∃ n : Nat, v327.toInt = n := ⟨v327.toInt.toNat, by omega⟩
          have hn409m : n409 ≤ q38 + q56 := by omega
          have ha427 : own_wt (f55 0) = (if r16.toInt < 65536 then 1 else 2) := by rw [← hl40]; exact own_wtc (hk60 0 (by omega))
          have ha428 : ∀ j, 0 < j → j < q38 → own_wt (f55 j) = 0 := fun j r1 r2 => by rw [own_wtc (hk60 j (by omega))]; exact hc41 j r1 (by omega)
          refine g_callS 157 rfl C X53 (argsL := [(.ref o3), (.int (0 : Int32)), (.int v327)]) (hw _ (List.mem_of_getElem? (i := 13) rfl)) (hw _ (List.mem_of_getElem? (i := 14) rfl)) (hw _ (List.mem_of_getElem? (i := 15) rfl)) (hw _ (List.mem_of_getElem? (i := 9) rfl)) rfl (rm3 l Z a0 hw [] o3 (0 : Int32) v327 f55 0 n409 (T51.heap) n0 Zs64 B63 rfl hn409 (by omega) (by omega)) (lenOf pd_14998784 rfl) (by decide) (by decide) (by decide) (by decide) rfl (W := 0) (Nat.le_of_eq rfl) (by decide) at_154 rfl fun r429 T430 Lc431 X432 hQ433 => ?_
          obtain ⟨r434, rfl, hs435, Nq436, eh437⟩ := hQ433
          have N438 := Fr.app N66 Nq436
          show Goes _ _ _ _ _ _ 157 _ [(.int r434)]
          refine g_iload 159 rfl C X432 at_157 rfl ?_
          have hq440 : r434.toInt = (3 : Int32).toInt := by
            have hp := own_pre f55 q38 q56 n409 _ _ (by omega) (by omega) ha427 ha428 hl58 hc59 (by omega)
            rw [Nat.sub_zero] at hs435
            have i1 : (if r16.toInt < 65536 then (1 : Int) else 2) = 1 ∧ r16.toInt < 65536 ∨ (if r16.toInt < 65536 then (1 : Int) else 2) = 2 ∧ ¬ r16.toInt < 65536 := by split <;> omega
            have i2 : (if r26.toInt < 65536 then (1 : Int) else 2) = 1 ∧ r26.toInt < 65536 ∨ (if r26.toInt < 65536 then (1 : Int) else 2) = 2 ∧ ¬ r26.toInt < 65536 := by split <;> omega
            have fr441 := rng32 r434
            have fc442 : (3 : Int32).toInt = 3 := rfl
            have fc443 : (65536 : Int32).toInt = 65536 := rfl
            have fc444 : (0 : Int32).toInt = 0 := rfl
            have fc445 : (1 : Int32).toInt = 1 := rfl
            have fc446 : (2 : Int32).toInt = 2 := rfl
            omega
          refine g_icmp_ne_f 162 rfl C X432 at_159 hq440 ?_
          clear hs435
          refine g_iconst 163 rfl C X432 (1 : Int32) at_162 rfl ?_
          refine g_goto 167 C X432 at_163 (by decide) (by decide) ?_
          refine g_istore 169 rfl C X432 (1 : Int32) rfl #[.val (.int p0), .val (.int p1), .val (.int p2), .val (.int p3), .val (.ref o3), .val (.int r16), .val (.int r26), .val (.int v47), .val (.int v65), .val (.int v67), .val (.int (1 : Int32)), .val (.int (2 : Int32)), .val (.int v327), .val (.int (3 : Int32)), .val (.int (0 : Int32)), .val (.int (1 : Int32)), .unset, .unset] at_167 rfl ?_
          refine g_aload 171 rfl C X432 at_169 rfl rfl ?_
          refine g_iload 173 rfl C X432 at_171 rfl ?_
          refine g_iload 175 rfl C X432 at_173 rfl ?_
          have hq447 : v67.toInt = ((q38 + q56 : Nat) : Int) := by
            have fr448 := rng32 v67
            have fr449 := rng32 v47
            have fr450 := rng32 v65
            have fo451 := c_iadd v47 v65
            have fr452 := rng32 (v47 + v65)
            have fe453 : (v47 + v65).toInt = v67.toInt := congrArg Int32.toInt hv67
            omega
          refine g_callS 178 rfl C X432 (argsL := [(.ref o3), (.int v327), (.int v67)]) (hw _ (List.mem_of_getElem? (i := 13) rfl)) (hw _ (List.mem_of_getElem? (i := 14) rfl)) (hw _ (List.mem_of_getElem? (i := 15) rfl)) (hw _ (List.mem_of_getElem? (i := 9) rfl)) eh437 (rm3 l Z a0 hw [] o3 v327 v67 f55 n409 (q38 + q56) (T51.heap) n0 Zs64 B63 hn409 hq447 (by omega) (by omega)) (lenOf pd_14998784 rfl) (by decide) (by decide) (by decide) (by decide) rfl (W := 0) (Nat.le_of_eq rfl) (by decide) at_175 rfl fun r454 T455 Lc456 X457 hQ458 => ?_
          obtain ⟨r459, rfl, hs460, Nq461, eh462⟩ := hQ458
          have N463 := Fr.app N438 Nq461
          show Goes _ _ _ _ _ _ 178 _ [(.int r459)]
          refine g_iload 180 rfl C X457 at_178 rfl ?_
          have hq465 : r459.toInt = (0 : Int32).toInt := by
            have hp := own_suf f55 q38 q56 n409 _ _ (by omega) (by omega) ha427 ha428 hl58 hc59 (by omega)
            have i1 : (if r16.toInt < 65536 then (1 : Int) else 2) = 1 ∧ r16.toInt < 65536 ∨ (if r16.toInt < 65536 then (1 : Int) else 2) = 2 ∧ ¬ r16.toInt < 65536 := by split <;> omega
            have i2 : (if r26.toInt < 65536 then (1 : Int) else 2) = 1 ∧ r26.toInt < 65536 ∨ (if r26.toInt < 65536 then (1 : Int) else 2) = 2 ∧ ¬ r26.toInt < 65536 := by split <;> omega
            have fr466 := rng32 r459
            have fc467 : (0 : Int32).toInt = 0 := rfl
            have fc468 : (65536 : Int32).toInt = 65536 := rfl
            have fc469 : (1 : Int32).toInt = 1 := rfl
            have fc470 : (2 : Int32).toInt = 2 := rfl
            omega
          refine g_icmp_ne_f 183 rfl C X457 at_180 hq465 ?_
          clear hs460
          refine g_iconst 184 rfl C X457 (1 : Int32) at_183 rfl ?_
          refine g_goto 188 C X457 at_184 (by decide) (by decide) ?_
          refine g_istore 190 rfl C X457 (1 : Int32) rfl #[.val (.int p0), .val (.int p1), .val (.int p2), .val (.int p3), .val (.ref o3), .val (.int r16), .val (.int r26), .val (.int v47), .val (.int v65), .val (.int v67), .val (.int (1 : Int32)), .val (.int (2 : Int32)), .val (.int v327), .val (.int (3 : Int32)), .val (.int (0 : Int32)), .val (.int (1 : Int32)), .val (.int (1 : Int32)), .unset] at_188 rfl ?_
          refine g_aload 192 rfl C X457 at_190 rfl rfl ?_
          refine g_iload 194 rfl C X457 at_192 rfl ?_
          refine g_iload 196 rfl C X457 at_194 rfl ?_
          refine g_callS 199 rfl C X457 (argsL := [(.ref o3), (.int v327), (.int v327)]) (hw _ (List.mem_of_getElem? (i := 13) rfl)) (hw _ (List.mem_of_getElem? (i := 14) rfl)) (hw _ (List.mem_of_getElem? (i := 15) rfl)) (hw _ (List.mem_of_getElem? (i := 9) rfl)) eh462 (rm3 l Z a0 hw [] o3 v327 v327 f55 n409 n409 (T51.heap) n0 Zs64 B63 hn409 hn409 (by omega) (by omega)) (lenOf pd_14998784 rfl) (by decide) (by decide) (by decide) (by decide) rfl (W := 0) (Nat.le_of_eq rfl) (by decide) at_196 rfl fun r471 T472 Lc473 X474 hQ475 => ?_
          obtain ⟨r476, rfl, hs477, Nq478, eh479⟩ := hQ475
          have N480 := Fr.app N463 Nq478
          show Goes _ _ _ _ _ _ 199 _ [(.int r476)]
          have hq482 : r476.toInt = 0 := by
            rw [Nat.sub_self] at hs477
            have hu : own_us f55 n409 0 = 0 := rfl
            have fr483 := rng32 r476
            have fc484 : (65536 : Int32).toInt = 65536 := rfl
            have fc485 : (0 : Int32).toInt = 0 := rfl
            have fc486 : (1 : Int32).toInt = 1 := rfl
            have fc487 : (2 : Int32).toInt = 2 := rfl
            omega
          refine g_if_ne_f 202 rfl C X474 at_199 hq482 ?_
          clear hs477
          refine g_iconst 203 rfl C X474 (1 : Int32) at_202 rfl ?_
          refine g_goto 207 C X474 at_203 (by decide) (by decide) ?_
          refine g_istore 209 rfl C X474 (1 : Int32) rfl #[.val (.int p0), .val (.int p1), .val (.int p2), .val (.int p3), .val (.ref o3), .val (.int r16), .val (.int r26), .val (.int v47), .val (.int v65), .val (.int v67), .val (.int (1 : Int32)), .val (.int (2 : Int32)), .val (.int v327), .val (.int (3 : Int32)), .val (.int (0 : Int32)), .val (.int (1 : Int32)), .val (.int (1 : Int32)), .val (.int (1 : Int32))] at_207 rfl ?_
          refine g_iload 211 rfl C X474 at_209 rfl ?_
          refine g_if_eq_f 214 rfl C X474 at_211 (by decide) ?_
          refine g_iload 216 rfl C X474 at_214 rfl ?_
          refine g_if_eq_f 219 rfl C X474 at_216 (by decide) ?_
          refine g_iload 221 rfl C X474 at_219 rfl ?_
          refine g_if_eq_f 224 rfl C X474 at_221 (by decide) ?_
          refine g_iconst 225 rfl C X474 (1 : Int32) at_224 rfl ?_
          refine g_goto 229 C X474 at_225 (by decide) (by decide) ?_
          exact g_retN C X474 (z' := (1 : Int32)) rfl (Or.inl rfl) at_229 eh479 (by decide) (by decide) rfl ⟨rfl, N480⟩
        · skip
          refine g_icmp_gt_f 109 rfl C X53 at_106 hb408 ?_
          refine g_iload 111 rfl C X53 at_109 rfl ?_
          refine g_goto 119 C X53 at_111 (by decide) (by decide) ?_
          refine g_istore 121 rfl C X53 (1 : Int32) rfl #[.val (.int p0), .val (.int p1), .val (.int p2), .val (.int p3), .val (.ref o3), .val (.int r16), .val (.int r26), .val (.int v47), .val (.int v65), .val (.int v67), .val (.int (1 : Int32)), .val (.int (2 : Int32)), .val (.int v327), .val (.int (1 : Int32)), .unset, .unset, .unset, .unset] at_119 rfl ?_
          refine g_iload 123 rfl C X53 at_121 rfl ?_
          refine g_if_ne_t 134 C X53 at_123 (by decide) (by decide) hb328 ?_
          refine g_iload 136 rfl C X53 at_134 rfl ?_
          refine g_iload 138 rfl C X53 at_136 rfl ?_
          refine g_icmp_gt_f 141 rfl C X53 at_138 hb408 ?_
          refine g_iload 143 rfl C X53 at_141 rfl ?_
          refine g_goto 147 C X53 at_143 (by decide) (by decide) ?_
          refine g_istore 149 rfl C X53 (2 : Int32) rfl #[.val (.int p0), .val (.int p1), .val (.int p2), .val (.int p3), .val (.ref o3), .val (.int r16), .val (.int r26), .val (.int v47), .val (.int v65), .val (.int v67), .val (.int (1 : Int32)), .val (.int (2 : Int32)), .val (.int v327), .val (.int (1 : Int32)), .val (.int (2 : Int32)), .unset, .unset, .unset] at_147 rfl ?_
          refine g_aload 151 rfl C X53 at_149 rfl rfl ?_
          refine g_iconst 152 rfl C X53 (0 : Int32) at_151 rfl ?_
          refine g_iload 154 rfl C X53 at_152 rfl ?_
          have hq489 : 0 ≤ v327.toInt ∧ v327.toInt ≤ ((q38 + q56 : Nat) : Int) := by
            have hrem := c_iremV (p3 &&& (2147483647 : Int32)) (v67 + (1 : Int32))
            have fr490 := rng32 p3
            have fc491 : (2147483647 : Int32).toInt = 2147483647 := rfl
            have fo492 : (p3 &&& (2147483647 : Int32)).toInt = p3.toInt % 2147483648 := c_mask p3 (2147483647 : Int32) 31 (by decide) (by decide)
            have fr493 := rng32 v67
            have fr494 := rng32 v47
            have fr495 := rng32 v65
            have fo496 := c_iadd v47 v65
            have fr497 := rng32 (v47 + v65)
            have fe498 : (v47 + v65).toInt = v67.toInt := congrArg Int32.toInt hv67
            have fc499 : (1 : Int32).toInt = 1 := rfl
            have fo500 := c_iadd v67 (1 : Int32)
            have fr501 := rng32 (v67 + (1 : Int32))
            have fr502 := rng32 v327
            have fr504 := rng32 ((p3 &&& (2147483647 : Int32)) % (v67 + (1 : Int32)))
            have fe505 : ((p3 &&& (2147483647 : Int32)) % (v67 + (1 : Int32))).toInt = v327.toInt := congrArg Int32.toInt hv327
            omega
          obtain ⟨n488, hn488⟩ : ∃ n : Nat, v327.toInt = n := ⟨v327.toInt.toNat, by omega⟩
          have hn488m : n488 ≤ q38 + q56 := by omega
          have ha506 : own_wt (f55 0) = (if r16.toInt < 65536 then 1 else 2) := by rw [← hl40]; exact own_wtc (hk60 0 (by omega))
          have ha507 : ∀ j, 0 < j → j < q38 → own_wt (f55 j) = 0 := fun j r1 r2 => by rw [own_wtc (hk60 j (by omega))]; exact hc41 j r1 (by omega)
          refine g_callS 157 rfl C X53 (argsL := [(.ref o3), (.int (0 : Int32)), (.int v327)]) (hw _ (List.mem_of_getElem? (i := 13) rfl)) (hw _ (List.mem_of_getElem? (i := 14) rfl)) (hw _ (List.mem_of_getElem? (i := 15) rfl)) (hw _ (List.mem_of_getElem? (i := 9) rfl)) rfl (rm3 l Z a0 hw [] o3 (0 : Int32) v327 f55 0 n488 (T51.heap) n0 Zs64 B63 rfl hn488 (by omega) (by omega)) (lenOf pd_14998784 rfl) (by decide) (by decide) (by decide) (by decide) rfl (W := 0) (Nat.le_of_eq rfl) (by decide) at_154 rfl fun r508 T509 Lc510 X511 hQ512 => ?_
          obtain ⟨r513, rfl, hs514, Nq515, eh516⟩ := hQ512
          have N517 := Fr.app N66 Nq515
          show Goes _ _ _ _ _ _ 157 _ [(.int r513)]
          refine g_iload 159 rfl C X511 at_157 rfl ?_
          have hq519 : r513.toInt = (1 : Int32).toInt := by
            have hp := own_pre f55 q38 q56 n488 _ _ (by omega) (by omega) ha506 ha507 hl58 hc59 (by omega)
            rw [Nat.sub_zero] at hs514
            have i1 : (if r16.toInt < 65536 then (1 : Int) else 2) = 1 ∧ r16.toInt < 65536 ∨ (if r16.toInt < 65536 then (1 : Int) else 2) = 2 ∧ ¬ r16.toInt < 65536 := by split <;> omega
            have i2 : (if r26.toInt < 65536 then (1 : Int) else 2) = 1 ∧ r26.toInt < 65536 ∨ (if r26.toInt < 65536 then (1 : Int) else 2) = 2 ∧ ¬ r26.toInt < 65536 := by split <;> omega
            have fr520 := rng32 r513
            have fc521 : (1 : Int32).toInt = 1 := rfl
            have fc522 : (65536 : Int32).toInt = 65536 := rfl
            have fc523 : (0 : Int32).toInt = 0 := rfl
            have fc524 : (2 : Int32).toInt = 2 := rfl
            omega
          refine g_icmp_ne_f 162 rfl C X511 at_159 hq519 ?_
          clear hs514
          refine g_iconst 163 rfl C X511 (1 : Int32) at_162 rfl ?_
          refine g_goto 167 C X511 at_163 (by decide) (by decide) ?_
          refine g_istore 169 rfl C X511 (1 : Int32) rfl #[.val (.int p0), .val (.int p1), .val (.int p2), .val (.int p3), .val (.ref o3), .val (.int r16), .val (.int r26), .val (.int v47), .val (.int v65), .val (.int v67), .val (.int (1 : Int32)), .val (.int (2 : Int32)), .val (.int v327), .val (.int (1 : Int32)), .val (.int (2 : Int32)), .val (.int (1 : Int32)), .unset, .unset] at_167 rfl ?_
          refine g_aload 171 rfl C X511 at_169 rfl rfl ?_
          refine g_iload 173 rfl C X511 at_171 rfl ?_
          refine g_iload 175 rfl C X511 at_173 rfl ?_
          have hq525 : v67.toInt = ((q38 + q56 : Nat) : Int) := by
            have fr526 := rng32 v67
            have fr527 := rng32 v47
            have fr528 := rng32 v65
            have fo529 := c_iadd v47 v65
            have fr530 := rng32 (v47 + v65)
            have fe531 : (v47 + v65).toInt = v67.toInt := congrArg Int32.toInt hv67
            omega
          refine g_callS 178 rfl C X511 (argsL := [(.ref o3), (.int v327), (.int v67)]) (hw _ (List.mem_of_getElem? (i := 13) rfl)) (hw _ (List.mem_of_getElem? (i := 14) rfl)) (hw _ (List.mem_of_getElem? (i := 15) rfl)) (hw _ (List.mem_of_getElem? (i := 9) rfl)) eh516 (rm3 l Z a0 hw [] o3 v327 v67 f55 n488 (q38 + q56) (T51.heap) n0 Zs64 B63 hn488 hq525 (by omega) (by omega)) (lenOf pd_14998784 rfl) (by decide) (by decide) (by decide) (by decide) rfl (W := 0) (Nat.le_of_eq rfl) (by decide) at_175 rfl fun r532 T533 Lc534 X535 hQ536 => ?_
          obtain ⟨r537, rfl, hs538, Nq539, eh540⟩ := hQ536
          have N541 := Fr.app N517 Nq539
          show Goes _ _ _ _ _ _ 178 _ [(.int r537)]
          refine g_iload 180 rfl C X535 at_178 rfl ?_
          have hq543 : r537.toInt = (2 : Int32).toInt := by
            have hp := own_suf f55 q38 q56 n488 _ _ (by omega) (by omega) ha506 ha507 hl58 hc59 (by omega)
            have i1 : (if r16.toInt < 65536 then (1 : Int) else 2) = 1 ∧ r16.toInt < 65536 ∨ (if r16.toInt < 65536 then (1 : Int) else 2) = 2 ∧ ¬ r16.toInt < 65536 := by split <;> omega
            have i2 : (if r26.toInt < 65536 then (1 : Int) else 2) = 1 ∧ r26.toInt < 65536 ∨ (if r26.toInt < 65536 then (1 : Int) else 2) = 2 ∧ ¬ r26.toInt < 65536 := by split <;> omega
            have fr544 := rng32 r537
            have fc545 : (2 : Int32).toInt = 2 := rfl
            have fc546 : (65536 : Int32).toInt = 65536 := rfl
            have fc547 : (0 : Int32).toInt = 0 := rfl
            have fc548 : (1 : Int32).toInt = 1 := rfl
            omega
          refine g_icmp_ne_f 183 rfl C X535 at_180 hq543 ?_
          clear hs538
          refine g_iconst 184 rfl C X535 (1 : Int32) at_183 rfl ?_
          refine g_goto 188 C X535 at_184 (by decide) (by decide) ?_
          refine g_istore 190 rfl C X535 (1 : Int32) rfl #[.val (.int p0), .val (.int p1), .val (.int p2), .val (.int p3), .val (.ref o3), .val (.int r16), .val (.int r26), .val (.int v47), .val (.int v65), .val (.int v67), .val (.int (1 : Int32)), .val (.int (2 : Int32)), .val (.int v327), .val (.int (1 : Int32)), .val (.int (2 : Int32)), .val (.int (1 : Int32)), .val (.int (1 : Int32)), .unset] at_188 rfl ?_
          refine g_aload 192 rfl C X535 at_190 rfl rfl ?_
          refine g_iload 194 rfl C X535 at_192 rfl ?_
          refine g_iload 196 rfl C X535 at_194 rfl ?_
          refine g_callS 199 rfl C X535 (argsL := [(.ref o3), (.int v327), (.int v327)]) (hw _ (List.mem_of_getElem? (i := 13) rfl)) (hw _ (List.mem_of_getElem? (i := 14) rfl)) (hw _ (List.mem_of_getElem? (i := 15) rfl)) (hw _ (List.mem_of_getElem? (i := 9) rfl)) eh540 (rm3 l Z a0 hw [] o3 v327 v327 f55 n488 n488 (T51.heap) n0 Zs64 B63 hn488 hn488 (by omega) (by omega)) (lenOf pd_14998784 rfl) (by decide) (by decide) (by decide) (by decide) rfl (W := 0) (Nat.le_of_eq rfl) (by decide) at_196 rfl fun r549 T550 Lc551 X552 hQ553 => ?_
          obtain ⟨r554, rfl, hs555, Nq556, eh557⟩ := hQ553
          have N558 := Fr.app N541 Nq556
          show Goes _ _ _ _ _ _ 199 _ [(.int r554)]
          have hq560 : r554.toInt = 0 := by
            rw [Nat.sub_self] at hs555
            have hu : own_us f55 n488 0 = 0 := rfl
            have fr561 := rng32 r554
            have fc562 : (65536 : Int32).toInt = 65536 := rfl
            have fc563 : (0 : Int32).toInt = 0 := rfl
            have fc564 : (1 : Int32).toInt = 1 := rfl
            have fc565 : (2 : Int32).toInt = 2 := rfl
            omega
          refine g_if_ne_f 202 rfl C X552 at_199 hq560 ?_
          clear hs555
          refine g_iconst 203 rfl C X552 (1 : Int32) at_202 rfl ?_
          refine g_goto 207 C X552 at_203 (by decide) (by decide) ?_
          refine g_istore 209 rfl C X552 (1 : Int32) rfl #[.val (.int p0), .val (.int p1), .val (.int p2), .val (.int p3), .val (.ref o3), .val (.int r16), .val (.int r26), .val (.int v47), .val (.int v65), .val (.int v67), .val (.int (1 : Int32)), .val (.int (2 : Int32)), .val (.int v327), .val (.int (1 : Int32)), .val (.int (2 : Int32)), .val (.int (1 : Int32)), .val (.int (1 : Int32)), .val (.int (1 : Int32))] at_207 rfl ?_
          refine g_iload 211 rfl C X552 at_209 rfl ?_
          refine g_if_eq_f 214 rfl C X552 at_211 (by decide) ?_
          refine g_iload 216 rfl C X552 at_214 rfl ?_
          refine g_if_eq_f 219 rfl C X552 at_216 (by decide) ?_
          refine g_iload 221 rfl C X552 at_219 rfl ?_
          refine g_if_eq_f 224 rfl C X552 at_221 (by decide) ?_
          refine g_iconst 225 rfl C X552 (1 : Int32) at_224 rfl ?_
          refine g_goto 229 C X552 at_225 (by decide) (by decide) ?_
          exact g_retN C X552 (z' := (1 : Int32)) rfl (Or.inl rfl) at_229 eh557 (by decide) (by decide) rfl ⟨rfl, N558⟩
  · skip
    refine g_icmp_lt_f 61 rfl C X53 at_58 hb68 ?_
    refine g_iconst 62 rfl C X53 (2 : Int32) at_61 rfl ?_
    refine g_goto 66 C X53 at_62 (by decide) (by decide) ?_
    refine g_istore 68 rfl C X53 (2 : Int32) rfl #[.val (.int p0), .val (.int p1), .val (.int p2), .val (.int p3), .val (.ref o3), .val (.int r16), .val (.int r26), .val (.int v47), .val (.int v65), .val (.int v67), .val (.int (2 : Int32)), .unset, .unset, .unset, .unset, .unset, .unset, .unset] at_66 rfl ?_
    refine g_iload 70 rfl C X53 at_68 rfl ?_
    refine g_ldc 72 rfl C X53 (hw _ (List.mem_of_getElem? (i := 12) rfl)) at_70 ?_
    by_cases hb566 : r26.toInt < (65536 : Int32).toInt
    · skip
      refine g_icmp_lt_t 79 C X53 at_72 (by decide) (by decide) hb566 ?_
      refine g_iconst 80 rfl C X53 (1 : Int32) at_79 rfl ?_
      refine g_istore 82 rfl C X53 (1 : Int32) rfl #[.val (.int p0), .val (.int p1), .val (.int p2), .val (.int p3), .val (.ref o3), .val (.int r16), .val (.int r26), .val (.int v47), .val (.int v65), .val (.int v67), .val (.int (2 : Int32)), .val (.int (1 : Int32)), .unset, .unset, .unset, .unset, .unset, .unset] at_80 rfl ?_
      refine g_iloadN 83 rfl C X53 at_82 rfl ?_
      refine g_ldc 85 rfl C X53 (hw _ (List.mem_of_getElem? (i := 5) rfl)) at_83 ?_
      refine g_iand 86 rfl C X53 at_85 ?_
      refine g_iload 88 rfl C X53 at_86 rfl ?_
      refine g_iconst 89 rfl C X53 (1 : Int32) at_88 rfl ?_
      refine g_iadd 90 rfl C X53 at_89 ?_
      have hq567 : (v67 + (1 : Int32)).toInt ≠ 0 := by
        have fr568 := rng32 v67
        have fr569 := rng32 v47
        have fr570 := rng32 v65
        have fo571 := c_iadd v47 v65
        have fr572 := rng32 (v47 + v65)
        have fe573 : (v47 + v65).toInt = v67.toInt := congrArg Int32.toInt hv67
        have fc574 : (1 : Int32).toInt = 1 := rfl
        have fo575 := c_iadd v67 (1 : Int32)
        have fr576 := rng32 (v67 + (1 : Int32))
        omega
      refine g_irem 91 rfl C X53 at_90 (fun r => hq567 (by rw [r]; rfl)) ?_
      obtain ⟨v577, hv577⟩ : ∃ z : Int32, ((p3 &&& (2147483647 : Int32)) % (v67 + (1 : Int32))) = z := ⟨_, rfl⟩
      refine g_istore 93 rfl C X53 v577 hv577 #[.val (.int p0), .val (.int p1), .val (.int p2), .val (.int p3), .val (.ref o3), .val (.int r16), .val (.int r26), .val (.int v47), .val (.int v65), .val (.int v67), .val (.int (2 : Int32)), .val (.int (1 : Int32)), .val (.int v577), .unset, .unset, .unset, .unset, .unset] at_91 rfl ?_
      refine g_iload 95 rfl C X53 at_93 rfl ?_
      by_cases hb578 : v577.toInt = 0
      · skip
        refine g_if_ne_f 98 rfl C X53 at_95 hb578 ?_
        refine g_iconst 99 rfl C X53 (0 : Int32) at_98 rfl ?_
        refine g_goto 119 C X53 at_99 (by decide) (by decide) ?_
        refine g_istore 121 rfl C X53 (0 : Int32) rfl #[.val (.int p0), .val (.int p1), .val (.int p2), .val (.int p3), .val (.ref o3), .val (.int r16), .val (.int r26), .val (.int v47), .val (.int v65), .val (.int v67), .val (.int (2 : Int32)), .val (.int (1 : Int32)), .val (.int v577), .val (.int (0 : Int32)), .unset, .unset, .unset, .unset] at_119 rfl ?_
        refine g_iload 123 rfl C X53 at_121 rfl ?_
        refine g_if_ne_f 126 rfl C X53 at_123 hb578 ?_
        refine g_iload 128 rfl C X53 at_126 rfl ?_
        refine g_iload 130 rfl C X53 at_128 rfl ?_
        refine g_iadd 131 rfl C X53 at_130 ?_
        refine g_goto 147 C X53 at_131 (by decide) (by decide) ?_
        refine g_istore 149 rfl C X53 (3 : Int32) (by decide) #[.val (.int p0), .val (.int p1), .val (.int p2), .val (.int p3), .val (.ref o3), .val (.int r16), .val (.int r26), .val (.int v47), .val (.int v65), .val (.int v67), .val (.int (2 : Int32)), .val (.int (1 : Int32)), .val (.int v577), .val (.int (0 : Int32)), .val (.int (3 : Int32)), .unset, .unset, .unset] at_147 rfl ?_
        refine g_aload 151 rfl C X53 at_149 rfl rfl ?_
        refine g_iconst 152 rfl C X53 (0 : Int32) at_151 rfl ?_
        refine g_iload 154 rfl C X53 at_152 rfl ?_
        have hq580 : 0 ≤ v577.toInt ∧ v577.toInt ≤ ((q38 + q56 : Nat) : Int) := by
          have hrem := c_iremV (p3 &&& (2147483647 : Int32)) (v67 + (1 : Int32))
          have fr581 := rng32 p3
          have fc582 : (2147483647 : Int32).toInt = 2147483647 := rfl
          have fo583 : (p3 &&& (2147483647 : Int32)).toInt = p3.toInt % 2147483648 := c_mask p3 (2147483647 : Int32) 31 (by decide) (by decide)
          have fr584 := rng32 v67
          have fr585 := rng32 v47
          have fr586 := rng32 v65
          have fo587 := c_iadd v47 v65
          have fr588 := rng32 (v47 + v65)
          have fe589 : (v47 + v65).toInt = v67.toInt := congrArg Int32.toInt hv67
          have fc590 : (1 : Int32).toInt = 1 := rfl
          have fo591 := c_iadd v67 (1 : Int32)
          have fr592 := rng32 (v67 + (1 : Int32))
          have fr593 := rng32 v577
          have fr595 := rng32 ((p3 &&& (2147483647 : Int32)) % (v67 + (1 : Int32)))
          have fe596 : ((p3 &&& (2147483647 : Int32)) % (v67 + (1 : Int32))).toInt = v577.toInt := congrArg Int32.toInt hv577
          omega
        obtain ⟨n579, hn579⟩ : ∃ n : Nat, v577.toInt = n := ⟨v577.toInt.toNat, by omega⟩
        have hn579m : n579 ≤ q38 + q56 := by omega
        have ha597 : own_wt (f55 0) = (if r16.toInt < 65536 then 1 else 2) := by rw [← hl40]; exact own_wtc (hk60 0 (by omega))
        have ha598 : ∀ j, 0 < j → j < q38 → own_wt (f55 j) = 0 := fun j r1 r2 => by rw [own_wtc (hk60 j (by omega))]; exact hc41 j r1 (by omega)
        refine g_callS 157 rfl C X53 (argsL := [(.ref o3), (.int (0 : Int32)), (.int v577)]) (hw _ (List.mem_of_getElem? (i := 13) rfl)) (hw _ (List.mem_of_getElem? (i := 14) rfl)) (hw _ (List.mem_of_getElem? (i := 15) rfl)) (hw _ (List.mem_of_getElem? (i := 9) rfl)) rfl (rm3 l Z a0 hw [] o3 (0 : Int32) v577 f55 0 n579 (T51.heap) n0 Zs64 B63 rfl hn579 (by omega) (by omega)) (lenOf pd_14998784 rfl) (by decide) (by decide) (by decide) (by decide) rfl (W := 0) (Nat.le_of_eq rfl) (by decide) at_154 rfl fun r599 T600 Lc601 X602 hQ603 => ?_
        obtain ⟨r604, rfl, hs605, Nq606, eh607⟩ := hQ603
        have N608 := Fr.app N66 Nq606
        show Goes _ _ _ _ _ _ 157 _ [(.int r604)]
        refine g_iload 159 rfl C X602 at_157 rfl ?_
        have hq610 : r604.toInt = (0 : Int32).toInt := by
          have hp := own_pre f55 q38 q56 n579 _ _ (by omega) (by omega) ha597 ha598 hl58 hc59 (by omega)
          rw [Nat.sub_zero] at hs605
          have i1 : (if r16.toInt < 65536 then (1 : Int) else 2) = 1 ∧ r16.toInt < 65536 ∨ (if r16.toInt < 65536 then (1 : Int) else 2) = 2 ∧ ¬ r16.toInt < 65536 := by split <;> omega
          have i2 : (if r26.toInt < 65536 then (1 : Int) else 2) = 1 ∧ r26.toInt < 65536 ∨ (if r26.toInt < 65536 then (1 : Int) else 2) = 2 ∧ ¬ r26.toInt < 65536 := by split <;> omega
          have fr611 := rng32 r604
          have fc612 : (0 : Int32).toInt = 0 := rfl
          have fc613 : (65536 : Int32).toInt = 65536 := rfl
          have fc614 : (1 : Int32).toInt = 1 := rfl
          have fc615 : (2 : Int32).toInt = 2 := rfl
          omega
        refine g_icmp_ne_f 162 rfl C X602 at_159 hq610 ?_
        clear hs605
        refine g_iconst 163 rfl C X602 (1 : Int32) at_162 rfl ?_
        refine g_goto 167 C X602 at_163 (by decide) (by decide) ?_
        refine g_istore 169 rfl C X602 (1 : Int32) rfl #[.val (.int p0), .val (.int p1), .val (.int p2), .val (.int p3), .val (.ref o3), .val (.int r16), .val (.int r26), .val (.int v47), .val (.int v65), .val (.int v67), .val (.int (2 : Int32)), .val (.int (1 : Int32)), .val (.int v577), .val (.int (0 : Int32)), .val (.int (3 : Int32)), .val (.int (1 : Int32)), .unset, .unset] at_167 rfl ?_
        refine g_aload 171 rfl C X602 at_169 rfl rfl ?_
        refine g_iload 173 rfl C X602 at_171 rfl ?_
        refine g_iload 175 rfl C X602 at_173 rfl ?_
        have hq616 : v67.toInt = ((q38 + q56 : Nat) : Int) := by
          have fr617 := rng32 v67
          have fr618 := rng32 v47
          have fr619 := rng32 v65
          have fo620 := c_iadd v47 v65
          have fr621 := rng32 (v47 + v65)
          have fe622 : (v47 + v65).toInt = v67.toInt := congrArg Int32.toInt hv67
          omega
        refine g_callS 178 rfl C X602 (argsL := [(.ref o3), (.int v577), (.int v67)]) (hw _ (List.mem_of_getElem? (i := 13) rfl)) (hw _ (List.mem_of_getElem? (i := 14) rfl)) (hw _ (List.mem_of_getElem? (i := 15) rfl)) (hw _ (List.mem_of_getElem? (i := 9) rfl)) eh607 (rm3 l Z a0 hw [] o3 v577 v67 f55 n579 (q38 + q56) (T51.heap) n0 Zs64 B63 hn579 hq616 (by omega) (by omega)) (lenOf pd_14998784 rfl) (by decide) (by decide) (by decide) (by decide) rfl (W := 0) (Nat.le_of_eq rfl) (by decide) at_175 rfl fun r623 T624 Lc625 X626 hQ627 => ?_
        obtain ⟨r628, rfl, hs629, Nq630, eh631⟩ := hQ627
        have N632 := Fr.app N608 Nq630
        show Goes _ _ _ _ _ _ 178 _ [(.int r628)]
        refine g_iload 180 rfl C X626 at_178 rfl ?_
        have hq634 : r628.toInt = (3 : Int32).toInt := by
          have hp := own_suf f55 q38 q56 n579 _ _ (by omega) (by omega) ha597 ha598 hl58 hc59 (by omega)
          have i1 : (if r16.toInt < 65536 then (1 : Int) else 2) = 1 ∧ r16.toInt < 65536 ∨ (if r16.toInt < 65536 then (1 : Int) else 2) = 2 ∧ ¬ r16.toInt < 65536 := by split <;> omega
          have i2 : (if r26.toInt < 65536 then (1 : Int) else 2) = 1 ∧ r26.toInt < 65536 ∨ (if r26.toInt < 65536 then (1 : Int) else 2) = 2 ∧ ¬ r26.toInt < 65536 := by split <;> omega
          have fr635 := rng32 r628
          have fc636 : (3 : Int32).toInt = 3 := rfl
          have fc637 : (65536 : Int32).toInt = 65536 := rfl
          have fc638 : (0 : Int32).toInt = 0 := rfl
          have fc639 : (1 : Int32).toInt = 1 := rfl
          have fc640 : (2 : Int32).toInt = 2 := rfl
          omega
        refine g_icmp_ne_f 183 rfl C X626 at_180 hq634 ?_
        clear hs629
        refine g_iconst 184 rfl C X626 (1 : Int32) at_183 rfl ?_
        refine g_goto 188 C X626 at_184 (by decide) (by decide) ?_
        refine g_istore 190 rfl C X626 (1 : Int32) rfl #[.val (.int p0), .val (.int p1), .val (.int p2), .val (.int p3), .val (.ref o3), .val (.int r16), .val (.int r26), .val (.int v47), .val (.int v65), .val (.int v67), .val (.int (2 : Int32)), .val (.int (1 : Int32)), .val (.int v577), .val (.int (0 : Int32)), .val (.int (3 : Int32)), .val (.int (1 : Int32)), .val (.int (1 : Int32)), .unset] at_188 rfl ?_
        refine g_aload 192 rfl C X626 at_190 rfl rfl ?_
        refine g_iload 194 rfl C X626 at_192 rfl ?_
        refine g_iload 196 rfl C X626 at_194 rfl ?_
        refine g_callS 199 rfl C X626 (argsL := [(.ref o3), (.int v577), (.int v577)]) (hw _ (List.mem_of_getElem? (i := 13) rfl)) (hw _ (List.mem_of_getElem? (i := 14) rfl)) (hw _ (List.mem_of_getElem? (i := 15) rfl)) (hw _ (List.mem_of_getElem? (i := 9) rfl)) eh631 (rm3 l Z a0 hw [] o3 v577 v577 f55 n579 n579 (T51.heap) n0 Zs64 B63 hn579 hn579 (by omega) (by omega)) (lenOf pd_14998784 rfl) (by decide) (by decide) (by decide) (by decide) rfl (W := 0) (Nat.le_of_eq rfl) (by decide) at_196 rfl fun r641 T642 Lc643 X644 hQ645 => ?_
        obtain ⟨r646, rfl, hs647, Nq648, eh649⟩ := hQ645
        have N650 := Fr.app N632 Nq648
        show Goes _ _ _ _ _ _ 199 _ [(.int r646)]
        have hq652 : r646.toInt = 0 := by
          rw [Nat.sub_self] at hs647
          have hu : own_us f55 n579 0 = 0 := rfl
          have fr653 := rng32 r646
          have fc654 : (65536 : Int32).toInt = 65536 := rfl
          have fc655 : (0 : Int32).toInt = 0 := rfl
          have fc656 : (1 : Int32).toInt = 1 := rfl
          have fc657 : (2 : Int32).toInt = 2 := rfl
          omega
        refine g_if_ne_f 202 rfl C X644 at_199 hq652 ?_
        clear hs647
        refine g_iconst 203 rfl C X644 (1 : Int32) at_202 rfl ?_
        refine g_goto 207 C X644 at_203 (by decide) (by decide) ?_
        refine g_istore 209 rfl C X644 (1 : Int32) rfl #[.val (.int p0), .val (.int p1), .val (.int p2), .val (.int p3), .val (.ref o3), .val (.int r16), .val (.int r26), .val (.int v47), .val (.int v65), .val (.int v67), .val (.int (2 : Int32)), .val (.int (1 : Int32)), .val (.int v577), .val (.int (0 : Int32)), .val (.int (3 : Int32)), .val (.int (1 : Int32)), .val (.int (1 : Int32)), .val (.int (1 : Int32))] at_207 rfl ?_
        refine g_iload 211 rfl C X644 at_209 rfl ?_
        refine g_if_eq_f 214 rfl C X644 at_211 (by decide) ?_
        refine g_iload 216 rfl C X644 at_214 rfl ?_
        refine g_if_eq_f 219 rfl C X644 at_216 (by decide) ?_
        refine g_iload 221 rfl C X644 at_219 rfl ?_
        refine g_if_eq_f 224 rfl C X644 at_221 (by decide) ?_
        refine g_iconst 225 rfl C X644 (1 : Int32) at_224 rfl ?_
        refine g_goto 229 C X644 at_225 (by decide) (by decide) ?_
        exact g_retN C X644 (z' := (1 : Int32)) rfl (Or.inl rfl) at_229 eh649 (by decide) (by decide) rfl ⟨rfl, N650⟩
      · skip
        refine g_if_ne_t 102 C X53 at_95 (by decide) (by decide) hb578 ?_
        refine g_iload 104 rfl C X53 at_102 rfl ?_
        refine g_iload 106 rfl C X53 at_104 rfl ?_
        by_cases hb658 : v47.toInt < v577.toInt
        · skip
          refine g_icmp_gt_t 114 C X53 at_106 (by decide) (by decide) hb658 ?_
          refine g_iload 116 rfl C X53 at_114 rfl ?_
          refine g_iload 118 rfl C X53 at_116 rfl ?_
          refine g_iadd 119 rfl C X53 at_118 ?_
          refine g_istore 121 rfl C X53 (3 : Int32) (by decide) #[.val (.int p0), .val (.int p1), .val (.int p2), .val (.int p3), .val (.ref o3), .val (.int r16), .val (.int r26), .val (.int v47), .val (.int v65), .val (.int v67), .val (.int (2 : Int32)), .val (.int (1 : Int32)), .val (.int v577), .val (.int (3 : Int32)), .unset, .unset, .unset, .unset] at_119 rfl ?_
          refine g_iload 123 rfl C X53 at_121 rfl ?_
          refine g_if_ne_t 134 C X53 at_123 (by decide) (by decide) hb578 ?_
          refine g_iload 136 rfl C X53 at_134 rfl ?_
          refine g_iload 138 rfl C X53 at_136 rfl ?_
          refine g_icmp_gt_t 146 C X53 at_138 (by decide) (by decide) hb658 ?_
          refine g_iconst 147 rfl C X53 (0 : Int32) at_146 rfl ?_
          refine g_istore 149 rfl C X53 (0 : Int32) rfl #[.val (.int p0), .val (.int p1), .val (.int p2), .val (.int p3), .val (.ref o3), .val (.int r16), .val (.int r26), .val (.int v47), .val (.int v65), .val (.int v67), .val (.int (2 : Int32)), .val (.int (1 : Int32)), .val (.int v577), .val (.int (3 : Int32)), .val (.int (0 : Int32)), .unset, .unset, .unset] at_147 rfl ?_
          refine g_aload 151 rfl C X53 at_149 rfl rfl ?_
          refine g_iconst 152 rfl C X53 (0 : Int32) at_151 rfl ?_
          refine g_iload 154 rfl C X53 at_152 rfl ?_
          have hq660 : 0 ≤ v577.toInt ∧ v577.toInt ≤ ((q38 + q56 : Nat) : Int) := by
            have hrem := c_iremV (p3 &&& (2147483647 : Int32)) (v67 + (1 : Int32))
            have fr661 := rng32 p3
            have fc662 : (2147483647 : Int32).toInt = 2147483647 := rfl
            have fo663 : (p3 &&& (2147483647 : Int32)).toInt = p3.toInt % 2147483648 := c_mask p3 (2147483647 : Int32) 31 (by decide) (by decide)
            have fr664 := rng32 v67
            have fr665 := rng32 v47
            have fr666 := rng32 v65
            have fo667 := c_iadd v47 v65
            have fr668 := rng32 (v47 + v65)
            have fe669 : (v47 + v65).toInt = v67.toInt := congrArg Int32.toInt hv67
            have fc670 : (1 : Int32).toInt = 1 := rfl
            have fo671 := c_iadd v67 (1 : Int32)
            have fr672 := rng32 (v67 + (1 : Int32))
            have fr673 := rng32 v577
            have fr675 := rng32 ((p3 &&& (2147483647 : Int32)) % (v67 + (1 : Int32)))
            have fe676 : ((p3 &&& (2147483647 : Int32)) % (v67 + (1 : Int32))).toInt = v577.toInt := congrArg Int32.toInt hv577
            omega
          obtain ⟨n659, hn659⟩ : ∃ n : Nat, v577.toInt = n := ⟨v577.toInt.toNat, by omega⟩
          have hn659m : n659 ≤ q38 + q56 := by omega
          have ha677 : own_wt (f55 0) = (if r16.toInt < 65536 then 1 else 2) := by rw [← hl40]; exact own_wtc (hk60 0 (by omega))
          have ha678 : ∀ j, 0 < j → j < q38 → own_wt (f55 j) = 0 := fun j r1 r2 => by rw [own_wtc (hk60 j (by omega))]; exact hc41 j r1 (by omega)
          refine g_callS 157 rfl C X53 (argsL := [(.ref o3), (.int (0 : Int32)), (.int v577)]) (hw _ (List.mem_of_getElem? (i := 13) rfl)) (hw _ (List.mem_of_getElem? (i := 14) rfl)) (hw _ (List.mem_of_getElem? (i := 15) rfl)) (hw _ (List.mem_of_getElem? (i := 9) rfl)) rfl (rm3 l Z a0 hw [] o3 (0 : Int32) v577 f55 0 n659 (T51.heap) n0 Zs64 B63 rfl hn659 (by omega) (by omega)) (lenOf pd_14998784 rfl) (by decide) (by decide) (by decide) (by decide) rfl (W := 0) (Nat.le_of_eq rfl) (by decide) at_154 rfl fun r679 T680 Lc681 X682 hQ683 => ?_
          obtain ⟨r684, rfl, hs685, Nq686, eh687⟩ := hQ683
          have N688 := Fr.app N66 Nq686
          show Goes _ _ _ _ _ _ 157 _ [(.int r684)]
          refine g_iload 159 rfl C X682 at_157 rfl ?_
          have hq690 : r684.toInt = (3 : Int32).toInt := by
            have hp := own_pre f55 q38 q56 n659 _ _ (by omega) (by omega) ha677 ha678 hl58 hc59 (by omega)
            rw [Nat.sub_zero] at hs685
            have i1 : (if r16.toInt < 65536 then (1 : Int) else 2) = 1 ∧ r16.toInt < 65536 ∨ (if r16.toInt < 65536 then (1 : Int) else 2) = 2 ∧ ¬ r16.toInt < 65536 := by split <;> omega
            have i2 : (if r26.toInt < 65536 then (1 : Int) else 2) = 1 ∧ r26.toInt < 65536 ∨ (if r26.toInt < 65536 then (1 : Int) else 2) = 2 ∧ ¬ r26.toInt < 65536 := by split <;> omega
            have fr691 := rng32 r684
            have fc692 : (3 : Int32).toInt = 3 := rfl
            have fc693 : (65536 : Int32).toInt = 65536 := rfl
            have fc694 : (0 : Int32).toInt = 0 := rfl
            have fc695 : (1 : Int32).toInt = 1 := rfl
            have fc696 : (2 : Int32).toInt = 2 := rfl
            omega
          refine g_icmp_ne_f 162 rfl C X682 at_159 hq690 ?_
          clear hs685
          refine g_iconst 163 rfl C X682 (1 : Int32) at_162 rfl ?_
          refine g_goto 167 C X682 at_163 (by decide) (by decide) ?_
          refine g_istore 169 rfl C X682 (1 : Int32) rfl #[.val (.int p0), .val (.int p1), .val (.int p2), .val (.int p3), .val (.ref o3), .val (.int r16), .val (.int r26), .val (.int v47), .val (.int v65), .val (.int v67), .val (.int (2 : Int32)), .val (.int (1 : Int32)), .val (.int v577), .val (.int (3 : Int32)), .val (.int (0 : Int32)), .val (.int (1 : Int32)), .unset, .unset] at_167 rfl ?_
          refine g_aload 171 rfl C X682 at_169 rfl rfl ?_
          refine g_iload 173 rfl C X682 at_171 rfl ?_
          refine g_iload 175 rfl C X682 at_173 rfl ?_
          have hq697 : v67.toInt = ((q38 + q56 : Nat) : Int) := by
            have fr698 := rng32 v67
            have fr699 := rng32 v47
            have fr700 := rng32 v65
            have fo701 := c_iadd v47 v65
            have fr702 := rng32 (v47 + v65)
            have fe703 : (v47 + v65).toInt = v67.toInt := congrArg Int32.toInt hv67
            omega
          refine g_callS 178 rfl C X682 (argsL := [(.ref o3), (.int v577), (.int v67)]) (hw _ (List.mem_of_getElem? (i := 13) rfl)) (hw _ (List.mem_of_getElem? (i := 14) rfl)) (hw _ (List.mem_of_getElem? (i := 15) rfl)) (hw _ (List.mem_of_getElem? (i := 9) rfl)) eh687 (rm3 l Z a0 hw [] o3 v577 v67 f55 n659 (q38 + q56) (T51.heap) n0 Zs64 B63 hn659 hq697 (by omega) (by omega)) (lenOf pd_14998784 rfl) (by decide) (by decide) (by decide) (by decide) rfl (W := 0) (Nat.le_of_eq rfl) (by decide) at_175 rfl fun r704 T705 Lc706 X707 hQ708 => ?_
          obtain ⟨r709, rfl, hs710, Nq711, eh712⟩ := hQ708
          have N713 := Fr.app N688 Nq711
          show Goes _ _ _ _ _ _ 178 _ [(.int r709)]
          refine g_iload 180 rfl C X707 at_178 rfl ?_
          have hq715 : r709.toInt = (0 : Int32).toInt := by
            have hp := own_suf f55 q38 q56 n659 _ _ (by omega) (by omega) ha677 ha678 hl58 hc59 (by omega)
            have i1 : (if r16.toInt < 65536 then (1 : Int) else 2) = 1 ∧ r16.toInt < 65536 ∨ (if r16.toInt < 65536 then (1 : Int) else 2) = 2 ∧ ¬ r16.toInt < 65536 := by split <;> omega
            have i2 : (if r26.toInt < 65536 then (1 : Int) else 2) = 1 ∧ r26.toInt < 65536 ∨ (if r26.toInt < 65536 then (1 : Int) else 2) = 2 ∧ ¬ r26.toInt < 65536 := by split <;> omega
            have fr716 := rng32 r709
            have fc717 : (0 : Int32).toInt = 0 := rfl
            have fc718 : (65536 : Int32).toInt = 65536 := rfl
            have fc719 : (1 : Int32).toInt = 1 := rfl
            have fc720 : (2 : Int32).toInt = 2 := rfl
            omega
          refine g_icmp_ne_f 183 rfl C X707 at_180 hq715 ?_
          clear hs710
          refine g_iconst 184 rfl C X707 (1 : Int32) at_183 rfl ?_
          refine g_goto 188 C X707 at_184 (by decide) (by decide) ?_
          refine g_istore 190 rfl C X707 (1 : Int32) rfl #[.val (.int p0), .val (.int p1), .val (.int p2), .val (.int p3), .val (.ref o3), .val (.int r16), .val (.int r26), .val (.int v47), .val (.int v65), .val (.int v67), .val (.int (2 : Int32)), .val (.int (1 : Int32)), .val (.int v577), .val (.int (3 : Int32)), .val (.int (0 : Int32)), .val (.int (1 : Int32)), .val (.int (1 : Int32)), .unset] at_188 rfl ?_
          refine g_aload 192 rfl C X707 at_190 rfl rfl ?_
          refine g_iload 194 rfl C X707 at_192 rfl ?_
          refine g_iload 196 rfl C X707 at_194 rfl ?_
          refine g_callS 199 rfl C X707 (argsL := [(.ref o3), (.int v577), (.int v577)]) (hw _ (List.mem_of_getElem? (i := 13) rfl)) (hw _ (List.mem_of_getElem? (i := 14) rfl)) (hw _ (List.mem_of_getElem? (i := 15) rfl)) (hw _ (List.mem_of_getElem? (i := 9) rfl)) eh712 (rm3 l Z a0 hw [] o3 v577 v577 f55 n659 n659 (T51.heap) n0 Zs64 B63 hn659 hn659 (by omega) (by omega)) (lenOf pd_14998784 rfl) (by decide) (by decide) (by decide) (by decide) rfl (W := 0) (Nat.le_of_eq rfl) (by decide) at_196 rfl fun r721 T722 Lc723 X724 hQ725 => ?_
          obtain ⟨r726, rfl, hs727, Nq728, eh729⟩ := hQ725
          have N730 := Fr.app N713 Nq728
          show Goes _ _ _ _ _ _ 199 _ [(.int r726)]
          have hq732 : r726.toInt = 0 := by
            rw [Nat.sub_self] at hs727
            have hu : own_us f55 n659 0 = 0 := rfl
            have fr733 := rng32 r726
            have fc734 : (65536 : Int32).toInt = 65536 := rfl
            have fc735 : (0 : Int32).toInt = 0 := rfl
            have fc736 : (1 : Int32).toInt = 1 := rfl
            have fc737 : (2 : Int32).toInt = 2 := rfl
            omega
          refine g_if_ne_f 202 rfl C X724 at_199 hq732 ?_
          clear hs727
          refine g_iconst 203 rfl C X724 (1 : Int32) at_202 rfl ?_
          refine g_goto 207 C X724 at_203 (by decide) (by decide) ?_
          refine g_istore 209 rfl C X724 (1 : Int32) rfl #[.val (.int p0), .val (.int p1), .val (.int p2), .val (.int p3), .val (.ref o3), .val (.int r16), .val (.int r26), .val (.int v47), .val (.int v65), .val (.int v67), .val (.int (2 : Int32)), .val (.int (1 : Int32)), .val (.int v577), .val (.int (3 : Int32)), .val (.int (0 : Int32)), .val (.int (1 : Int32)), .val (.int (1 : Int32)), .val (.int (1 : Int32))] at_207 rfl ?_
          refine g_iload 211 rfl C X724 at_209 rfl ?_
          refine g_if_eq_f 214 rfl C X724 at_211 (by decide) ?_
          refine g_iload 216 rfl C X724 at_214 rfl ?_
          refine g_if_eq_f 219 rfl C X724 at_216 (by decide) ?_
          refine g_iload 221 rfl C X724 at_219 rfl ?_
          refine g_if_eq_f 224 rfl C X724 at_221 (by decide) ?_
          refine g_iconst 225 rfl C X724 (1 : Int32) at_224 rfl ?_
          refine g_goto 229 C X724 at_225 (by decide) (by decide) ?_
          exact g_retN C X724 (z' := (1 : Int32)) rfl (Or.inl rfl) at_229 eh729 (by decide) (by decide) rfl ⟨rfl, N730⟩
        · skip
          refine g_icmp_gt_f 109 rfl C X53 at_106 hb658 ?_
          refine g_iload 111 rfl C X53 at_109 rfl ?_
          refine g_goto 119 C X53 at_111 (by decide) (by decide) ?_
          refine g_istore 121 rfl C X53 (2 : Int32) rfl #[.val (.int p0), .val (.int p1), .val (.int p2), .val (.int p3), .val (.ref o3), .val (.int r16), .val (.int r26), .val (.int v47), .val (.int v65), .val (.int v67), .val (.int (2 : Int32)), .val (.int (1 : Int32)), .val (.int v577), .val (.int (2 : Int32)), .unset, .unset, .unset, .unset] at_119 rfl ?_
          refine g_iload 123 rfl C X53 at_121 rfl ?_
          refine g_if_ne_t 134 C X53 at_123 (by decide) (by decide) hb578 ?_
          refine g_iload 136 rfl C X53 at_134 rfl ?_
          refine g_iload 138 rfl C X53 at_136 rfl ?_
          refine g_icmp_gt_f 141 rfl C X53 at_138 hb658 ?_
          refine g_iload 143 rfl C X53 at_141 rfl ?_
          refine g_goto 147 C X53 at_143 (by decide) (by decide) ?_
          refine g_istore 149 rfl C X53 (1 : Int32) rfl #[.val (.int p0), .val (.int p1), .val (.int p2), .val (.int p3), .val (.ref o3), .val (.int r16), .val (.int r26), .val (.int v47), .val (.int v65), .val (.int v67), .val (.int (2 : Int32)), .val (.int (1 : Int32)), .val (.int v577), .val (.int (2 : Int32)), .val (.int (1 : Int32)), .unset, .unset, .unset] at_147 rfl ?_
          refine g_aload 151 rfl C X53 at_149 rfl rfl ?_
          refine g_iconst 152 rfl C X53 (0 : Int32) at_151 rfl ?_
          refine g_iload 154 rfl C X53 at_152 rfl ?_
          have hq739 : 0 ≤ v577.toInt ∧ v577.toInt ≤ ((q38 + q56 : Nat) : Int) := by
            have hrem := c_iremV (p3 &&& (2147483647 : Int32)) (v67 + (1 : Int32))
            have fr740 := rng32 p3
            have fc741 : (2147483647 : Int32).toInt = 2147483647 := rfl
            have fo742 : (p3 &&& (2147483647 : Int32)).toInt = p3.toInt % 2147483648 := c_mask p3 (2147483647 : Int32) 31 (by decide) (by decide)
            have fr743 := rng32 v67
            have fr744 := rng32 v47
            have fr745 := rng32 v65
            have fo746 := c_iadd v47 v65
            have fr747 := rng32 (v47 + v65)
            have fe748 : (v47 + v65).toInt = v67.toInt := congrArg Int32.toInt hv67
            have fc749 : (1 : Int32).toInt = 1 := rfl
            have fo750 := c_iadd v67 (1 : Int32)
            have fr751 := rng32 (v67 + (1 : Int32))
            have fr752 := rng32 v577
            have fr754 := rng32 ((p3 &&& (2147483647 : Int32)) % (v67 + (1 : Int32)))
            have fe755 : ((p3 &&& (2147483647 : Int32)) % (v67 + (1 : Int32))).toInt = v577.toInt := congrArg Int32.toInt hv577
            omega
          obtain ⟨n738, hn738⟩ : ∃ n : Nat, v577.toInt = n := ⟨v577.toInt.toNat, by omega⟩
          have hn738m : n738 ≤ q38 + q56 := by omega
          have ha756 : own_wt (f55 0) = (if r16.toInt < 65536 then 1 else 2) := by rw [← hl40]; exact own_wtc (hk60 0 (by omega))
          have ha757 : ∀ j, 0 < j → j < q38 → own_wt (f55 j) = 0 := fun j r1 r2 => by rw [own_wtc (hk60 j (by omega))]; exact hc41 j r1 (by omega)
          refine g_callS 157 rfl C X53 (argsL := [(.ref o3), (.int (0 : Int32)), (.int v577)]) (hw _ (List.mem_of_getElem? (i := 13) rfl)) (hw _ (List.mem_of_getElem? (i := 14) rfl)) (hw _ (List.mem_of_getElem? (i := 15) rfl)) (hw _ (List.mem_of_getElem? (i := 9) rfl)) rfl (rm3 l Z a0 hw [] o3 (0 : Int32) v577 f55 0 n738 (T51.heap) n0 Zs64 B63 rfl hn738 (by omega) (by omega)) (lenOf pd_14998784 rfl) (by decide) (by decide) (by decide) (by decide) rfl (W := 0) (Nat.le_of_eq rfl) (by decide) at_154 rfl fun r758 T759 Lc760 X761 hQ762 => ?_
          obtain ⟨r763, rfl, hs764, Nq765, eh766⟩ := hQ762
          have N767 := Fr.app N66 Nq765
          show Goes _ _ _ _ _ _ 157 _ [(.int r763)]
          refine g_iload 159 rfl C X761 at_157 rfl ?_
          have hq769 : r763.toInt = (2 : Int32).toInt := by
            have hp := own_pre f55 q38 q56 n738 _ _ (by omega) (by omega) ha756 ha757 hl58 hc59 (by omega)
            rw [Nat.sub_zero] at hs764
            have i1 : (if r16.toInt < 65536 then (1 : Int) else 2) = 1 ∧ r16.toInt < 65536 ∨ (if r16.toInt < 65536 then (1 : Int) else 2) = 2 ∧ ¬ r16.toInt < 65536 := by split <;> omega
            have i2 : (if r26.toInt < 65536 then (1 : Int) else 2) = 1 ∧ r26.toInt < 65536 ∨ (if r26.toInt < 65536 then (1 : Int) else 2) = 2 ∧ ¬ r26.toInt < 65536 := by split <;> omega
            have fr770 := rng32 r763
            have fc771 : (2 : Int32).toInt = 2 := rfl
            have fc772 : (65536 : Int32).toInt = 65536 := rfl
            have fc773 : (0 : Int32).toInt = 0 := rfl
            have fc774 : (1 : Int32).toInt = 1 := rfl
            omega
          refine g_icmp_ne_f 162 rfl C X761 at_159 hq769 ?_
          clear hs764
          refine g_iconst 163 rfl C X761 (1 : Int32) at_162 rfl ?_
          refine g_goto 167 C X761 at_163 (by decide) (by decide) ?_
          refine g_istore 169 rfl C X761 (1 : Int32) rfl #[.val (.int p0), .val (.int p1), .val (.int p2), .val (.int p3), .val (.ref o3), .val (.int r16), .val (.int r26), .val (.int v47), .val (.int v65), .val (.int v67), .val (.int (2 : Int32)), .val (.int (1 : Int32)), .val (.int v577), .val (.int (2 : Int32)), .val (.int (1 : Int32)), .val (.int (1 : Int32)), .unset, .unset] at_167 rfl ?_
          refine g_aload 171 rfl C X761 at_169 rfl rfl ?_
          refine g_iload 173 rfl C X761 at_171 rfl ?_
          refine g_iload 175 rfl C X761 at_173 rfl ?_
          have hq775 : v67.toInt = ((q38 + q56 : Nat) : Int) := by
            have fr776 := rng32 v67
            have fr777 := rng32 v47
            have fr778 := rng32 v65
            have fo779 := c_iadd v47 v65
            have fr780 := rng32 (v47 + v65)
            have fe781 : (v47 + v65).toInt = v67.toInt := congrArg Int32.toInt hv67
            omega
          refine g_callS 178 rfl C X761 (argsL := [(.ref o3), (.int v577), (.int v67)]) (hw _ (List.mem_of_getElem? (i := 13) rfl)) (hw _ (List.mem_of_getElem? (i := 14) rfl)) (hw _ (List.mem_of_getElem? (i := 15) rfl)) (hw _ (List.mem_of_getElem? (i := 9) rfl)) eh766 (rm3 l Z a0 hw [] o3 v577 v67 f55 n738 (q38 + q56) (T51.heap) n0 Zs64 B63 hn738 hq775 (by omega) (by omega)) (lenOf pd_14998784 rfl) (by decide) (by decide) (by decide) (by decide) rfl (W := 0) (Nat.le_of_eq rfl) (by decide) at_175 rfl fun r782 T783 Lc784 X785 hQ786 => ?_
          obtain ⟨r787, rfl, hs788, Nq789, eh790⟩ := hQ786
          have N791 := Fr.app N767 Nq789
          show Goes _ _ _ _ _ _ 178 _ [(.int r787)]
          refine g_iload 180 rfl C X785 at_178 rfl ?_
          have hq793 : r787.toInt = (1 : Int32).toInt := by
            have hp := own_suf f55 q38 q56 n738 _ _ (by omega) (by omega) ha756 ha757 hl58 hc59 (by omega)
            have i1 : (if r16.toInt < 65536 then (1 : Int) else 2) = 1 ∧ r16.toInt < 65536 ∨ (if r16.toInt < 65536 then (1 : Int) else 2) = 2 ∧ ¬ r16.toInt < 65536 := by split <;> omega
            have i2 : (if r26.toInt < 65536 then (1 : Int) else 2) = 1 ∧ r26.toInt < 65536 ∨ (if r26.toInt < 65536 then (1 : Int) else 2) = 2 ∧ ¬ r26.toInt < 65536 := by split <;> omega
            have fr794 := rng32 r787
            have fc795 : (1 : Int32).toInt = 1 := rfl
            have fc796 : (65536 : Int32).toInt = 65536 := rfl
            have fc797 : (0 : Int32).toInt = 0 := rfl
            have fc798 : (2 : Int32).toInt = 2 := rfl
            omega
          refine g_icmp_ne_f 183 rfl C X785 at_180 hq793 ?_
          clear hs788
          refine g_iconst 184 rfl C X785 (1 : Int32) at_183 rfl ?_
          refine g_goto 188 C X785 at_184 (by decide) (by decide) ?_
          refine g_istore 190 rfl C X785 (1 : Int32) rfl #[.val (.int p0), .val (.int p1), .val (.int p2), .val (.int p3), .val (.ref o3), .val (.int r16), .val (.int r26), .val (.int v47), .val (.int v65), .val (.int v67), .val (.int (2 : Int32)), .val (.int (1 : Int32)), .val (.int v577), .val (.int (2 : Int32)), .val (.int (1 : Int32)), .val (.int (1 : Int32)), .val (.int (1 : Int32)), .unset] at_188 rfl ?_
          refine g_aload 192 rfl C X785 at_190 rfl rfl ?_
          refine g_iload 194 rfl C X785 at_192 rfl ?_
          refine g_iload 196 rfl C X785 at_194 rfl ?_
          refine g_callS 199 rfl C X785 (argsL := [(.ref o3), (.int v577), (.int v577)]) (hw _ (List.mem_of_getElem? (i := 13) rfl)) (hw _ (List.mem_of_getElem? (i := 14) rfl)) (hw _ (List.mem_of_getElem? (i := 15) rfl)) (hw _ (List.mem_of_getElem? (i := 9) rfl)) eh790 (rm3 l Z a0 hw [] o3 v577 v577 f55 n738 n738 (T51.heap) n0 Zs64 B63 hn738 hn738 (by omega) (by omega)) (lenOf pd_14998784 rfl) (by decide) (by decide) (by decide) (by decide) rfl (W := 0) (Nat.le_of_eq rfl) (by decide) at_196 rfl fun r799 T800 Lc801 X802 hQ803 => ?_
          obtain ⟨r804, rfl, hs805, Nq806, eh807⟩ := hQ803
          have N808 := Fr.app N791 Nq806
          show Goes _ _ _ _ _ _ 199 _ [(.int r804)]
          have hq810 : r804.toInt = 0 := by
            rw [Nat.sub_self] at hs805
            have hu : own_us f55 n738 0 = 0 := rfl
            have fr811 := rng32 r804
            have fc812 : (65536 : Int32).toInt = 65536 := rfl
            have fc813 : (0 : Int32).toInt = 0 := rfl
            have fc814 : (1 : Int32).toInt = 1 := rfl
            have fc815 : (2 : Int32).toInt = 2 := rfl
            omega
          refine g_if_ne_f 202 rfl C X802 at_199 hq810 ?_
          clear hs805
          refine g_iconst 203 rfl C X802 (1 : Int32) at_202 rfl ?_
          refine g_goto 207 C X802 at_203 (by decide) (by decide) ?_
          refine g_istore 209 rfl C X802 (1 : Int32) rfl #[.val (.int p0), .val (.int p1), .val (.int p2), .val (.int p3), .val (.ref o3), .val (.int r16), .val (.int r26), .val (.int v47), .val (.int v65), .val (.int v67), .val (.int (2 : Int32)), .val (.int (1 : Int32)), .val (.int v577), .val (.int (2 : Int32)), .val (.int (1 : Int32)), .val (.int (1 : Int32)), .val (.int (1 : Int32)), .val (.int (1 : Int32))] at_207 rfl ?_
          refine g_iload 211 rfl C X802 at_209 rfl ?_
          refine g_if_eq_f 214 rfl C X802 at_211 (by decide) ?_
          refine g_iload 216 rfl C X802 at_214 rfl ?_
          refine g_if_eq_f 219 rfl C X802 at_216 (by decide) ?_
          refine g_iload 221 rfl C X802 at_219 rfl ?_
          refine g_if_eq_f 224 rfl C X802 at_221 (by decide) ?_
          refine g_iconst 225 rfl C X802 (1 : Int32) at_224 rfl ?_
          refine g_goto 229 C X802 at_225 (by decide) (by decide) ?_
          exact g_retN C X802 (z' := (1 : Int32)) rfl (Or.inl rfl) at_229 eh807 (by decide) (by decide) rfl ⟨rfl, N808⟩
    · skip
      refine g_icmp_lt_f 75 rfl C X53 at_72 hb566 ?_
      refine g_iconst 76 rfl C X53 (2 : Int32) at_75 rfl ?_
      refine g_goto 80 C X53 at_76 (by decide) (by decide) ?_
      refine g_istore 82 rfl C X53 (2 : Int32) rfl #[.val (.int p0), .val (.int p1), .val (.int p2), .val (.int p3), .val (.ref o3), .val (.int r16), .val (.int r26), .val (.int v47), .val (.int v65), .val (.int v67), .val (.int (2 : Int32)), .val (.int (2 : Int32)), .unset, .unset, .unset, .unset, .unset, .unset] at_80 rfl ?_
      refine g_iloadN 83 rfl C X53 at_82 rfl ?_
      refine g_ldc 85 rfl C X53 (hw _ (List.mem_of_getElem? (i := 5) rfl)) at_83 ?_
      refine g_iand 86 rfl C X53 at_85 ?_
      refine g_iload 88 rfl C X53 at_86 rfl ?_
      refine g_iconst 89 rfl C X53 (1 : Int32) at_88 rfl ?_
      refine g_iadd 90 rfl C X53 at_89 ?_
      have hq816 : (v67 + (1 : Int32)).toInt ≠ 0 := by
        have fr817 := rng32 v67
        have fr818 := rng32 v47
        have fr819 := rng32 v65
        have fo820 := c_iadd v47 v65
        have fr821 := rng32 (v47 + v65)
        have fe822 : (v47 + v65).toInt = v67.toInt := congrArg Int32.toInt hv67
        have fc823 : (1 : Int32).toInt = 1 := rfl
        have fo824 := c_iadd v67 (1 : Int32)
        have fr825 := rng32 (v67 + (1 : Int32))
        omega
      refine g_irem 91 rfl C X53 at_90 (fun r => hq816 (by rw [r]; rfl)) ?_
      obtain ⟨v826, hv826⟩ : ∃ z : Int32, ((p3 &&& (2147483647 : Int32)) % (v67 + (1 : Int32))) = z := ⟨_, rfl⟩
      refine g_istore 93 rfl C X53 v826 hv826 #[.val (.int p0), .val (.int p1), .val (.int p2), .val (.int p3), .val (.ref o3), .val (.int r16), .val (.int r26), .val (.int v47), .val (.int v65), .val (.int v67), .val (.int (2 : Int32)), .val (.int (2 : Int32)), .val (.int v826), .unset, .unset, .unset, .unset, .unset] at_91 rfl ?_
      refine g_iload 95 rfl C X53 at_93 rfl ?_
      by_cases hb827 : v826.toInt = 0
      · skip
        refine g_if_ne_f 98 rfl C X53 at_95 hb827 ?_
        refine g_iconst 99 rfl C X53 (0 : Int32) at_98 rfl ?_
        refine g_goto 119 C X53 at_99 (by decide) (by decide) ?_
        refine g_istore 121 rfl C X53 (0 : Int32) rfl #[.val (.int p0), .val (.int p1), .val (.int p2), .val (.int p3), .val (.ref o3), .val (.int r16), .val (.int r26), .val (.int v47), .val (.int v65), .val (.int v67), .val (.int (2 : Int32)), .val (.int (2 : Int32)), .val (.int v826), .val (.int (0 : Int32)), .unset, .unset, .unset, .unset] at_119 rfl ?_
        refine g_iload 123 rfl C X53 at_121 rfl ?_
        refine g_if_ne_f 126 rfl C X53 at_123 hb827 ?_
        refine g_iload 128 rfl C X53 at_126 rfl ?_
        refine g_iload 130 rfl C X53 at_128 rfl ?_
        refine g_iadd 131 rfl C X53 at_130 ?_
        refine g_goto 147 C X53 at_131 (by decide) (by decide) ?_
        refine g_istore 149 rfl C X53 (4 : Int32) (by decide) #[.val (.int p0), .val (.int p1), .val (.int p2), .val (.int p3), .val (.ref o3), .val (.int r16), .val (.int r26), .val (.int v47), .val (.int v65), .val (.int v67), .val (.int (2 : Int32)), .val (.int (2 : Int32)), .val (.int v826), .val (.int (0 : Int32)), .val (.int (4 : Int32)), .unset, .unset, .unset] at_147 rfl ?_
        refine g_aload 151 rfl C X53 at_149 rfl rfl ?_
        refine g_iconst 152 rfl C X53 (0 : Int32) at_151 rfl ?_
        refine g_iload 154 rfl C X53 at_152 rfl ?_
        have hq829 : 0 ≤ v826.toInt ∧ v826.toInt ≤ ((q38 + q56 : Nat) : Int) := by
          have hrem := c_iremV (p3 &&& (2147483647 : Int32)) (v67 + (1 : Int32))
          have fr830 := rng32 p3
          have fc831 : (2147483647 : Int32).toInt = 2147483647 := rfl
          have fo832 : (p3 &&& (2147483647 : Int32)).toInt = p3.toInt % 2147483648 := c_mask p3 (2147483647 : Int32) 31 (by decide) (by decide)
          have fr833 := rng32 v67
          have fr834 := rng32 v47
          have fr835 := rng32 v65
          have fo836 := c_iadd v47 v65
          have fr837 := rng32 (v47 + v65)
          have fe838 : (v47 + v65).toInt = v67.toInt := congrArg Int32.toInt hv67
          have fc839 : (1 : Int32).toInt = 1 := rfl
          have fo840 := c_iadd v67 (1 : Int32)
          have fr841 := rng32 (v67 + (1 : Int32))
          have fr842 := rng32 v826
          have fr844 := rng32 ((p3 &&& (2147483647 : Int32)) % (v67 + (1 : Int32)))
          have fe845 : ((p3 &&& (2147483647 : Int32)) % (v67 + (1 : Int32))).toInt = v826.toInt := congrArg Int32.toInt hv826
          omega
        obtain ⟨n828, hn828⟩ : ∃ n : Nat, v826.toInt = n := ⟨v826.toInt.toNat, by omega⟩
        have hn828m : n828 ≤ q38 + q56 := by omega
        have ha846 : own_wt (f55 0) = (if r16.toInt < 65536 then 1 else 2) := by rw [← hl40]; exact own_wtc (hk60 0 (by omega))
        have ha847 : ∀ j, 0 < j → j < q38 → own_wt (f55 j) = 0 := fun j r1 r2 => by rw [own_wtc (hk60 j (by omega))]; exact hc41 j r1 (by omega)
        refine g_callS 157 rfl C X53 (argsL := [(.ref o3), (.int (0 : Int32)), (.int v826)]) (hw _ (List.mem_of_getElem? (i := 13) rfl)) (hw _ (List.mem_of_getElem? (i := 14) rfl)) (hw _ (List.mem_of_getElem? (i := 15) rfl)) (hw _ (List.mem_of_getElem? (i := 9) rfl)) rfl (rm3 l Z a0 hw [] o3 (0 : Int32) v826 f55 0 n828 (T51.heap) n0 Zs64 B63 rfl hn828 (by omega) (by omega)) (lenOf pd_14998784 rfl) (by decide) (by decide) (by decide) (by decide) rfl (W := 0) (Nat.le_of_eq rfl) (by decide) at_154 rfl fun r848 T849 Lc850 X851 hQ852 => ?_
        obtain ⟨r853, rfl, hs854, Nq855, eh856⟩ := hQ852
        have N857 := Fr.app N66 Nq855
        show Goes _ _ _ _ _ _ 157 _ [(.int r853)]
        refine g_iload 159 rfl C X851 at_157 rfl ?_
        have hq859 : r853.toInt = (0 : Int32).toInt := by
          have hp := own_pre f55 q38 q56 n828 _ _ (by omega) (by omega) ha846 ha847 hl58 hc59 (by omega)
          rw [Nat.sub_zero] at hs854
          have i1 : (if r16.toInt < 65536 then (1 : Int) else 2) = 1 ∧ r16.toInt < 65536 ∨ (if r16.toInt < 65536 then (1 : Int) else 2) = 2 ∧ ¬ r16.toInt < 65536 := by split <;> omega
          have i2 : (if r26.toInt < 65536 then (1 : Int) else 2) = 1 ∧ r26.toInt < 65536 ∨ (if r26.toInt < 65536 then (1 : Int) else 2) = 2 ∧ ¬ r26.toInt < 65536 := by split <;> omega
          have fr860 := rng32 r853
          have fc861 : (0 : Int32).toInt = 0 := rfl
          have fc862 : (65536 : Int32).toInt = 65536 := rfl
          have fc863 : (1 : Int32).toInt = 1 := rfl
          have fc864 : (2 : Int32).toInt = 2 := rfl
          omega
        refine g_icmp_ne_f 162 rfl C X851 at_159 hq859 ?_
        clear hs854
        refine g_iconst 163 rfl C X851 (1 : Int32) at_162 rfl ?_
        refine g_goto 167 C X851 at_163 (by decide) (by decide) ?_
        refine g_istore 169 rfl C X851 (1 : Int32) rfl #[.val (.int p0), .val (.int p1), .val (.int p2), .val (.int p3), .val (.ref o3), .val (.int r16), .val (.int r26), .val (.int v47), .val (.int v65), .val (.int v67), .val (.int (2 : Int32)), .val (.int (2 : Int32)), .val (.int v826), .val (.int (0 : Int32)), .val (.int (4 : Int32)), .val (.int (1 : Int32)), .unset, .unset] at_167 rfl ?_
        refine g_aload 171 rfl C X851 at_169 rfl rfl ?_
        refine g_iload 173 rfl C X851 at_171 rfl ?_
        refine g_iload 175 rfl C X851 at_173 rfl ?_
        have hq865 : v67.toInt = ((q38 + q56 : Nat) : Int) := by
          have fr866 := rng32 v67
          have fr867 := rng32 v47
          have fr868 := rng32 v65
          have fo869 := c_iadd v47 v65
          have fr870 := rng32 (v47 + v65)
          have fe871 : (v47 + v65).toInt = v67.toInt := congrArg Int32.toInt hv67
          omega
        refine g_callS 178 rfl C X851 (argsL := [(.ref o3), (.int v826), (.int v67)]) (hw _ (List.mem_of_getElem? (i := 13) rfl)) (hw _ (List.mem_of_getElem? (i := 14) rfl)) (hw _ (List.mem_of_getElem? (i := 15) rfl)) (hw _ (List.mem_of_getElem? (i := 9) rfl)) eh856 (rm3 l Z a0 hw [] o3 v826 v67 f55 n828 (q38 + q56) (T51.heap) n0 Zs64 B63 hn828 hq865 (by omega) (by omega)) (lenOf pd_14998784 rfl) (by decide) (by decide) (by decide) (by decide) rfl (W := 0) (Nat.le_of_eq rfl) (by decide) at_175 rfl fun r872 T873 Lc874 X875 hQ876 => ?_
        obtain ⟨r877, rfl, hs878, Nq879, eh880⟩ := hQ876
        have N881 := Fr.app N857 Nq879
        show Goes _ _ _ _ _ _ 178 _ [(.int r877)]
        refine g_iload 180 rfl C X875 at_178 rfl ?_
        have hq883 : r877.toInt = (4 : Int32).toInt := by
          have hp := own_suf f55 q38 q56 n828 _ _ (by omega) (by omega) ha846 ha847 hl58 hc59 (by omega)
          have i1 : (if r16.toInt < 65536 then (1 : Int) else 2) = 1 ∧ r16.toInt < 65536 ∨ (if r16.toInt < 65536 then (1 : Int) else 2) = 2 ∧ ¬ r16.toInt < 65536 := by split <;> omega
          have i2 : (if r26.toInt < 65536 then (1 : Int) else 2) = 1 ∧ r26.toInt < 65536 ∨ (if r26.toInt < 65536 then (1 : Int) else 2) = 2 ∧ ¬ r26.toInt < 65536 := by split <;> omega
          have fr884 := rng32 r877
          have fc885 : (4 : Int32).toInt = 4 := rfl
          have fc886 : (65536 : Int32).toInt = 65536 := rfl
          have fc887 : (0 : Int32).toInt = 0 := rfl
          have fc888 : (1 : Int32).toInt = 1 := rfl
          have fc889 : (2 : Int32).toInt = 2 := rfl
          omega
        refine g_icmp_ne_f 183 rfl C X875 at_180 hq883 ?_
        clear hs878
        refine g_iconst 184 rfl C X875 (1 : Int32) at_183 rfl ?_
        refine g_goto 188 C X875 at_184 (by decide) (by decide) ?_
        refine g_istore 190 rfl C X875 (1 : Int32) rfl #[.val (.int p0), .val (.int p1), .val (.int p2), .val (.int p3), .val (.ref o3), .val (.int r16), .val (.int r26), .val (.int v47), .val (.int v65), .val (.int v67), .val (.int (2 : Int32)), .val (.int (2 : Int32)), .val (.int v826), .val (.int (0 : Int32)), .val (.int (4 : Int32)), .val (.int (1 : Int32)), .val (.int (1 : Int32)), .unset] at_188 rfl ?_
        refine g_aload 192 rfl C X875 at_190 rfl rfl ?_
        refine g_iload 194 rfl C X875 at_192 rfl ?_
        refine g_iload 196 rfl C X875 at_194 rfl ?_
        refine g_callS 199 rfl C X875 (argsL := [(.ref o3), (.int v826), (.int v826)]) (hw _ (List.mem_of_getElem? (i := 13) rfl)) (hw _ (List.mem_of_getElem? (i := 14) rfl)) (hw _ (List.mem_of_getElem? (i := 15) rfl)) (hw _ (List.mem_of_getElem? (i := 9) rfl)) eh880 (rm3 l Z a0 hw [] o3 v826 v826 f55 n828 n828 (T51.heap) n0 Zs64 B63 hn828 hn828 (by omega) (by omega)) (lenOf pd_14998784 rfl) (by decide) (by decide) (by decide) (by decide) rfl (W := 0) (Nat.le_of_eq rfl) (by decide) at_196 rfl fun r890 T891 Lc892 X893 hQ894 => ?_
        obtain ⟨r895, rfl, hs896, Nq897, eh898⟩ := hQ894
        have N899 := Fr.app N881 Nq897
        show Goes _ _ _ _ _ _ 199 _ [(.int r895)]
        have hq901 : r895.toInt = 0 := by
          rw [Nat.sub_self] at hs896
          have hu : own_us f55 n828 0 = 0 := rfl
          have fr902 := rng32 r895
          have fc903 : (65536 : Int32).toInt = 65536 := rfl
          have fc904 : (0 : Int32).toInt = 0 := rfl
          have fc905 : (1 : Int32).toInt = 1 := rfl
          have fc906 : (2 : Int32).toInt = 2 := rfl
          omega
        refine g_if_ne_f 202 rfl C X893 at_199 hq901 ?_
        clear hs896
        refine g_iconst 203 rfl C X893 (1 : Int32) at_202 rfl ?_
        refine g_goto 207 C X893 at_203 (by decide) (by decide) ?_
        refine g_istore 209 rfl C X893 (1 : Int32) rfl #[.val (.int p0), .val (.int p1), .val (.int p2), .val (.int p3), .val (.ref o3), .val (.int r16), .val (.int r26), .val (.int v47), .val (.int v65), .val (.int v67), .val (.int (2 : Int32)), .val (.int (2 : Int32)), .val (.int v826), .val (.int (0 : Int32)), .val (.int (4 : Int32)), .val (.int (1 : Int32)), .val (.int (1 : Int32)), .val (.int (1 : Int32))] at_207 rfl ?_
        refine g_iload 211 rfl C X893 at_209 rfl ?_
        refine g_if_eq_f 214 rfl C X893 at_211 (by decide) ?_
        refine g_iload 216 rfl C X893 at_214 rfl ?_
        refine g_if_eq_f 219 rfl C X893 at_216 (by decide) ?_
        refine g_iload 221 rfl C X893 at_219 rfl ?_
        refine g_if_eq_f 224 rfl C X893 at_221 (by decide) ?_
        refine g_iconst 225 rfl C X893 (1 : Int32) at_224 rfl ?_
        refine g_goto 229 C X893 at_225 (by decide) (by decide) ?_
        exact g_retN C X893 (z' := (1 : Int32)) rfl (Or.inl rfl) at_229 eh898 (by decide) (by decide) rfl ⟨rfl, N899⟩
      · skip
        refine g_if_ne_t 102 C X53 at_95 (by decide) (by decide) hb827 ?_
        refine g_iload 104 rfl C X53 at_102 rfl ?_
        refine g_iload 106 rfl C X53 at_104 rfl ?_
        by_cases hb907 : v47.toInt < v826.toInt
        · skip
          refine g_icmp_gt_t 114 C X53 at_106 (by decide) (by decide) hb907 ?_
          refine g_iload 116 rfl C X53 at_114 rfl ?_
          refine g_iload 118 rfl C X53 at_116 rfl ?_
          refine g_iadd 119 rfl C X53 at_118 ?_
          refine g_istore 121 rfl C X53 (4 : Int32) (by decide) #[.val (.int p0), .val (.int p1), .val (.int p2), .val (.int p3), .val (.ref o3), .val (.int r16), .val (.int r26), .val (.int v47), .val (.int v65), .val (.int v67), .val (.int (2 : Int32)), .val (.int (2 : Int32)), .val (.int v826), .val (.int (4 : Int32)), .unset, .unset, .unset, .unset] at_119 rfl ?_
          refine g_iload 123 rfl C X53 at_121 rfl ?_
          refine g_if_ne_t 134 C X53 at_123 (by decide) (by decide) hb827 ?_
          refine g_iload 136 rfl C X53 at_134 rfl ?_
          refine g_iload 138 rfl C X53 at_136 rfl ?_
          refine g_icmp_gt_t 146 C X53 at_138 (by decide) (by decide) hb907 ?_
          refine g_iconst 147 rfl C X53 (0 : Int32) at_146 rfl ?_
          refine g_istore 149 rfl C X53 (0 : Int32) rfl #[.val (.int p0), .val (.int p1), .val (.int p2), .val (.int p3), .val (.ref o3), .val (.int r16), .val (.int r26), .val (.int v47), .val (.int v65), .val (.int v67), .val (.int (2 : Int32)), .val (.int (2 : Int32)), .val (.int v826), .val (.int (4 : Int32)), .val (.int (0 : Int32)), .unset, .unset, .unset] at_147 rfl ?_
          refine g_aload 151 rfl C X53 at_149 rfl rfl ?_
          refine g_iconst 152 rfl C X53 (0 : Int32) at_151 rfl ?_
          refine g_iload 154 rfl C X53 at_152 rfl ?_
          have hq909 : 0 ≤ v826.toInt ∧ v826.toInt ≤ ((q38 + q56 : Nat) : Int) := by
            have hrem := c_iremV (p3 &&& (2147483647 : Int32)) (v67 + (1 : Int32))
            have fr910 := rng32 p3
            have fc911 : (2147483647 : Int32).toInt = 2147483647 := rfl
            have fo912 : (p3 &&& (2147483647 : Int32)).toInt = p3.toInt % 2147483648 := c_mask p3 (2147483647 : Int32) 31 (by decide) (by decide)
            have fr913 := rng32 v67
            have fr914 := rng32 v47
            have fr915 := rng32 v65
            have fo916 := c_iadd v47 v65
            have fr917 := rng32 (v47 + v65)
            have fe918 : (v47 + v65).toInt = v67.toInt := congrArg Int32.toInt hv67
            have fc919 : (1 : Int32).toInt = 1 := rfl
            have fo920 := c_iadd v67 (1 : Int32)
            have fr921 := rng32 (v67 + (1 : Int32))
            have fr922 := rng32 v826
            have fr924 := rng32 ((p3 &&& (2147483647 : Int32)) % (v67 + (1 : Int32)))
            have fe925 : ((p3 &&& (2147483647 : Int32)) % (v67 + (1 : Int32))).toInt = v826.toInt := congrArg Int32.toInt hv826
            omega
          obtain ⟨n908, hn908⟩ : ∃ n : Nat, v826.toInt = n := ⟨v826.toInt.toNat, by omega⟩
          have hn908m : n908 ≤ q38 + q56 := by omega
          have ha926 : own_wt (f55 0) = (if r16.toInt < 65536 then 1 else 2) := by rw [← hl40]; exact own_wtc (hk60 0 (by omega))
          have ha927 : ∀ j, 0 < j → j < q38 → own_wt (f55 j) = 0 := fun j r1 r2 => by rw [own_wtc (hk60 j (by omega))]; exact hc41 j r1 (by omega)
          refine g_callS 157 rfl C X53 (argsL := [(.ref o3), (.int (0 : Int32)), (.int v826)]) (hw _ (List.mem_of_getElem? (i := 13) rfl)) (hw _ (List.mem_of_getElem? (i := 14) rfl)) (hw _ (List.mem_of_getElem? (i := 15) rfl)) (hw _ (List.mem_of_getElem? (i := 9) rfl)) rfl (rm3 l Z a0 hw [] o3 (0 : Int32) v826 f55 0 n908 (T51.heap) n0 Zs64 B63 rfl hn908 (by omega) (by omega)) (lenOf pd_14998784 rfl) (by decide) (by decide) (by decide) (by decide) rfl (W := 0) (Nat.le_of_eq rfl) (by decide) at_154 rfl fun r928 T929 Lc930 X931 hQ932 => ?_
          obtain ⟨r933, rfl, hs934, Nq935, eh936⟩ := hQ932
          have N937 := Fr.app N66 Nq935
          show Goes _ _ _ _ _ _ 157 _ [(.int r933)]
          refine g_iload 159 rfl C X931 at_157 rfl ?_
          have hq939 : r933.toInt = (4 : Int32).toInt := by
            have hp := own_pre f55 q38 q56 n908 _ _ (by omega) (by omega) ha926 ha927 hl58 hc59 (by omega)
            rw [Nat.sub_zero] at hs934
            have i1 : (if r16.toInt < 65536 then (1 : Int) else 2) = 1 ∧ r16.toInt < 65536 ∨ (if r16.toInt < 65536 then (1 : Int) else 2) = 2 ∧ ¬ r16.toInt < 65536 := by split <;> omega
            have i2 : (if r26.toInt < 65536 then (1 : Int) else 2) = 1 ∧ r26.toInt < 65536 ∨ (if r26.toInt < 65536 then (1 : Int) else 2) = 2 ∧ ¬ r26.toInt < 65536 := by split <;> omega
            have fr940 := rng32 r933
            have fc941 : (4 : Int32).toInt = 4 := rfl
            have fc942 : (65536 : Int32).toInt = 65536 := rfl
            have fc943 : (0 : Int32).toInt = 0 := rfl
            have fc944 : (1 : Int32).toInt = 1 := rfl
            have fc945 : (2 : Int32).toInt = 2 := rfl
            omega
          refine g_icmp_ne_f 162 rfl C X931 at_159 hq939 ?_
          clear hs934
          refine g_iconst 163 rfl C X931 (1 : Int32) at_162 rfl ?_
          refine g_goto 167 C X931 at_163 (by decide) (by decide) ?_
          refine g_istore 169 rfl C X931 (1 : Int32) rfl #[.val (.int p0), .val (.int p1), .val (.int p2), .val (.int p3), .val (.ref o3), .val (.int r16), .val (.int r26), .val (.int v47), .val (.int v65), .val (.int v67), .val (.int (2 : Int32)), .val (.int (2 : Int32)), .val (.int v826), .val (.int (4 : Int32)), .val (.int (0 : Int32)), .val (.int (1 : Int32)), .unset, .unset] at_167 rfl ?_
          refine g_aload 171 rfl C X931 at_169 rfl rfl ?_
          refine g_iload 173 rfl C X931 at_171 rfl ?_
          refine g_iload 175 rfl C X931 at_173 rfl ?_
          have hq946 : v67.toInt = ((q38 + q56 : Nat) : Int) := by
            have fr947 := rng32 v67
            have fr948 := rng32 v47
            have fr949 := rng32 v65
            have fo950 := c_iadd v47 v65
            have fr951 := rng32 (v47 + v65)
            have fe952 : (v47 + v65).toInt = v67.toInt := congrArg Int32.toInt hv67
            omega
          refine g_callS 178 rfl C X931 (argsL := [(.ref o3), (.int v826), (.int v67)]) (hw _ (List.mem_of_getElem? (i := 13) rfl)) (hw _ (List.mem_of_getElem? (i := 14) rfl)) (hw _ (List.mem_of_getElem? (i := 15) rfl)) (hw _ (List.mem_of_getElem? (i := 9) rfl)) eh936 (rm3 l Z a0 hw [] o3 v826 v67 f55 n908 (q38 + q56) (T51.heap) n0 Zs64 B63 hn908 hq946 (by omega) (by omega)) (lenOf pd_14998784 rfl) (by decide) (by decide) (by decide) (by decide) rfl (W := 0) (Nat.le_of_eq rfl) (by decide) at_175 rfl fun r953 T954 Lc955 X956 hQ957 => ?_
          obtain ⟨r958, rfl, hs959, Nq960, eh961⟩ := hQ957
          have N962 := Fr.app N937 Nq960
          show Goes _ _ _ _ _ _ 178 _ [(.int r958)]
          refine g_iload 180 rfl C X956 at_178 rfl ?_
          have hq964 : r958.toInt = (0 : Int32).toInt := by
            have hp := own_suf f55 q38 q56 n908 _ _ (by omega) (by omega) ha926 ha927 hl58 hc59 (by omega)
            have i1 : (if r16.toInt < 65536 then (1 : Int) else 2) = 1 ∧ r16.toInt < 65536 ∨ (if r16.toInt < 65536 then (1 : Int) else 2) = 2 ∧ ¬ r16.toInt < 65536 := by split <;> omega
            have i2 : (if r26.toInt < 65536 then (1 : Int) else 2) = 1 ∧ r26.toInt < 65536 ∨ (if r26.toInt < 65536 then (1 : Int) else 2) = 2 ∧ ¬ r26.toInt < 65536 := by split <;> omega
            have fr965 := rng32 r958
            have fc966 : (0 : Int32).toInt = 0 := rfl
            have fc967 : (65536 : Int32).toInt = 65536 := rfl
            have fc968 : (1 : Int32).toInt = 1 := rfl
            have fc969 : (2 : Int32).toInt = 2 := rfl
            omega
          refine g_icmp_ne_f 183 rfl C X956 at_180 hq964 ?_
          clear hs959
          refine g_iconst 184 rfl C X956 (1 : Int32) at_183 rfl ?_
          refine g_goto 188 C X956 at_184 (by decide) (by decide) ?_
          refine g_istore 190 rfl C X956 (1 : Int32) rfl #[.val (.int p0), .val (.int p1), .val (.int p2), .val (.int p3), .val (.ref o3), .val (.int r16), .val (.int r26), .val (.int v47), .val (.int v65), .val (.int v67), .val (.int (2 : Int32)), .val (.int (2 : Int32)), .val (.int v826), .val (.int (4 : Int32)), .val (.int (0 : Int32)), .val (.int (1 : Int32)), .val (.int (1 : Int32)), .unset] at_188 rfl ?_
          refine g_aload 192 rfl C X956 at_190 rfl rfl ?_
          refine g_iload 194 rfl C X956 at_192 rfl ?_
          refine g_iload 196 rfl C X956 at_194 rfl ?_
          refine g_callS 199 rfl C X956 (argsL := [(.ref o3), (.int v826), (.int v826)]) (hw _ (List.mem_of_getElem? (i := 13) rfl)) (hw _ (List.mem_of_getElem? (i := 14) rfl)) (hw _ (List.mem_of_getElem? (i := 15) rfl)) (hw _ (List.mem_of_getElem? (i := 9) rfl)) eh961 (rm3 l Z a0 hw [] o3 v826 v826 f55 n908 n908 (T51.heap) n0 Zs64 B63 hn908 hn908 (by omega) (by omega)) (lenOf pd_14998784 rfl) (by decide) (by decide) (by decide) (by decide) rfl (W := 0) (Nat.le_of_eq rfl) (by decide) at_196 rfl fun r970 T971 Lc972 X973 hQ974 => ?_
          obtain ⟨r975, rfl, hs976, Nq977, eh978⟩ := hQ974
          have N979 := Fr.app N962 Nq977
          show Goes _ _ _ _ _ _ 199 _ [(.int r975)]
          have hq981 : r975.toInt = 0 := by
            rw [Nat.sub_self] at hs976
            have hu : own_us f55 n908 0 = 0 := rfl
            have fr982 := rng32 r975
            have fc983 : (65536 : Int32).toInt = 65536 := rfl
            have fc984 : (0 : Int32).toInt = 0 := rfl
            have fc985 : (1 : Int32).toInt = 1 := rfl
            have fc986 : (2 : Int32).toInt = 2 := rfl
            omega
          refine g_if_ne_f 202 rfl C X973 at_199 hq981 ?_
          clear hs976
          refine g_iconst 203 rfl C X973 (1 : Int32) at_202 rfl ?_
          refine g_goto 207 C X973 at_203 (by decide) (by decide) ?_
          refine g_istore 209 rfl C X973 (1 : Int32) rfl #[.val (.int p0), .val (.int p1), .val (.int p2), .val (.int p3), .val (.ref o3), .val (.int r16), .val (.int r26), .val (.int v47), .val (.int v65), .val (.int v67), .val (.int (2 : Int32)), .val (.int (2 : Int32)), .val (.int v826), .val (.int (4 : Int32)), .val (.int (0 : Int32)), .val (.int (1 : Int32)), .val (.int (1 : Int32)), .val (.int (1 : Int32))] at_207 rfl ?_
          refine g_iload 211 rfl C X973 at_209 rfl ?_
          refine g_if_eq_f 214 rfl C X973 at_211 (by decide) ?_
          refine g_iload 216 rfl C X973 at_214 rfl ?_
          refine g_if_eq_f 219 rfl C X973 at_216 (by decide) ?_
          refine g_iload 221 rfl C X973 at_219 rfl ?_
          refine g_if_eq_f 224 rfl C X973 at_221 (by decide) ?_
          refine g_iconst 225 rfl C X973 (1 : Int32) at_224 rfl ?_
          refine g_goto 229 C X973 at_225 (by decide) (by decide) ?_
          exact g_retN C X973 (z' := (1 : Int32)) rfl (Or.inl rfl) at_229 eh978 (by decide) (by decide) rfl ⟨rfl, N979⟩
        · skip
          refine g_icmp_gt_f 109 rfl C X53 at_106 hb907 ?_
          refine g_iload 111 rfl C X53 at_109 rfl ?_
          refine g_goto 119 C X53 at_111 (by decide) (by decide) ?_
          refine g_istore 121 rfl C X53 (2 : Int32) rfl #[.val (.int p0), .val (.int p1), .val (.int p2), .val (.int p3), .val (.ref o3), .val (.int r16), .val (.int r26), .val (.int v47), .val (.int v65), .val (.int v67), .val (.int (2 : Int32)), .val (.int (2 : Int32)), .val (.int v826), .val (.int (2 : Int32)), .unset, .unset, .unset, .unset] at_119 rfl ?_
          refine g_iload 123 rfl C X53 at_121 rfl ?_
          refine g_if_ne_t 134 C X53 at_123 (by decide) (by decide) hb827 ?_
          refine g_iload 136 rfl C X53 at_134 rfl ?_
          refine g_iload 138 rfl C X53 at_136 rfl ?_
          refine g_icmp_gt_f 141 rfl C X53 at_138 hb907 ?_
          refine g_iload 143 rfl C X53 at_141 rfl ?_
          refine g_goto 147 C X53 at_143 (by decide) (by decide) ?_
          refine g_istore 149 rfl C X53 (2 : Int32) rfl #[.val (.int p0), .val (.int p1), .val (.int p2), .val (.int p3), .val (.ref o3), .val (.int r16), .val (.int r26), .val (.int v47), .val (.int v65), .val (.int v67), .val (.int (2 : Int32)), .val (.int (2 : Int32)), .val (.int v826), .val (.int (2 : Int32)), .val (.int (2 : Int32)), .unset, .unset, .unset] at_147 rfl ?_
          refine g_aload 151 rfl C X53 at_149 rfl rfl ?_
          refine g_iconst 152 rfl C X53 (0 : Int32) at_151 rfl ?_
          refine g_iload 154 rfl C X53 at_152 rfl ?_
          have hq988 : 0 ≤ v826.toInt ∧ v826.toInt ≤ ((q38 + q56 : Nat) : Int) := by
            have hrem := c_iremV (p3 &&& (2147483647 : Int32)) (v67 + (1 : Int32))
            have fr989 := rng32 p3
            have fc990 : (2147483647 : Int32).toInt = 2147483647 := rfl
            have fo991 : (p3 &&& (2147483647 : Int32)).toInt = p3.toInt % 2147483648 := c_mask p3 (2147483647 : Int32) 31 (by decide) (by decide)
            have fr992 := rng32 v67
            have fr993 := rng32 v47
            have fr994 := rng32 v65
            have fo995 := c_iadd v47 v65
            have fr996 := rng32 (v47 + v65)
            have fe997 : (v47 + v65).toInt = v67.toInt := congrArg Int32.toInt hv67
            have fc998 : (1 : Int32).toInt = 1 := rfl
            have fo999 := c_iadd v67 (1 : Int32)
            have fr1000 := rng32 (v67 + (1 : Int32))
            have fr1001 := rng32 v826
            have fr1003 := rng32 ((p3 &&& (2147483647 : Int32)) % (v67 + (1 : Int32)))
            have fe1004 : ((p3 &&& (2147483647 : Int32)) % (v67 + (1 : Int32))).toInt = v826.toInt := congrArg Int32.toInt hv826
            omega
          obtain ⟨n987, hn987⟩ : ∃ n : Nat, v826.toInt = n := ⟨v826.toInt.toNat, by omega⟩
          have hn987m : n987 ≤ q38 + q56 := by omega
          have ha1005 : own_wt (f55 0) = (if r16.toInt < 65536 then 1 else 2) := by rw [← hl40]; exact own_wtc (hk60 0 (by omega))
          have ha1006 : ∀ j, 0 < j → j < q38 → own_wt (f55 j) = 0 := fun j r1 r2 => by rw [own_wtc (hk60 j (by omega))]; exact hc41 j r1 (by omega)
          refine g_callS 157 rfl C X53 (argsL := [(.ref o3), (.int (0 : Int32)), (.int v826)]) (hw _ (List.mem_of_getElem? (i := 13) rfl)) (hw _ (List.mem_of_getElem? (i := 14) rfl)) (hw _ (List.mem_of_getElem? (i := 15) rfl)) (hw _ (List.mem_of_getElem? (i := 9) rfl)) rfl (rm3 l Z a0 hw [] o3 (0 : Int32) v826 f55 0 n987 (T51.heap) n0 Zs64 B63 rfl hn987 (by omega) (by omega)) (lenOf pd_14998784 rfl) (by decide) (by decide) (by decide) (by decide) rfl (W := 0) (Nat.le_of_eq rfl) (by decide) at_154 rfl fun r1007 T1008 Lc1009 X1010 hQ1011 => ?_
          obtain ⟨r1012, rfl, hs1013, Nq1014, eh1015⟩ := hQ1011
          have N1016 := Fr.app N66 Nq1014
          show Goes _ _ _ _ _ _ 157 _ [(.int r1012)]
          refine g_iload 159 rfl C X1010 at_157 rfl ?_
          have hq1018 : r1012.toInt = (2 : Int32).toInt := by
            have hp := own_pre f55 q38 q56 n987 _ _ (by omega) (by omega) ha1005 ha1006 hl58 hc59 (by omega)
            rw [Nat.sub_zero] at hs1013
            have i1 : (if r16.toInt < 65536 then (1 : Int) else 2) = 1 ∧ r16.toInt < 65536 ∨ (if r16.toInt < 65536 then (1 : Int) else 2) = 2 ∧ ¬ r16.toInt < 65536 := by split <;> omega
            have i2 : (if r26.toInt < 65536 then (1 : Int) else 2) = 1 ∧ r26.toInt < 65536 ∨ (if r26.toInt < 65536 then (1 : Int) else 2) = 2 ∧ ¬ r26.toInt < 65536 := by split <;> omega
            have fr1019 := rng32 r1012
            have fc1020 : (2 : Int32).toInt = 2 := rfl
            have fc1021 : (65536 : Int32).toInt = 65536 := rfl
            have fc1022 : (0 : Int32).toInt = 0 := rfl
            have fc1023 : (1 : Int32).toInt = 1 := rfl
            omega
          refine g_icmp_ne_f 162 rfl C X1010 at_159 hq1018 ?_
          clear hs1013
          refine g_iconst 163 rfl C X1010 (1 : Int32) at_162 rfl ?_
          refine g_goto 167 C X1010 at_163 (by decide) (by decide) ?_
          refine g_istore 169 rfl C X1010 (1 : Int32) rfl #[.val (.int p0), .val (.int p1), .val (.int p2), .val (.int p3), .val (.ref o3), .val (.int r16), .val (.int r26), .val (.int v47), .val (.int v65), .val (.int v67), .val (.int (2 : Int32)), .val (.int (2 : Int32)), .val (.int v826), .val (.int (2 : Int32)), .val (.int (2 : Int32)), .val (.int (1 : Int32)), .unset, .unset] at_167 rfl ?_
          refine g_aload 171 rfl C X1010 at_169 rfl rfl ?_
          refine g_iload 173 rfl C X1010 at_171 rfl ?_
          refine g_iload 175 rfl C X1010 at_173 rfl ?_
          have hq1024 : v67.toInt = ((q38 + q56 : Nat) : Int) := by
            have fr1025 := rng32 v67
            have fr1026 := rng32 v47
            have fr1027 := rng32 v65
            have fo1028 := c_iadd v47 v65
            have fr1029 := rng32 (v47 + v65)
            have fe1030 : (v47 + v65).toInt = v67.toInt := congrArg Int32.toInt hv67
            omega
          refine g_callS 178 rfl C X1010 (argsL := [(.ref o3), (.int v826), (.int v67)]) (hw _ (List.mem_of_getElem? (i := 13) rfl)) (hw _ (List.mem_of_getElem? (i := 14) rfl)) (hw _ (List.mem_of_getElem? (i := 15) rfl)) (hw _ (List.mem_of_getElem? (i := 9) rfl)) eh1015 (rm3 l Z a0 hw [] o3 v826 v67 f55 n987 (q38 + q56) (T51.heap) n0 Zs64 B63 hn987 hq1024 (by omega) (by omega)) (lenOf pd_14998784 rfl) (by decide) (by decide) (by decide) (by decide) rfl (W := 0) (Nat.le_of_eq rfl) (by decide) at_175 rfl fun r1031 T1032 Lc1033 X1034 hQ1035 => ?_
          obtain ⟨r1036, rfl, hs1037, Nq1038, eh1039⟩ := hQ1035
          have N1040 := Fr.app N1016 Nq1038
          show Goes _ _ _ _ _ _ 178 _ [(.int r1036)]
          refine g_iload 180 rfl C X1034 at_178 rfl ?_
          have hq1042 : r1036.toInt = (2 : Int32).toInt := by
            have hp := own_suf f55 q38 q56 n987 _ _ (by omega) (by omega) ha1005 ha1006 hl58 hc59 (by omega)
            have i1 : (if r16.toInt < 65536 then (1 : Int) else 2) = 1 ∧ r16.toInt < 65536 ∨ (if r16.toInt < 65536 then (1 : Int) else 2) = 2 ∧ ¬ r16.toInt < 65536 := by split <;> omega
            have i2 : (if r26.toInt < 65536 then (1 : Int) else 2) = 1 ∧ r26.toInt < 65536 ∨ (if r26.toInt < 65536 then (1 : Int) else 2) = 2 ∧ ¬ r26.toInt < 65536 := by split <;> omega
            have fr1043 := rng32 r1036
            have fc1044 : (2 : Int32).toInt = 2 := rfl
            have fc1045 : (65536 : Int32).toInt = 65536 := rfl
            have fc1046 : (0 : Int32).toInt = 0 := rfl
            have fc1047 : (1 : Int32).toInt = 1 := rfl
            omega
          refine g_icmp_ne_f 183 rfl C X1034 at_180 hq1042 ?_
          clear hs1037
          refine g_iconst 184 rfl C X1034 (1 : Int32) at_183 rfl ?_
          refine g_goto 188 C X1034 at_184 (by decide) (by decide) ?_
          refine g_istore 190 rfl C X1034 (1 : Int32) rfl #[.val (.int p0), .val (.int p1), .val (.int p2), .val (.int p3), .val (.ref o3), .val (.int r16), .val (.int r26), .val (.int v47), .val (.int v65), .val (.int v67), .val (.int (2 : Int32)), .val (.int (2 : Int32)), .val (.int v826), .val (.int (2 : Int32)), .val (.int (2 : Int32)), .val (.int (1 : Int32)), .val (.int (1 : Int32)), .unset] at_188 rfl ?_
          refine g_aload 192 rfl C X1034 at_190 rfl rfl ?_
          refine g_iload 194 rfl C X1034 at_192 rfl ?_
          refine g_iload 196 rfl C X1034 at_194 rfl ?_
          refine g_callS 199 rfl C X1034 (argsL := [(.ref o3), (.int v826), (.int v826)]) (hw _ (List.mem_of_getElem? (i := 13) rfl)) (hw _ (List.mem_of_getElem? (i := 14) rfl)) (hw _ (List.mem_of_getElem? (i := 15) rfl)) (hw _ (List.mem_of_getElem? (i := 9) rfl)) eh1039 (rm3 l Z a0 hw [] o3 v826 v826 f55 n987 n987 (T51.heap) n0 Zs64 B63 hn987 hn987 (by omega) (by omega)) (lenOf pd_14998784 rfl) (by decide) (by decide) (by decide) (by decide) rfl (W := 0) (Nat.le_of_eq rfl) (by decide) at_196 rfl fun r1048 T1049 Lc1050 X1051 hQ1052 => ?_
          obtain ⟨r1053, rfl, hs1054, Nq1055, eh1056⟩ := hQ1052
          have N1057 := Fr.app N1040 Nq1055
          show Goes _ _ _ _ _ _ 199 _ [(.int r1053)]
          have hq1059 : r1053.toInt = 0 := by
            rw [Nat.sub_self] at hs1054
            have hu : own_us f55 n987 0 = 0 := rfl
            have fr1060 := rng32 r1053
            have fc1061 : (65536 : Int32).toInt = 65536 := rfl
            have fc1062 : (0 : Int32).toInt = 0 := rfl
            have fc1063 : (1 : Int32).toInt = 1 := rfl
            have fc1064 : (2 : Int32).toInt = 2 := rfl
            omega
          refine g_if_ne_f 202 rfl C X1051 at_199 hq1059 ?_
          clear hs1054
          refine g_iconst 203 rfl C X1051 (1 : Int32) at_202 rfl ?_
          refine g_goto 207 C X1051 at_203 (by decide) (by decide) ?_
          refine g_istore 209 rfl C X1051 (1 : Int32) rfl #[.val (.int p0), .val (.int p1), .val (.int p2), .val (.int p3), .val (.ref o3), .val (.int r16), .val (.int r26), .val (.int v47), .val (.int v65), .val (.int v67), .val (.int (2 : Int32)), .val (.int (2 : Int32)), .val (.int v826), .val (.int (2 : Int32)), .val (.int (2 : Int32)), .val (.int (1 : Int32)), .val (.int (1 : Int32)), .val (.int (1 : Int32))] at_207 rfl ?_
          refine g_iload 211 rfl C X1051 at_209 rfl ?_
          refine g_if_eq_f 214 rfl C X1051 at_211 (by decide) ?_
          refine g_iload 216 rfl C X1051 at_214 rfl ?_
          refine g_if_eq_f 219 rfl C X1051 at_216 (by decide) ?_
          refine g_iload 221 rfl C X1051 at_219 rfl ?_
          refine g_if_eq_f 224 rfl C X1051 at_221 (by decide) ?_
          refine g_iconst 225 rfl C X1051 (1 : Int32) at_224 rfl ?_
          refine g_goto 229 C X1051 at_225 (by decide) (by decide) ?_
          exact g_retN C X1051 (z' := (1 : Int32)) rfl (Or.inl rfl) at_229 eh1056 (by decide) (by decide) rfl ⟨rfl, N1057⟩
set_option maxRecDepth 65536 in
set_option maxHeartbeats 40000000 in
theorem comes_1 {Post : Tables → Env → Array Value → State → Outcome → State → Prop} (hpost : ∀ tb e args s v u, (limb_1_1.after args s (.returned v) u = true ∧ limb_1_2.after args s (.returned v) u = true ∧ True) → FrameEnd s (.returned v) u (Jvm.fieldLocs frame_1_writes args s ++ Jvm.arrayLocs frame_1_arrays args s ++ Jvm.staticLocs frame_1_statics s) 16 128 → Post tb e args s (.returned v) u) :
    ArmFor flags0 classFile x code maxLocals ret World_1 tables_1 room_1 Calls_1 rest_1 Pre_1 Post := by
  intro l hfl _ _ p e ha hc hk s m args below hf hA hF happ hP
  obtain ⟨hcalls, hrest, hpre⟩ := hP
  obtain ⟨-, -, -, hnamed, -, -, -, hat⟩ := (Spec.applies_iff hf).mp happ
  obtain ⟨hg, hn⟩ := and_e (Cond.before_iff.mp (show (Jvm.Cond.and given_1 narrow_1).before args s = true from hpre))
  obtain ⟨g1, g2⟩ := and_e hg
  obtain ⟨g3, g4⟩ := and_e g2
  obtain ⟨g5, g6⟩ := and_e g4
  obtain ⟨g7, g8⟩ := and_e g6
  obtain ⟨w0, w1, w2, w3, rfl⟩ : ∃ w0 w1 w2 w3 : Value, args = #[w0, w1, w2, w3] := by
    have hs : args.size = 4 := by simpa [Cond.value, given_1] using g1
    obtain ⟨L⟩ := args
    match L, hs with
    | [w0, w1, w2, w3], _ => exact ⟨w0, w1, w2, w3, rfl⟩
  have hw := fun d (hd : d ∈ tables_1) => atoms_spec (ws := Jvm.Cond.code x code maxLocals ret :: tables_1) hat d (List.mem_cons_of_mem _ hd)
  obtain ⟨i0, ei0⟩ := is_v g3
  obtain rfl : w0 = (.int i0) := Option.some.inj ei0
  obtain ⟨i1, ei1⟩ := is_v g5
  obtain rfl : w1 = (.int i1) := Option.some.inj ei1
  obtain ⟨i2, ei2⟩ := is_v g7
  obtain rfl : w2 = (.int i2) := Option.some.inj ei2
  obtain ⟨i3, ei3⟩ := is_v g8
  obtain rfl : w3 = (.int i3) := Option.some.inj ei3
  obtain ⟨n, o, h1, h2, h3, _, L, rfl, ⟨rfl, N⟩, hq⟩ := rm0 l s _ hw tables_1 i0 i1 i2 i3 s.heap s.heap.size (Nat.le_refl _) p e ha hc hk s m _ below hf ((Spec.applies_iff_loose hf).mp happ).1 ⟨rfl, State.Warmed39.refl s, rfl⟩ trivial
  refine ⟨n, _, h1, h2, h3, hpost _ _ _ _ _ _ ⟨Cond.after_iff.mpr rfl, Cond.after_iff.mpr (eq_i res_at (Term.int_eval (1)) rfl), trivial⟩ ⟨hq.1, hq.2.1, (hq.2.2.sift fun y hy => Or.inr (N y hy)).mono (by decide) (by decide)⟩⟩
theorem main_1_1 : Claimed_1_1 := comes_1 fun _ _ _ _ _ _ h hF => ⟨h.1, hF⟩
theorem main_1_2 : Claimed_1_2 := comes_1 fun _ _ _ _ _ _ h hF => ⟨h.2.1, hF⟩
end Jvm.Pilot.@@N@@
namespace Jvm.Pilot.@@N@@
open Jvm Jvm.ClassFile Sem Op Lib Jvm.Free Jvm.Stand Jvm.Pilot.@@N@@.Jvm.D
/-! MADE BY PROGRAM (witnessworld.py) out of the Statement's table words and the real class files: 9 classes; the members and pool entries that the words name. The judged class is class 1, her method 2. -/
namespace start1
open Jvm.ClassFile
def u (s : String) : CpInfo := .utf8 (stringToUtf16 s)
/-- a pool by its gaps: so many unusable entries, then the entry; so many at the end -/
def gap : Nat → List CpInfo → List CpInfo
  | 0, r => r
  | n + 1, r => .unusable :: gap n r
def poolList (es : List (Nat × CpInfo)) (last : Nat) : List CpInfo := es.foldr (fun e r => gap e.1 (e.2 :: r)) (gap last [])
def pool (es : List (Nat × CpInfo)) (last : Nat) : Array CpInfo := ⟨poolList es last⟩
def fileOf (pool : Array CpInfo) (this : Nat) (attrs : Array Attribute := #[]) (ms : Array MethodInfo := #[]) (fl : Nat := 33) (sup : Nat := 0) (ifs : Array Nat := #[]) (fds : Array FieldInfo := #[]) : ClassFile where
  minorVersion := 0
  majorVersion := 65
  constantPool := pool
  accessFlags := fl
  thisClass := this
  superClass := sup
  interfaces := ifs
  fields := fds
  methods := ms
  attributes := attrs
def plain (name : String) (sup : Option ClassId) : Class where
  name := name
  kind := .ordinary
  loader := none
  accessFlags := 33
  super := sup
  interfaces := #[]
  cf := none
  fields := #[]
  methods := #[]
  instanceTypes := #[]
  staticTypes := #[]
  resolved := #[]
  callSites := []
  init := .initialized
  statics := none
  mirror := none

def pool0 : Array CpInfo := pool [(5, u "<init>"), (0, u "()V"), (1, .class_ 10), (1, u "java/lang/Object")] 113

def k0m0 : Method := { name := "<init>", desc := "()V", sig := { parameters := [], returnType := none }, accessFlags := 1, code := none }
/-- java/lang/Object -/
def k0 : Class := { plain "java/lang/Object" none with
  accessFlags := 33
  interfaces := #[]
  cf := some (fileOf pool0 8 #[] #[{ accessFlags := 1, nameIndex := 5, descriptorIndex := 6, attributes := #[] }] 33 0 #[] #[])
  fields := #[]
  methods := #[k0m0]
  instanceTypes := #[]
  staticTypes := #[]
  resolved := Array.replicate 124 none
  statics := none }

def pool1 : Array CpInfo := pool [(2, .class_ 4), (1, u "java/lang/Object"), (0, u "<init>"), (0, u "()V"), (0, .integer 2147483647), (0, .integer 63488), (0, .integer 65536), (0, .integer 1048576), (0, .methodref 12 13), (0, .class_ 14), (0, .nameAndType 15 16), (0, u "com/example/fieldpare/fieldpare/Utf8UnitsPinLaw"), (0, u "pick"), (0, u "(II)I"), (0, .methodref 18 19), (0, .class_ 20), (0, .nameAndType 21 22), (0, u "com/example/fieldpare/fieldpare/Utf8"), (0, u "encode"), (0, u "(I[BI)I"), (0, .methodref 18 24), (0, .nameAndType 25 26), (0, u "units"), (0, u "([BII)I"), (3, u "law"), (0, u "(IIII)Z")] 4

def k1m0 : Method := { name := "<init>", desc := "()V", sig := { parameters := [], returnType := none }, accessFlags := 2, code := none }
def k1c1 : Code := { maxStack := 3, maxLocals := 3, code := method_2_code, exceptionTable := #[], attributes := #[] }
def k1m1 : Method := { name := "pick", desc := "(II)I", sig := { parameters := [.int, .int], returnType := some .int }, accessFlags := 10, code := some k1c1 }
def k1c2 : Code := { maxStack := 3, maxLocals := 18, code := code, exceptionTable := #[], attributes := #[] }
def k1m2 : Method := { name := "law", desc := "(IIII)Z", sig := { parameters := [.int, .int, .int, .int], returnType := some .boolean }, accessFlags := 9, code := some k1c2 }
/-- com/example/fieldpare/fieldpare/Utf8UnitsPinLaw -/
def k1 : Class := { plain "com/example/fieldpare/fieldpare/Utf8UnitsPinLaw" (some 0) with
  accessFlags := 49
  interfaces := #[]
  cf := some (fileOf pool1 12 #[] #[{ accessFlags := 2, nameIndex := 5, descriptorIndex := 6, attributes := #[] }, { accessFlags := 10, nameIndex := 15, descriptorIndex := 16, attributes := #[] }, { accessFlags := 9, nameIndex := 30, descriptorIndex := 31, attributes := #[] }] 49 2 #[] #[])
  fields := #[]
  methods := #[k1m0, k1m1, k1m2]
  instanceTypes := #[]
  staticTypes := #[]
  resolved := Array.replicate 36 none
  statics := none }

def pool2 : Array CpInfo := pool [(2, .class_ 4), (1, u "java/lang/Object"), (0, u "<init>"), (0, u "()V"), (0, .integer 65536), (17, .class_ 27), (1, u "com/example/fieldpare/fieldpare/Utf8"), (0, u "encode"), (0, u "(I[BI)I"), (49, u "MAX_CHARACTER_LENGTH"), (0, u "I"), (11, u "units"), (0, u "([BII)I")] 4

def k2m0 : Method := { name := "<init>", desc := "()V", sig := { parameters := [], returnType := none }, accessFlags := 2, code := none }
def k2c1 : Code := { maxStack := 5, maxLocals := 3, code := prog_60_method_2_code, exceptionTable := #[], attributes := #[] }
def k2m1 : Method := { name := "encode", desc := "(I[BI)I", sig := { parameters := [.int, (.array .byte), .int], returnType := some .int }, accessFlags := 8, code := some k2c1 }
def k2c2 : Code := { maxStack := 3, maxLocals := 6, code := prog_60_method_6_code, exceptionTable := #[], attributes := #[] }
def k2m2 : Method := { name := "units", desc := "([BII)I", sig := { parameters := [(.array .byte), .int, .int], returnType := some .int }, accessFlags := 8, code := some k2c2 }
/-- com/example/fieldpare/fieldpare/Utf8 -/
def k2 : Class := { plain "com/example/fieldpare/fieldpare/Utf8" (some 0) with
  accessFlags := 48
  interfaces := #[]
  cf := some (fileOf pool2 25 #[] #[{ accessFlags := 2, nameIndex := 5, descriptorIndex := 6, attributes := #[] }, { accessFlags := 8, nameIndex := 28, descriptorIndex := 29, attributes := #[] }, { accessFlags := 8, nameIndex := 92, descriptorIndex := 93, attributes := #[] }] 48 2 #[] #[{ accessFlags := 24, nameIndex := 79, descriptorIndex := 80, attributes := #[] }])
  fields := #[{ name := "MAX_CHARACTER_LENGTH", type := .int, accessFlags := 24, slot := 0, constantValue := 0 }]
  methods := #[k2m0, k2m1, k2m2]
  instanceTypes := #[]
  staticTypes := #[.int]
  resolved := Array.replicate 98 none
  statics := none }

def pool3 : Array CpInfo := pool [(1, u "java/lang/Cloneable"), (0, .class_ 1), (0, u "java/lang/Object"), (0, .class_ 3)] 3

/-- java/lang/Cloneable -/
def k3 : Class := { plain "java/lang/Cloneable" (some 0) with
  accessFlags := 1537
  interfaces := #[]
  cf := some (fileOf pool3 2 #[] #[] 1537 4 #[] #[])
  fields := #[]
  methods := #[]
  instanceTypes := #[]
  staticTypes := #[]
  resolved := Array.replicate 8 none
  statics := none }

def pool4 : Array CpInfo := pool [(1, u "java/io/Serializable"), (0, .class_ 1), (0, u "java/lang/Object"), (0, .class_ 3)] 3

/-- java/io/Serializable -/
def k4 : Class := { plain "java/io/Serializable" (some 0) with
  accessFlags := 1537
  interfaces := #[]
  cf := some (fileOf pool4 2 #[] #[] 1537 4 #[] #[])
  fields := #[]
  methods := #[]
  instanceTypes := #[]
  staticTypes := #[]
  resolved := Array.replicate 8 none
  statics := none }

/-- the primitive byte -/
def k5 : Class := { plain "byte" none with kind := .primitive 'B', accessFlags := 0x411 }
/-- [B -/
def k6 : Class := { plain "[B" (some 0) with kind := .array 5 .byte, interfaces := #[3, 4], accessFlags := 1041 }

/-- the primitive int -/
def k7 : Class := { plain "int" none with kind := .primitive 'I', accessFlags := 0x411 }
/-- [I -/
def k8 : Class := { plain "[I" (some 0) with kind := .array 7 .int, interfaces := #[3, 4], accessFlags := 1041 }

def heap : Heap := #[]
def classes : Array Class := #[k0, k1, k2, k3, k4, k5, k6, k7, k8]
def interned : List (Array UInt16 × Addr) := []
def slotsUsed : Nat := 0
def theMethod : MethodId := ⟨1, 2⟩
def args0 : Array Value := #[.int 5, .int 7, .int 9, .int 2]
def aboutOver (below : List Frame) : State where
  vm := { classes := classes, interned := interned.toArray }
  heap := heap
  slotsUsed := slotsUsed
  threads := #[{ frames := .invoking theMethod args0 :: below }]
def below0 : List Frame := [.native { method := ⟨0, 0⟩, args := #[] }]
def about1 : State := aboutOver below0
def p0 : Program := .bare "" "" ""
def e0 : Env := launch0.env 0 0 0
theorem w_frames : about1.frames = Frame.invoking theMethod args0 :: below0 := rfl
set_option maxRecDepth 65536 in
theorem w_args : argsFit about1.vm theMethod args0 = true := by decide +kernel
set_option maxRecDepth 65536 in
theorem w_heap : heapFits about1 = true := by decide +kernel
set_option maxRecDepth 65536 in
theorem w_runnable : about1.curStatus? = some .runnable := by decide +kernel
set_option maxRecDepth 65536 in
theorem w_alone : about1.alone = true := by decide +kernel
set_option maxRecDepth 65536 in
theorem w_named : about1.methodNamed? x = some theMethod := by decide +kernel
set_option maxRecDepth 65536 in
theorem w_hears : about1.hears theMethod below0 = true := by decide +kernel
set_option maxRecDepth 65536 in
theorem w_ripe : about1.ripe theMethod args0 below0 = true := by decide +kernel
theorem w_running : about1.status = .running := rfl
set_option maxRecDepth 65536 in
theorem w_room : about1.hasRoom e0.platform room_1 = true :=
  launch0.hasRoom_least _ room_1 (by decide +kernel) (by decide +kernel) (by decide +kernel) (by decide +kernel) (by decide +kernel) (by decide +kernel)
theorem allAtoms_all (ts : List Jvm.Cond) (a : Array Jvm.Value) (st : Jvm.State) : (allAtoms ts).before a st = ts.all (fun c => c.before a st) := by
  induction ts with
  | nil => rfl
  | cons c t ih =>
    show (Jvm.Cond.and c (allAtoms t)).before a st = _
    rw [Jvm.Cond.before_and, ih, List.all_cons]
def words1 : List Jvm.Cond := Jvm.Cond.code x code maxLocals ret :: tables_1
/-- a 'code' word, met by the world's own term for the bytes: nothing is compared byte by byte -/
theorem code_word {y : MethodName} {bytes : ByteArray} {mx : Nat} {rt : Option FieldType} {a : Array Value} {s : State} {m : MethodId} {meth : Method} {c : Code} (h1 : s.methodNamed? y = some m) (h2 : s.vm.method? m = some meth) (h3 : meth.code = some c) (h4 : c.code = bytes)
    (h5 : (c.maxLocals == mx && c.exceptionTable.isEmpty && decide (c.maxStack ≤ mostOperands) && decide (meth.sig.returnType = rt) && !meth.locks && decide (parseMethodDescriptor y.desc = some meth.sig)) = true) : (Jvm.Cond.code y bytes mx rt).before a s = true := by
  simp only [Bool.and_eq_true, beq_iff_eq, Bool.not_eq_true', decide_eq_true_eq] at h5
  obtain ⟨⟨⟨⟨⟨g1, g2⟩, g3⟩, g4⟩, g5⟩, g6⟩ := h5
  simp [Cond.before, Cond.holds, Cond.value, h1, h2, h3, h4, g1, g2, g3, g4, g5, g6]
def isCode : Jvm.Cond → Bool
  | .code _ _ _ _ => true
  | _ => false
theorem all_split {L : List Jvm.Cond} {P : Jvm.Cond → Bool} (h1 : L.all (fun c => isCode c || P c) = true) (h2 : ∀ c ∈ L.filter isCode, P c = true) : L.all P = true := by
  refine List.all_eq_true.mpr fun c hc => ?_
  have h := List.all_eq_true.mp h1 c hc
  rcases Bool.eq_false_or_eq_true (isCode c) with hi | hi
  · exact h2 c (List.mem_filter.mpr ⟨hc, hi⟩)
  · simpa [hi] using h
set_option maxRecDepth 65536 in
theorem w_c0 : (Jvm.Cond.code x code maxLocals ret).before args0 about1 = true := code_word (m := ⟨1, 2⟩) (meth := k1m2) (c := k1c2) (by decide +kernel) rfl rfl rfl (by decide +kernel)
set_option maxRecDepth 65536 in
theorem w_c1 : (Jvm.Cond.code ({ cls := "com/example/fieldpare/fieldpare/Utf8UnitsPinLaw", name := "pick", desc := "(II)I" } : Jvm.MethodName) method_2_code (3 : Nat) (Option.some Jvm.ClassFile.FieldType.int)).before args0 about1 = true := code_word (m := ⟨1, 1⟩) (meth := k1m1) (c := k1c1) (by decide +kernel) rfl rfl rfl (by decide +kernel)
set_option maxRecDepth 65536 in
theorem w_c2 : (Jvm.Cond.code ({ cls := "com/example/fieldpare/fieldpare/Utf8", name := "encode", desc := "(I[BI)I" } : Jvm.MethodName) prog_60_method_2_code (3 : Nat) (Option.some Jvm.ClassFile.FieldType.int)).before args0 about1 = true := code_word (m := ⟨2, 1⟩) (meth := k2m1) (c := k2c1) (by decide +kernel) rfl rfl rfl (by decide +kernel)
set_option maxRecDepth 65536 in
theorem w_c3 : (Jvm.Cond.code ({ cls := "com/example/fieldpare/fieldpare/Utf8", name := "units", desc := "([BII)I" } : Jvm.MethodName) prog_60_method_6_code (6 : Nat) (Option.some Jvm.ClassFile.FieldType.int)).before args0 about1 = true := code_word (m := ⟨2, 2⟩) (meth := k2m2) (c := k2c2) (by decide +kernel) rfl rfl rfl (by decide +kernel)
def codes1 : List Jvm.Cond := [Jvm.Cond.code x code maxLocals ret, Jvm.Cond.code ({ cls := "com/example/fieldpare/fieldpare/Utf8UnitsPinLaw", name := "pick", desc := "(II)I" } : Jvm.MethodName) method_2_code (3 : Nat) (Option.some Jvm.ClassFile.FieldType.int), Jvm.Cond.code ({ cls := "com/example/fieldpare/fieldpare/Utf8", name := "encode", desc := "(I[BI)I" } : Jvm.MethodName) prog_60_method_2_code (3 : Nat) (Option.some Jvm.ClassFile.FieldType.int), Jvm.Cond.code ({ cls := "com/example/fieldpare/fieldpare/Utf8", name := "units", desc := "([BII)I" } : Jvm.MethodName) prog_60_method_6_code (6 : Nat) (Option.some Jvm.ClassFile.FieldType.int)]
set_option maxRecDepth 65536 in
theorem codes_eq : words1.filter isCode = codes1 := rfl
theorem w_codes : ∀ c ∈ words1.filter isCode, c.before args0 about1 = true := by
  rw [codes_eq]
  intro c hc
  simp only [codes1, List.mem_cons, List.not_mem_nil, or_false] at hc
  rcases hc with rfl | rfl | rfl | rfl
  · exact w_c0
  · exact w_c1
  · exact w_c2
  · exact w_c3
set_option maxRecDepth 65536 in
theorem w_t1 : words1.all (fun c => isCode c || c.before args0 about1) = true := by decide +kernel
theorem w_tables : (allAtoms (Jvm.Cond.code x code maxLocals ret :: tables_1)).before args0 about1 = true := by
  rw [allAtoms_all]
  show words1.all (fun c => c.before args0 about1) = true
  refine all_split ?_ w_codes
  rw [w_t1]
set_option maxRecDepth 65536 in
theorem w_case : (Jvm.Cond.and given_1 narrow_1).before args0 about1 = true := by decide +kernel
theorem w_applies : (headSpec (Jvm.Cond.code x code maxLocals ret :: tables_1) room_1).applies x e0.platform about1 = true :=
  (Spec.applies_iff w_frames).mpr ⟨w_running, w_runnable, w_alone, w_named, w_hears, w_ripe, w_room, w_tables⟩
theorem atStart : AtStart classFile x code maxLocals ret World_1 tables_1 room_1 Calls_1 rest_1 Pre_1 launch0 p0 e0 about1 theMethod args0 below0 :=
  ⟨lists_1, trivial, launch0.admits_env _ _ _, launch0.least_env, fairChoices_fair.cas, fairChoices_fair.clock, w_frames, w_args, w_heap, w_applies, trivial, trivial, w_case⟩
end start1
theorem witness_1 : WitnessClaimed_1 := ⟨start1.p0, start1.e0, start1.about1, start1.theMethod, start1.args0, start1.below0, start1.atStart⟩
end Jvm.Pilot.@@N@@
