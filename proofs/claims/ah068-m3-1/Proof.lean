import JvmDerived
import JvmDerived.Pilot.@@N@@Statement
import JvmDerived.Pilot.@@N@@Code
set_option linter.unusedVariables false
set_option linter.unusedSimpArgs false
namespace Jvm.Pilot.@@N@@
open Jvm Jvm.ClassFile Sem Op Lib Jvm.Free Jvm.Stand Jvm.LawKit Jvm.RoadKit Bundle Jvm.Pilot.@@N@@.Jvm.D
section Own
set_option maxHeartbeats 4000000
variable {p : Program} {l : Launch} {e : Env} {R : Room} {s : State} {m : MethodId} {args : Array Value} {below : List Frame} {meth : Method} {c : Code} {T : State} {locs : List Loc} {cells slots : Nat} {Z : State} {a0 : Array Value} {h : Heap} {own nm : String} {bytes : ByteArray} {ml : Nat} {rt : Option FieldType} {Q : Option Value → Heap → List Loc → Prop} {CC SS : Nat} {E : Outcome → State → Prop} {pc : Nat} {Ls : Array Slot} {St : List Value}
def Ctx (p : Program) (s : State) (m : MethodId) (meth : Method) (c : Code) (Z : State) (own nm : String) (bytes : ByteArray) (ml : Nat) (rt : Option FieldType) : Prop :=
  p.tables.exec = Jvm.exec ∧ Z.Warmed39 s.vm ∧ c.code = bytes ∧ c.maxLocals = ml ∧ s.vm.findClass own = some m.cls ∧ meth.locks = false ∧ meth.sig.returnType = rt ∧ meth.name = nm
theorem Ctx.c_x (C : Ctx p s m meth c Z own nm bytes ml rt) : p.tables.exec = Jvm.exec := C.1
theorem Ctx.c_z (C : Ctx p s m meth c Z own nm bytes ml rt) : Z.Warmed39 s.vm := C.2.1
theorem Ctx.c_by (C : Ctx p s m meth c Z own nm bytes ml rt) : c.code = bytes := C.2.2.1
theorem Ctx.c_ml (C : Ctx p s m meth c Z own nm bytes ml rt) : c.maxLocals = ml := C.2.2.2.1
theorem Ctx.c_own (C : Ctx p s m meth c Z own nm bytes ml rt) : s.vm.findClass own = some m.cls := C.2.2.2.2.1
theorem Ctx.c_lk (C : Ctx p s m meth c Z own nm bytes ml rt) : meth.locks = false := C.2.2.2.2.2.1
theorem Ctx.c_rt (C : Ctx p s m meth c Z own nm bytes ml rt) : meth.sig.returnType = rt := C.2.2.2.2.2.2.1
theorem Ctx.c_nm (C : Ctx p s m meth c Z own nm bytes ml rt) : meth.name = nm := C.2.2.2.2.2.2.2
def EndN (s : State) (Q : Option Value → Heap → List Loc → Prop) (CC SS : Nat) (o : Outcome) (t : State) : Prop := ∃ v L, o = .returned v ∧ Q v t.heap L ∧ FrameEnd s o t L CC SS
def Goes (p : Program) (e : Env) (below : List Frame) (E : Outcome → State → Prop) (T : State) (m : MethodId) (pc : Nat) (Ls : Array Slot) (St : List Value) : Prop :=
  ∃ s₂ o, Steps p.tables e below (T.setTop (mkF m pc Ls St)) s₂ ∧ s₂.status = .running ∧ Ended s₂ below o ∧ E o s₂
theorem Goes.back {T' : State} {q : Nat} {Ls' : Array Slot} {St' : List Value} (k : Goes p e below E T' m q Ls' St') (f : ∀ t, Steps p.tables e below (T'.setTop (mkF m q Ls' St')) t → Steps p.tables e below (T.setTop (mkF m pc Ls St)) t) : Goes p e below E T m pc Ls St := by
  obtain ⟨s2, o, h1, h2⟩ := k
  exact ⟨s2, o, f _ h1, h2⟩
theorem Goes.enter {g : JFrame} (hg : g = mkF m 0 Ls []) (k : Goes p e below (EndN s Q CC SS) T m 0 Ls []) : ∃ s₂ o, Steps p.tables e below (T.setTop g) s₂ ∧ s₂.status = .running ∧ Ended s₂ below o ∧ ∃ v L, o = .returned v ∧ Q v s₂.heap L ∧ FrameEnd s o s₂ L CC SS := by
  subst hg
  exact k
theorem Ctx.of {x : MethodName} {S : Spec} {s₁ : State} (Bd : BodyLoose p l x S bytes ml rt e s m args below meth c s₁) (hml : c.maxLocals = ml) (hZ : Z.Warmed39 s.vm) : Ctx p s m meth c Z x.cls x.name bytes ml rt :=
  ⟨Bd.exec, hZ, Bd.bytes, hml, findClass_of_methodNamed Bd.named, Bd.notSynchronized, Bd.returns, (name_of_methodNamed Bd.named Bd.method).1⟩
theorem g_iadd (q : Nat) (hq : pc + 1 = q) (C : Ctx p s m meth c Z own nm bytes ml rt) (X : Stand p l e R s m args below meth c T locs cells slots) {x y : Int32} (hd : decode bytes pc = .ok (.iadd, 1)) (k : Goes p e below E T m q Ls (.int (x + y) :: St)) : Goes p e below E T m pc Ls (.int y :: .int x :: St) := by
  subst hq
  exact k.back fun t kt => XS.iadd (g := mkF m pc Ls (.int y :: .int x :: St)) X.here C.c_x rfl (hb C.c_by hd) rfl kt
theorem g_iand (q : Nat) (hq : pc + 1 = q) (C : Ctx p s m meth c Z own nm bytes ml rt) (X : Stand p l e R s m args below meth c T locs cells slots) {x y : Int32} (hd : decode bytes pc = .ok (.iand, 1)) (k : Goes p e below E T m q Ls (.int (x &&& y) :: St)) : Goes p e below E T m pc Ls (.int y :: .int x :: St) := by
  subst hq
  exact k.back fun t kt => XS.iand (g := mkF m pc Ls (.int y :: .int x :: St)) X.here C.c_x rfl (hb C.c_by hd) rfl kt
theorem g_ior (q : Nat) (hq : pc + 1 = q) (C : Ctx p s m meth c Z own nm bytes ml rt) (X : Stand p l e R s m args below meth c T locs cells slots) {x y : Int32} (hd : decode bytes pc = .ok (.ior, 1)) (k : Goes p e below E T m q Ls (.int (x ||| y) :: St)) : Goes p e below E T m pc Ls (.int y :: .int x :: St) := by
  subst hq
  exact k.back fun t kt => XS.ior (g := mkF m pc Ls (.int y :: .int x :: St)) X.here C.c_x rfl (hb C.c_by hd) rfl kt
theorem g_irem (q : Nat) (hq : pc + 1 = q) (C : Ctx p s m meth c Z own nm bytes ml rt) (X : Stand p l e R s m args below meth c T locs cells slots) {x y : Int32} (hd : decode bytes pc = .ok (.irem, 1)) (hy : y ≠ 0) (k : Goes p e below E T m q Ls (.int (x % y) :: St)) : Goes p e below E T m pc Ls (.int y :: .int x :: St) := by
  subst hq
  exact k.back fun t kt => XS.irem (g := mkF m pc Ls (.int y :: .int x :: St)) X.here C.c_x rfl (hb C.c_by hd) rfl hy (by rw [irem_eq_mod]; exact kt)
theorem g_ishl (q : Nat) (hq : pc + 1 = q) (C : Ctx p s m meth c Z own nm bytes ml rt) (X : Stand p l e R s m args below meth c T locs cells slots) {x y : Int32} (hd : decode bytes pc = .ok (.ishl, 1)) (k : Goes p e below E T m q Ls (.int (x <<< (y &&& 31)) :: St)) : Goes p e below E T m pc Ls (.int y :: .int x :: St) := by
  subst hq
  exact k.back fun t kt => XS.ishl (g := mkF m pc Ls (.int y :: .int x :: St)) X.here C.c_x rfl (hb C.c_by hd) rfl kt
theorem g_ishr (q : Nat) (hq : pc + 1 = q) (C : Ctx p s m meth c Z own nm bytes ml rt) (X : Stand p l e R s m args below meth c T locs cells slots) {x y : Int32} (hd : decode bytes pc = .ok (.ishr, 1)) (k : Goes p e below E T m q Ls (.int (x >>> (y &&& 31)) :: St)) : Goes p e below E T m pc Ls (.int y :: .int x :: St) := by
  subst hq
  exact k.back fun t kt => XS.ishr (g := mkF m pc Ls (.int y :: .int x :: St)) X.here C.c_x rfl (hb C.c_by hd) rfl kt
theorem g_lushr (q : Nat) (hq : pc + 1 = q) (C : Ctx p s m meth c Z own nm bytes ml rt) (X : Stand p l e R s m args below meth c T locs cells slots) {x : Int64} {y : Int32} (hd : decode bytes pc = .ok (.lushr, 1)) (k : Goes p e below E T m q Ls (.long ((x.toUInt64 >>> (y &&& 0x3f).toInt64.toUInt64).toInt64) :: St)) : Goes p e below E T m pc Ls (.int y :: .long x :: St) := by
  subst hq
  exact k.back fun t kt => XS.lushr (g := mkF m pc Ls (.int y :: .long x :: St)) X.here C.c_x rfl (hb C.c_by hd) rfl kt
theorem g_i2b (q : Nat) (hq : pc + 1 = q) (C : Ctx p s m meth c Z own nm bytes ml rt) (X : Stand p l e R s m args below meth c T locs cells slots) {x : Int32} (hd : decode bytes pc = .ok (.i2b, 1)) (k : Goes p e below E T m q Ls (.int (x.toInt8.toInt32) :: St)) : Goes p e below E T m pc Ls (.int x :: St) := by
  subst hq
  exact k.back fun t kt => XS.i2b (g := mkF m pc Ls (.int x :: St)) X.here C.c_x rfl (hb C.c_by hd) rfl kt
theorem g_l2i (q : Nat) (hq : pc + 1 = q) (C : Ctx p s m meth c Z own nm bytes ml rt) (X : Stand p l e R s m args below meth c T locs cells slots) {x : Int64} (hd : decode bytes pc = .ok (.l2i, 1)) (k : Goes p e below E T m q Ls (.int x.toInt32 :: St)) : Goes p e below E T m pc Ls (.long x :: St) := by
  subst hq
  exact k.back fun t kt => XS.l2i (g := mkF m pc Ls (.long x :: St)) X.here C.c_x rfl (hb C.c_by hd) rfl kt
theorem g_iconst (q : Nat) (hq : pc + 1 = q) (C : Ctx p s m meth c Z own nm bytes ml rt) (X : Stand p l e R s m args below meth c T locs cells slots) {i : Int} (v : Int32) (hd : decode bytes pc = .ok (.iconst i, 1)) (hv : Int32.ofInt i = v) (k : Goes p e below E T m q Ls (.int v :: St)) : Goes p e below E T m pc Ls St := by
  subst hq
  exact k.back fun t kt => XS.iconst (g := mkF m pc Ls St) X.here C.c_x rfl (hb C.c_by hd) (by subst hv; exact kt)
theorem g_bipush (q : Nat) (hq : pc + 2 = q) (C : Ctx p s m meth c Z own nm bytes ml rt) (X : Stand p l e R s m args below meth c T locs cells slots) {i : Int} (v : Int32) (hd : decode bytes pc = .ok (.bipush i, 2)) (hv : (Int8.ofInt i).toInt32 = v) (k : Goes p e below E T m q Ls (.int v :: St)) : Goes p e below E T m pc Ls St := by
  subst hq
  exact k.back fun t kt => XS.bipush (g := mkF m pc Ls St) X.here C.c_x rfl (hb C.c_by hd) (by subst hv; exact kt)
theorem g_sipush (q : Nat) (hq : pc + 3 = q) (C : Ctx p s m meth c Z own nm bytes ml rt) (X : Stand p l e R s m args below meth c T locs cells slots) {i : Int} (v : Int32) (hd : decode bytes pc = .ok (.sipush i, 3)) (hv : (Int16.ofInt i).toInt32 = v) (k : Goes p e below E T m q Ls (.int v :: St)) : Goes p e below E T m pc Ls St := by
  subst hq
  exact k.back fun t kt => XS.sipush (g := mkF m pc Ls St) X.here C.c_x rfl (hb C.c_by hd) (by subst hv; exact kt)
theorem g_iloadN (q : Nat) (hq : pc + 1 = q) (C : Ctx p s m meth c Z own nm bytes ml rt) (X : Stand p l e R s m args below meth c T locs cells slots) {k0 : Fin 4} {v : Int32} (hd : decode bytes pc = .ok (.iload_n k0, 1)) (hl : Ls[k0.val]? = some (.val (.int v))) (k : Goes p e below E T m q Ls (.int v :: St)) : Goes p e below E T m pc Ls St := by
  subst hq
  exact k.back fun t kt => XS.iloadN (g := mkF m pc Ls St) X.here C.c_x rfl (hb C.c_by hd) hl kt
theorem g_iload (q : Nat) (hq : pc + 2 = q) (C : Ctx p s m meth c Z own nm bytes ml rt) (X : Stand p l e R s m args below meth c T locs cells slots) {k0 : Nat} {v : Int32} (hd : decode bytes pc = .ok (.iload k0, 2)) (hl : Ls[k0]? = some (.val (.int v))) (k : Goes p e below E T m q Ls (.int v :: St)) : Goes p e below E T m pc Ls St := by
  subst hq
  exact k.back fun t kt => XS.iload (g := mkF m pc Ls St) X.here C.c_x rfl (hb C.c_by hd) hl kt
theorem g_lloadN (q : Nat) (hq : pc + 1 = q) (C : Ctx p s m meth c Z own nm bytes ml rt) (X : Stand p l e R s m args below meth c T locs cells slots) {k0 : Fin 4} {v : Int64} (hd : decode bytes pc = .ok (.lload_n k0, 1)) (hl : Ls[k0.val]? = some (.val (.long v))) (k : Goes p e below E T m q Ls (.long v :: St)) : Goes p e below E T m pc Ls St := by
  subst hq
  exact k.back fun t kt => XS.lloadN (g := mkF m pc Ls St) X.here C.c_x rfl (hb C.c_by hd) hl kt
theorem g_aloadN (q : Nat) (hq : pc + 1 = q) (C : Ctx p s m meth c Z own nm bytes ml rt) (X : Stand p l e R s m args below meth c T locs cells slots) {k0 : Fin 4} {v : Value} (hd : decode bytes pc = .ok (.aload_n k0, 1)) (hl : Ls[k0.val]? = some (.val v)) (hv : v.isRef = true) (k : Goes p e below E T m q Ls (v :: St)) : Goes p e below E T m pc Ls St := by
  subst hq
  exact k.back fun t kt => XS.aloadN (g := mkF m pc Ls St) X.here C.c_x rfl (hb C.c_by hd) hl hv kt
theorem g_aload (q : Nat) (hq : pc + 2 = q) (C : Ctx p s m meth c Z own nm bytes ml rt) (X : Stand p l e R s m args below meth c T locs cells slots) {k0 : Nat} {v : Value} (hd : decode bytes pc = .ok (.aload k0, 2)) (hl : Ls[k0]? = some (.val v)) (hv : v.isRef = true) (k : Goes p e below E T m q Ls (v :: St)) : Goes p e below E T m pc Ls St := by
  subst hq
  exact k.back fun t kt => XS.aload (g := mkF m pc Ls St) X.here C.c_x rfl (hb C.c_by hd) hl hv kt
theorem g_istore (q : Nat) (hq : pc + 2 = q) (C : Ctx p s m meth c Z own nm bytes ml rt) (X : Stand p l e R s m args below meth c T locs cells slots) {k0 : Nat} {x : Int32} (v : Int32) (hv : x = v) (Ls' : Array Slot) (hd : decode bytes pc = .ok (.istore k0, 2)) (hl : storeLocals Ls k0 (.int v) = some Ls') (k : Goes p e below E T m q Ls' St) : Goes p e below E T m pc Ls (.int x :: St) := by
  subst hq
  exact k.back fun t kt => XS.istore (g := mkF m pc Ls (.int x :: St)) X.here C.c_x rfl (hb C.c_by hd) rfl (by subst hv; exact hl) kt
theorem g_astore (q : Nat) (hq : pc + 2 = q) (C : Ctx p s m meth c Z own nm bytes ml rt) (X : Stand p l e R s m args below meth c T locs cells slots) {k0 : Nat} {x : Value} (Ls' : Array Slot) (hd : decode bytes pc = .ok (.astore k0, 2)) (hv : x.isRef = true) (hl : storeLocals Ls k0 x = some Ls') (k : Goes p e below E T m q Ls' St) : Goes p e below E T m pc Ls (x :: St) := by
  subst hq
  exact k.back fun t kt => XS.astore (g := mkF m pc Ls (x :: St)) X.here C.c_x rfl (hb C.c_by hd) rfl hv hl kt
theorem g_pop (q : Nat) (hq : pc + 1 = q) (C : Ctx p s m meth c Z own nm bytes ml rt) (X : Stand p l e R s m args below meth c T locs cells slots) {v : Value} (hd : decode bytes pc = .ok (.pop, 1)) (hv : v.category = 1) (k : Goes p e below E T m q Ls St) : Goes p e below E T m pc Ls (v :: St) := by
  subst hq
  exact k.back fun t kt => XS.pop (g := mkF m pc Ls (v :: St)) X.here C.c_x rfl (hb C.c_by hd) rfl hv kt
theorem g_goto (q : Nat) (C : Ctx p s m meth c Z own nm bytes ml rt) (X : Stand p l e R s m args below meth c T locs cells slots) {o : Int} (hd : decode bytes pc = .ok (.goto o, 3)) (ho : 0 ≤ (pc : Int) + o) (hp : ((pc : Int) + o).toNat = q) (k : Goes p e below E T m q Ls St) : Goes p e below E T m pc Ls St :=
  k.back fun t kt => XS.goto (g := mkF m pc Ls St) X.here C.c_x rfl (pc0 := pc) (pc' := q) rfl (hb C.c_by hd) ho hp kt
theorem own_z0 : (0 : Int32).toInt = 0 := rfl
theorem g_icmp_lt_t (q : Nat) (C : Ctx p s m meth c Z own nm bytes ml rt) (X : Stand p l e R s m args below meth c T locs cells slots) {o : Int} {x y : Int32} (hd : decode bytes pc = .ok (.if_icmp .lt o, 3)) (ho : 0 ≤ (pc : Int) + o) (hp : ((pc : Int) + o).toNat = q) (h : x.toInt < y.toInt) (k : Goes p e below E T m q Ls St) : Goes p e below E T m pc Ls (.int y :: .int x :: St) :=
  k.back fun t kt => XS.icmpYes (g := mkF m pc Ls (.int y :: .int x :: St)) X.here C.c_x rfl (pc0 := pc) (pc' := q) rfl (hb C.c_by hd) rfl (tlt (Int32.lt_iff_toInt_lt.mpr h)).1 ho hp kt
theorem g_icmp_lt_f (q : Nat) (hq : pc + 3 = q) (C : Ctx p s m meth c Z own nm bytes ml rt) (X : Stand p l e R s m args below meth c T locs cells slots) {o : Int} {x y : Int32} (hd : decode bytes pc = .ok (.if_icmp .lt o, 3)) (h : ¬ x.toInt < y.toInt) (k : Goes p e below E T m q Ls St) : Goes p e below E T m pc Ls (.int y :: .int x :: St) := by
  subst hq
  exact k.back fun t kt => XS.icmpNo (g := mkF m pc Ls (.int y :: .int x :: St)) X.here C.c_x rfl (hb C.c_by hd) rfl (flt (fun r => h (Int32.lt_iff_toInt_lt.mp r))).1 kt
theorem g_icmp_ge_t (q : Nat) (C : Ctx p s m meth c Z own nm bytes ml rt) (X : Stand p l e R s m args below meth c T locs cells slots) {o : Int} {x y : Int32} (hd : decode bytes pc = .ok (.if_icmp .ge o, 3)) (ho : 0 ≤ (pc : Int) + o) (hp : ((pc : Int) + o).toNat = q) (h : ¬ x.toInt < y.toInt) (k : Goes p e below E T m q Ls St) : Goes p e below E T m pc Ls (.int y :: .int x :: St) :=
  k.back fun t kt => XS.icmpYes (g := mkF m pc Ls (.int y :: .int x :: St)) X.here C.c_x rfl (pc0 := pc) (pc' := q) rfl (hb C.c_by hd) rfl (flt (fun r => h (Int32.lt_iff_toInt_lt.mp r))).2.1 ho hp kt
theorem g_icmp_ge_f (q : Nat) (hq : pc + 3 = q) (C : Ctx p s m meth c Z own nm bytes ml rt) (X : Stand p l e R s m args below meth c T locs cells slots) {o : Int} {x y : Int32} (hd : decode bytes pc = .ok (.if_icmp .ge o, 3)) (h : x.toInt < y.toInt) (k : Goes p e below E T m q Ls St) : Goes p e below E T m pc Ls (.int y :: .int x :: St) := by
  subst hq
  exact k.back fun t kt => XS.icmpNo (g := mkF m pc Ls (.int y :: .int x :: St)) X.here C.c_x rfl (hb C.c_by hd) rfl (tlt (Int32.lt_iff_toInt_lt.mpr h)).2.1 kt
theorem g_icmp_gt_t (q : Nat) (C : Ctx p s m meth c Z own nm bytes ml rt) (X : Stand p l e R s m args below meth c T locs cells slots) {o : Int} {x y : Int32} (hd : decode bytes pc = .ok (.if_icmp .gt o, 3)) (ho : 0 ≤ (pc : Int) + o) (hp : ((pc : Int) + o).toNat = q) (h : y.toInt < x.toInt) (k : Goes p e below E T m q Ls St) : Goes p e below E T m pc Ls (.int y :: .int x :: St) :=
  k.back fun t kt => XS.icmpYes (g := mkF m pc Ls (.int y :: .int x :: St)) X.here C.c_x rfl (pc0 := pc) (pc' := q) rfl (hb C.c_by hd) rfl (tlt (Int32.lt_iff_toInt_lt.mpr h)).2.2.1 ho hp kt
theorem g_icmp_gt_f (q : Nat) (hq : pc + 3 = q) (C : Ctx p s m meth c Z own nm bytes ml rt) (X : Stand p l e R s m args below meth c T locs cells slots) {o : Int} {x y : Int32} (hd : decode bytes pc = .ok (.if_icmp .gt o, 3)) (h : ¬ y.toInt < x.toInt) (k : Goes p e below E T m q Ls St) : Goes p e below E T m pc Ls (.int y :: .int x :: St) := by
  subst hq
  exact k.back fun t kt => XS.icmpNo (g := mkF m pc Ls (.int y :: .int x :: St)) X.here C.c_x rfl (hb C.c_by hd) rfl (flt (fun r => h (Int32.lt_iff_toInt_lt.mp r))).2.2.1 kt
theorem g_icmp_ne_t (q : Nat) (C : Ctx p s m meth c Z own nm bytes ml rt) (X : Stand p l e R s m args below meth c T locs cells slots) {o : Int} {x y : Int32} (hd : decode bytes pc = .ok (.if_icmp .ne o, 3)) (ho : 0 ≤ (pc : Int) + o) (hp : ((pc : Int) + o).toNat = q) (h : ¬ x.toInt = y.toInt) (k : Goes p e below E T m q Ls St) : Goes p e below E T m pc Ls (.int y :: .int x :: St) :=
  k.back fun t kt => XS.icmpYes (g := mkF m pc Ls (.int y :: .int x :: St)) X.here C.c_x rfl (pc0 := pc) (pc' := q) rfl (hb C.c_by hd) rfl (feq (fun r => h (congrArg Int32.toInt r))).2 ho hp kt
theorem g_if_ne_t (q : Nat) (C : Ctx p s m meth c Z own nm bytes ml rt) (X : Stand p l e R s m args below meth c T locs cells slots) {o : Int} {x : Int32} (hd : decode bytes pc = .ok (.ifCond .ne o, 3)) (ho : 0 ≤ (pc : Int) + o) (hp : ((pc : Int) + o).toNat = q) (h : ¬ x.toInt = 0) (k : Goes p e below E T m q Ls St) : Goes p e below E T m pc Ls (.int x :: St) :=
  k.back fun t kt => XS.ifYes (g := mkF m pc Ls (.int x :: St)) X.here C.c_x rfl (pc0 := pc) (pc' := q) rfl (hb C.c_by hd) rfl ((if0 _ _).trans (feq (fun r => h (congrArg Int32.toInt r))).2) ho hp kt
theorem g_icmp_ne_f (q : Nat) (hq : pc + 3 = q) (C : Ctx p s m meth c Z own nm bytes ml rt) (X : Stand p l e R s m args below meth c T locs cells slots) {o : Int} {x y : Int32} (hd : decode bytes pc = .ok (.if_icmp .ne o, 3)) (h : x.toInt = y.toInt) (k : Goes p e below E T m q Ls St) : Goes p e below E T m pc Ls (.int y :: .int x :: St) := by
  subst hq
  exact k.back fun t kt => XS.icmpNo (g := mkF m pc Ls (.int y :: .int x :: St)) X.here C.c_x rfl (hb C.c_by hd) rfl (teq (Int32.toInt_inj.mp h)).2 kt
theorem g_if_ne_f (q : Nat) (hq : pc + 3 = q) (C : Ctx p s m meth c Z own nm bytes ml rt) (X : Stand p l e R s m args below meth c T locs cells slots) {o : Int} {x : Int32} (hd : decode bytes pc = .ok (.ifCond .ne o, 3)) (h : x.toInt = 0) (k : Goes p e below E T m q Ls St) : Goes p e below E T m pc Ls (.int x :: St) := by
  subst hq
  exact k.back fun t kt => XS.ifNo (g := mkF m pc Ls (.int x :: St)) X.here C.c_x rfl (hb C.c_by hd) rfl ((if0 _ _).trans (teq (Int32.toInt_inj.mp h)).2) kt
theorem g_ldc (q : Nat) (hq : pc + 2 = q) (C : Ctx p s m meth c Z own nm bytes ml rt) (X : Stand p l e R s m args below meth c T locs cells slots) {i : Nat} {v : Int32} (w : (Cond.constant own i v).before a0 Z = true) (hd : decode bytes pc = .ok (.ldc i, 2)) (k : Goes p e below E T m q Ls (.int v :: St)) : Goes p e below E T m pc Ls St := by
  subst hq
  exact k.back fun t kt => X.ldcInt C.c_x C.c_own (mvT C.c_z w) (g := mkF m pc Ls St) rfl (hb C.c_by hd) _ kt
theorem g_retW (C : Ctx p s m meth c Z own nm bytes ml rt) (X : Stand p l e R s m args below meth c T locs cells slots) {w : Value} {t : FieldType} {i : Instr} (hrt : rt = some t) (hn : narrow t w = w)
    (hi : (i = .ireturn ∧ (t = .int ∨ t = .boolean ∨ t = .byte ∨ t = .char ∨ t = .short) ∧ ∃ z, w = .int z) ∨ (i = .lreturn ∧ t = .long ∧ ∃ z, w = .long z) ∨ (i = .dreturn ∧ t = .double ∧ ∃ z, w = .double z) ∨ (i = .freturn ∧ t = .float ∧ ∃ z, w = .float z) ∨ (i = .areturn ∧ t.isReference = true ∧ w.isRef = true))
    (hd : decode bytes pc = .ok (i, 1)) (eT : T.heap = h) (hc : cells ≤ CC) (hs : slots ≤ SS) (hQ : Q (some w) h locs) : Goes p e below (EndN s Q CC SS) T m pc Ls (w :: St) := by
  obtain ⟨fs, hr, hrun, hended, hW, hsame⟩ := X.leave (v := some w) (fun r => by rw [C.c_rt, hrt] at r; cases r) C.c_lk
  subst eT
  exact ⟨_, _, retOut X C.c_x (C.c_rt.trans hrt) hn hi (hb C.c_by hd) hr, hrun, hended, _, _, rfl, hQ, ⟨_, rfl⟩, hW, hsame.mono hc hs⟩
theorem g_retI (C : Ctx p s m meth c Z own nm bytes ml rt) (X : Stand p l e R s m args below meth c T locs cells slots) {z : Int32} (hrt : rt = some .int) (hd : decode bytes pc = .ok (.ireturn, 1)) (eT : T.heap = h) (hc : cells ≤ CC) (hs : slots ≤ SS) (hQ : Q (some (.int z)) h locs) : Goes p e below (EndN s Q CC SS) T m pc Ls (.int z :: St) :=
  g_retW C X hrt rfl (Or.inl ⟨rfl, Or.inl rfl, z, rfl⟩) hd eT hc hs hQ
theorem g_retN (C : Ctx p s m meth c Z own nm bytes ml rt) (X : Stand p l e R s m args below meth c T locs cells slots) {z z' : Int32} {t : FieldType} (hrt : rt = some t) (ht : t = .boolean ∨ t = .byte ∨ t = .char ∨ t = .short) (hd : decode bytes pc = .ok (.ireturn, 1)) (eT : T.heap = h) (hc : cells ≤ CC) (hs : slots ≤ SS) (hz : nar t z = z') (hQ : Q (some (.int z')) h locs) : Goes p e below (EndN s Q CC SS) T m pc Ls (.int z :: St) := by
  obtain ⟨fs, hr, hrun, hended, hW, hsame⟩ := X.leave (v := some (.int (nar t z))) (fun r => by rw [C.c_rt, hrt] at r; cases r) C.c_lk
  subst eT
  subst hz
  exact ⟨_, _, retN X C.c_x (C.c_rt.trans hrt) ht (hb C.c_by hd) hr, hrun, hended, _, _, rfl, hQ, ⟨_, rfl⟩, hW, hsame.mono hc hs⟩
def Ba (Z : State) (h : Heap) (a : Addr) (ty : FieldType) (n : Nat) (f : Nat → Int32) : Prop := ∃ c : Cell, Arr Z h a c ty ∧ c.slots.size = n ∧ n < 2 ^ 31 ∧ (∀ k, k < n → c.slots[k]? = some (.int (f k)))
def upd (f : Nat → Int32) (j : Nat) (v : Int32) : Nat → Int32 := fun k => bif Nat.beq k j then v else f k
theorem upd_same {f : Nat → Int32} {j k : Nat} {v : Int32} (q : k = j) : upd f j v k = v := by subst q; simp [upd]
theorem upd_ne {f : Nat → Int32} {j k : Nat} {v : Int32} (q : k ≠ j) : upd f j v k = f k := by
  have : Nat.beq k j = false := by
    cases hb : Nat.beq k j with
    | false => rfl
    | true => exact absurd (Nat.eq_of_beq_eq_true hb) q
  show (bif Nat.beq k j then v else f k) = f k
  rw [this]; rfl
theorem upd_eq (f : Nat → Int32) (j k : Nat) (v : Int32) : upd f j v k = if k = j then v else f k := by
  split
  · rename_i q; exact upd_same q
  · rename_i q; exact upd_ne q
theorem Ba.lt {a : Addr} {ty : FieldType} {n : Nat} {f : Nat → Int32} (F : Ba Z h a ty n f) : a < h.size := by obtain ⟨c, A, -⟩ := F; exact A.lt
theorem Ba.ext {h' : Heap} {a : Addr} {ty : FieldType} {n : Nat} {f : Nat → Int32} (F : Ba Z h a ty n f) (E : Ext h h') : Ba Z h' a ty n f := by obtain ⟨c, A, r⟩ := F; exact ⟨c, A.ext E, r⟩
theorem Ba.other {h' : Heap} {a b : Addr} {ty : FieldType} {n sl : Nat} {v : Value} {f : Nat → Int32} (F : Ba Z h a ty n f) (W : Wr h h' b sl v) (q : a ≠ b) : Ba Z h' a ty n f := by obtain ⟨c, A, r⟩ := F; exact ⟨c, A.other W q, r⟩
theorem Ba.keep {h' : Heap} {a : Addr} {ty : FieldType} {n : Nat} {ws : List Addr} {f : Nat → Int32} (F : Ba Z h a ty n f) (K : Keep h h' ws) (q : a ∉ ws) : Ba Z h' a ty n f := by obtain ⟨c, A, r⟩ := F; exact ⟨c, ⟨K.2.1 a c A.1 q, A.2⟩, r⟩
theorem Ba.same {h' : Heap} {a : Addr} {ty : FieldType} {n j : Nat} {v : Int32} {f : Nat → Int32} (F : Ba Z h a ty n f) (W : Wr h h' a j (.int v)) : Ba Z h' a ty n (upd f j v) := by
  obtain ⟨c, A, hs, hn, hf⟩ := F
  refine ⟨_, A.same W, by simp [Cell.setSlot, hs], hn, fun k hk => ?_⟩
  rw [upd_eq]
  by_cases q : k = j
  · subst q; simp [Cell.setSlot, hs, hk]
  · rw [if_neg q]; simp only [Cell.setSlot]; rw [Array.getElem?_setIfInBounds_ne (Ne.symm q)]; exact hf k hk
theorem Ba.cong {a : Addr} {ty : FieldType} {n : Nat} {f f' : Nat → Int32} (F : Ba Z h a ty n f) (q : ∀ k, k < n → f k = f' k) : Ba Z h a ty n f' := by
  obtain ⟨c, A, hs, hn, hf⟩ := F
  exact ⟨c, A, hs, hn, fun k hk => by rw [← q k hk]; exact hf k hk⟩
theorem Ba.new {a : Addr} {cA : ClassId} {ty : FieldType} {z : Int32} {n : Nat} (A : Arr Z h a (newA cA ty z) ty) (hz : z.toInt = n) (hd : defaultValue ty = .int 0) : Ba Z h a ty n (fun _ => 0) := by
  have hr := rng32 z
  have hn : z.toNatClampNeg = n := by simp only [Int32.toNatClampNeg, hz]; rfl
  exact ⟨_, A, by rw [sz_new, hn], by omega, fun k hk => by simp [newA, hn, hk, hd]⟩
theorem own_clamp {j : Int32} {k : Nat} (hj : j.toInt = k) : j.toNatClampNeg = k ∧ ¬ j < 0 := by
  refine ⟨by simp only [Int32.toNatClampNeg, hj]; rfl, fun r => ?_⟩
  have := Int32.lt_iff_toInt_lt.mp r
  rw [hj, own_z0] at this; omega
theorem own_in {j : Int32} {k n : Nat} {c : Cell} (hs : c.slots.size = n) (hj : j.toInt = k) (hk : k < n) : ¬ (j < 0 ∨ c.slots.size ≤ j.toNatClampNeg) := by
  obtain ⟨h1, h2⟩ := own_clamp hj
  rw [h1, hs]; intro r; rcases r with r | r
  · exact h2 r
  · omega
theorem own_lenI {n : Nat} (hn : n < 2 ^ 31) : (n.toInt32).toInt = n := by
  have := len_toInt hn
  exact this
theorem g_newP (q : Nat) (hq : pc + 2 = q) (C : Ctx p s m meth c Z own nm bytes ml rt) (X : Stand p l e R s m args below meth c T locs cells slots) {aty : ArrayType} {z : Int32} (n : Nat) (hz : z.toInt = n) (cap : Nat) (hcap : n ≤ cap) (hb' : cap * 8 ≤ 536870912) (hdf : defaultValue (newarray.typeOf aty) = .int 0) (w : (Cond.arrayClass (newarray.typeOf aty)).before a0 Z = true) (eT : T.heap = h) (hd : decode bytes pc = .ok (.newarray aty, 2)) (hc : cells + 1 ≤ R.cells) (hl : slots + cap ≤ R.slots)
    (k : ∀ T' h' a, a = h.size → Stand p l e R s m args below meth c T' locs (cells + 1) (slots + cap) → T'.heap = h' → Ext h h' → Ba Z h' a (newarray.typeOf aty) n (fun _ => 0) → Goes p e below E T' m q Ls (.ref a :: St)) : Goes p e below E T m pc Ls (.int z :: St) := by
  subst hq
  obtain ⟨h1, h2⟩ := own_clamp hz
  obtain ⟨T', h', cA, X', e', E', A', st⟩ := newP X C.c_x C.c_z w eT (g := mkF m pc Ls (.int z :: St)) rfl (hb C.c_by hd) rfl h2 (cap := cap) (by rw [h1]; exact hcap) hb' hc hl
  exact (k T' h' _ rfl X' e' E' (Ba.new A' hz hdf)).back fun t kt => st t kt
theorem g_baload (q : Nat) (hq : pc + 1 = q) (C : Ctx p s m meth c Z own nm bytes ml rt) (X : Stand p l e R s m args below meth c T locs cells slots) {a : Addr} {n : Nat} {f : Nat → Int32} {j : Int32} (eT : T.heap = h) (F : Ba Z h a .byte n f) (i : Nat) (hj : j.toInt = i) (hi : i < n) (v : Int32) (hv : f i = v) (hd : decode bytes pc = .ok (.baload, 1)) (k : Goes p e below E T m q Ls (.int v :: St)) : Goes p e below E T m pc Ls (.int j :: .ref a :: St) := by
  subst hq
  obtain ⟨c0, A, hs, hn, hf⟩ := F
  exact k.back fun t kt => X.baloadBytes C.c_x (j := j) (v := .int v) (by rw [eT]; exact A.1) (State.isArrayOf_alike C.c_z.alike A.2.1) A.2.2 (own_in hs hj hi) (by rw [(own_clamp hj).1, ← hv]; exact hf i hi) (g := mkF m pc Ls (.int j :: .ref a :: St)) rfl rfl (hb C.c_by hd) t kt
theorem g_bastore (q : Nat) (hq : pc + 1 = q) (C : Ctx p s m meth c Z own nm bytes ml rt) (X : Stand p l e R s m args below meth c T locs cells slots) {a : Addr} {n : Nat} {f : Nat → Int32} {j x : Int32} (eT : T.heap = h) (F : Ba Z h a .byte n f) (i : Nat) (hj : j.toInt = i) (hi : i < n) (v : Int32) (hv : x.toInt8.toInt32 = v) (hd : decode bytes pc = .ok (.bastore, 1)) {n0 : Nat} (N : Fr n0 locs) (hn0 : n0 ≤ a)
    (k : ∀ T' h' locs', Stand p l e R s m args below meth c T' locs' cells slots → T'.heap = h' → Wr h h' a i (.int v) → Ba Z h' a .byte n (upd f i v) → Fr n0 locs' → Goes p e below E T' m q Ls St) : Goes p e below E T m pc Ls (.int x :: .int j :: .ref a :: St) := by
  subst hq hv
  have F0 := F
  obtain ⟨c0, A, hs, hn, hf⟩ := F
  obtain ⟨T', h', X', e', W', st⟩ := stB X C.c_x C.c_z eT A (j := j) (own_in hs hj hi) (g := mkF m pc Ls (.int x :: .int j :: .ref a :: St)) rfl rfl (hb C.c_by hd)
  rw [(own_clamp hj).1] at W' X'
  exact (k T' h' _ X' e' W' (F0.same W') (Fr.snoc X' N hn0)).back fun t kt => st t kt
theorem own_narByte {b : Int32} (h0 : -128 ≤ b.toInt) (h1 : b.toInt < 128) : b.toInt8.toInt32 = b := by
  have := c_i2b b
  exact Int32.toInt_inj.mp (by omega)
theorem own_fitB {x : Int32} (h0 : -128 ≤ x.toInt) (h1 : x.toInt < 128) : fits .byte (.int x) = true := by
  have e := own_narByte h0 h1
  rw [← e]; exact fits_nar_byte x

theorem g_callS (q : Nat) (hq : pc + 3 = q) (C : Ctx p s m meth c Z own nm bytes ml rt) (X : Stand p l e R s m args below meth c T locs cells slots) {y : MethodName} {bytes' : ByteArray} {maxL' : Nat} {ret' : Option FieldType} {rm : Room} {Q' : Option Value → Heap → List Loc → Prop} {i W : Nat} {argsL : List Value} (w1 : (Cond.methodLink own i y).before a0 Z = true) (w2 : (Cond.static y).before a0 Z = true) (wc : (Cond.code y bytes' maxL' ret').before a0 Z = true) (wz : (Cond.initialized y.cls).before a0 Z = true) (eT : T.heap = h) (M : MetFree l y (head1 [Cond.code y bytes' maxL' ret'] rm) (fun a' U => a' = argsL.toArray ∧ Z.Warmed39 U.vm ∧ U.heap = h) (fun _ _ _ _ _ => True) (fun _ U o U' => ∃ v L, o = .returned v ∧ Q' v U'.heap L ∧ FrameEnd U o U' L rm.cells rm.slots)) (hlen : ∀ sig, parseMethodDescriptor y.desc = some sig → argsL.length = sig.parameters.length) (hf : rm.frames + 1 ≤ R.frames) (hl : W + (maxL' + 11) + rm.locals ≤ R.locals) (hc : cells + rm.cells ≤ R.cells) (hsl : slots + rm.slots ≤ R.slots) (hsz : Ls.size = ml) (hW : (St.map fun v => v.category).sum ≤ W) (hy : y.cls ≠ "java/lang/invoke/MethodHandle" ∧ y.cls ≠ "java/lang/invoke/VarHandle") (hd : decode bytes pc = .ok (.invokestatic i, 3)) {St0 : List Value} (hst : St0 = argsL.reverse ++ St)
    (k : ∀ v T' L, Stand p l e R s m args below meth c T' (locs ++ L) (cells + rm.cells) (slots + rm.slots) → Q' v T'.heap L → Goes p e below E T' m q Ls (v.toList ++ St)) : Goes p e below E T m pc Ls St0 := by
  subst hq hst
  obtain ⟨v, _, ⟨T', L', k', n'⟩, -, X', ⟨Lc, hQ', l', y', z'⟩, st⟩ := Jvm.LawKit.callS X C.c_x (y := y) C.c_own (mvT C.c_z w1) (mvT C.c_z w2) (mvT C.c_z wz) (mvT C.c_z wc) hy (backOf (W := W) M C.c_z wc wz hf hl) (g := mkF m pc Ls (argsL.reverse ++ St)) rfl (hsz.trans C.c_ml.symm) (argsL := argsL) (rest := St) hlen rfl (by show 2 * 0 + _ ≤ _; omega) (hb C.c_by hd) (fun _ _ => ⟨rfl, eT, hc, hsl⟩)
  dsimp only [Pt.U, Pt.locs, Pt.cells, Pt.slots] at X' l' y' z' st hQ'
  subst l' y' z'
  exact (k v T' Lc X' hQ').back fun t kt => st t kt
end Own
section OwnArith
theorem own_mulc (x y : Int32) (k : Int) (hk : y.toInt = k) : ((x * y).toInt - x.toInt * k) % 4294967296 = 0 := hk ▸ c_imul x y
theorem own_mulc' (x y : Int32) (k : Int) (hk : x.toInt = k) : ((x * y).toInt - k * y.toInt) % 4294967296 = 0 := hk ▸ c_imul x y
theorem own_lmulc (x y : Int64) (k : Int) (hk : y.toInt = k) : ((x * y).toInt - x.toInt * k) % 18446744073709551616 = 0 := hk ▸ c_lmul x y
theorem own_lmulc' (x y : Int64) (k : Int) (hk : x.toInt = k) : ((x * y).toInt - k * y.toInt) % 18446744073709551616 = 0 := hk ▸ c_lmul x y
theorem own_bvor (x y : BitVec 32) : (x ||| y) + (x &&& y) = x + y := by
  have h1 : x = (x &&& y) + (x &&& ~~~y) := by
    rw [BitVec.add_eq_or_of_and_eq_zero]
    · ext i; simp; cases x[i] <;> cases y[i] <;> rfl
    · ext i; simp; cases x[i] <;> cases y[i] <;> simp
  have h2 : x ||| y = y + (x &&& ~~~y) := by
    rw [BitVec.add_eq_or_of_and_eq_zero]
    · ext i; simp; cases x[i] <;> cases y[i] <;> rfl
    · ext i; simp; cases x[i] <;> cases y[i] <;> simp
  rw [h2]
  conv => rhs; rw [h1]
  ac_rfl
theorem own_or0 (x y : Int32) : (x ||| y) + (x &&& y) = x + y := Int32.toBitVec_inj.mp (by simpa using own_bvor x.toBitVec y.toBitVec)
theorem own_or (x y : Int32) : ((x ||| y).toInt + (x &&& y).toInt - (x.toInt + y.toInt)) % 4294967296 = 0 := by
  have h1 := c_iadd (x ||| y) (x &&& y)
  have h2 := c_iadd x y
  rw [own_or0] at h1; omega
theorem own_bvblk (x m a b : BitVec 32) (h1 : m ||| a = b) (h2 : m &&& a = 0#32) : (x &&& m) + (x &&& a) = x &&& b := by
  rw [BitVec.add_eq_or_of_and_eq_zero, ← h1]
  · ext i; simp; cases x[i] <;> simp
  · have : (x &&& m) &&& (x &&& a) = x &&& (m &&& a) := by ext i; simp; cases x[i] <;> simp
    rw [this, h2]; simp
theorem own_blk (x m a b : Int32) (h1 : m ||| a = b) (h2 : m &&& a = 0) : ((x &&& m).toInt + (x &&& a).toInt - (x &&& b).toInt) % 4294967296 = 0 := by
  have e : (x &&& m) + (x &&& a) = x &&& b := Int32.toBitVec_inj.mp (by
    have q1 := congrArg Int32.toBitVec h1
    have q2 := congrArg Int32.toBitVec h2
    simpa using own_bvblk x.toBitVec m.toBitVec a.toBitVec b.toBitVec (by simpa using q1) (by simpa using q2))
  have := c_iadd (x &&& m) (x &&& a)
  rw [e] at this; omega
theorem own_andM1 (x : Int32) : x &&& (-1) = x := Int32.toBitVec_inj.mp (by ext i; simp)
theorem own_narZ {b : Int32} (hb : b.toInt = 0 ∨ b.toInt = 1) : nar .boolean b = b := by
  have : b = 0 ∨ b = 1 := by
    rcases hb with q | q
    · exact Or.inl (Int32.toInt_inj.mp q)
    · exact Or.inr (Int32.toInt_inj.mp q)
  rcases this with rfl | rfl <;> decide
theorem own_narC {b : Int32} (h0 : 0 ≤ b.toInt) (h1 : b.toInt < 65536) : nar .char b = b := by
  have := c_i2c b
  exact Int32.toInt_inj.mp (by show b.toUInt32.toUInt16.toUInt32.toInt32.toInt = _; omega)
theorem own_narB {b : Int32} (h0 : -128 ≤ b.toInt) (h1 : b.toInt < 128) : nar .byte b = b := by
  have := c_i2b b
  exact Int32.toInt_inj.mp (by show b.toInt8.toInt32.toInt = _; omega)
theorem own_eq {x y : Int32} (q : x.toInt = y.toInt) : x = y := Int32.toInt_inj.mp q
theorem own_eqL {x y : Int64} (q : x.toInt = y.toInt) : x = y := Int64.toInt_inj.mp q
end OwnArith


theorem d1_0 : decode prog_60_method_2_code 0 = .ok (.iload_n 0, 1) := by decide +kernel
theorem d1_1 : decode prog_60_method_2_code 1 = .ok (.sipush 128, 3) := by decide +kernel
theorem d1_4 : decode prog_60_method_2_code 4 = .ok (.if_icmp .ge 10, 3) := by decide +kernel
theorem d1_7 : decode prog_60_method_2_code 7 = .ok (.aload_n 1, 1) := by decide +kernel
theorem d1_8 : decode prog_60_method_2_code 8 = .ok (.iload_n 2, 1) := by decide +kernel
theorem d1_9 : decode prog_60_method_2_code 9 = .ok (.iload_n 0, 1) := by decide +kernel
theorem d1_10 : decode prog_60_method_2_code 10 = .ok (.i2b, 1) := by decide +kernel
theorem d1_11 : decode prog_60_method_2_code 11 = .ok (.bastore, 1) := by decide +kernel
theorem d1_12 : decode prog_60_method_2_code 12 = .ok (.iconst 1, 1) := by decide +kernel
theorem d1_13 : decode prog_60_method_2_code 13 = .ok (.ireturn, 1) := by decide +kernel
theorem pn_25196549 : plainName "com/example/fieldpare/fieldpare/Utf8" = true := by first | (simp [plainName, overriddenIn]; done) | decide +kernel
theorem ef_1_1 (m : MethodId) (p0 : Int32) (b1 : Addr) (p2 : Int32) : entryFrame m #[(.int p0), (.ref b1), (.int p2)] 3 = mkF m 0 #[.val (.int p0), .val (.ref b1), .val (.int p2)] [] := by first | (simp [entryFrame, mkF, argsToLocals, Value.category]; done) | rfl
def Q1_1 (Z : State) (p0 : Int32) (b1 : Addr) (p2 : Int32) (f : Nat → Int32) (n : Nat) (h0 : Heap) (n0 : Nat) (v : Option Value) (h : Heap) (L : List Loc) : Prop := ∃ f' : Nat → Int32, v = some (.int 1) ∧ ((f' n).toInt = p0.toInt) ∧ (∀ k, (k < n ∨ n + 1 ≤ k) → (f' k).toInt = (f k).toInt) ∧ Fr n0 L ∧ Keep h0 h [b1] ∧ Ba Z h b1 .byte 8 f'
set_option maxRecDepth 65536 in
set_option maxHeartbeats 40000000 in
theorem rm1_1 (l : Launch) (Z : State) (a0 : Array Value) (hw : ∀ d ∈ tables_1, d.before a0 Z = true) (ws : List Jvm.Cond) (p0 : Int32) (b1 : Addr) (p2 : Int32) (f : Nat → Int32) (n : Nat) (h0 : Heap) (n0 : Nat) (Z0 : n0 ≤ h0.size) (B_b1 : Ba Z h0 b1 .byte 8 f) (hn : p2.toInt = n) (hn8 : n + 1 ≤ 8) (hc : 0 ≤ p0.toInt ∧ p0.toInt < 128) (g_b1 : n0 ≤ b1) :
    MetFree l (⟨"com/example/fieldpare/fieldpare/Utf8", "encode", "(I[BI)I"⟩ : MethodName) (head1 (Jvm.Cond.code (⟨"com/example/fieldpare/fieldpare/Utf8", "encode", "(I[BI)I"⟩ : MethodName) prog_60_method_2_code 3 (some .int) :: ws) ({ frames := 0, cells := 0, slots := 0, locals := 0 } : Room)) (fun a U => a = #[(.int p0), (.ref b1), (.int p2)] ∧ Z.Warmed39 U.vm ∧ U.heap = h0) (fun _ _ _ _ _ => True) (fun _ U o U' => ∃ v L, o = .returned v ∧ Q1_1 Z p0 b1 p2 f n h0 n0 v U'.heap L ∧ FrameEnd U o U' L ({ frames := 0, cells := 0, slots := 0, locals := 0 } : Room).cells ({ frames := 0, cells := 0, slots := 0, locals := 0 } : Room).slots) := by
  refine MetFree.of_bodySF (plainFor_of_name pn_25196549) hisR ?_
  intro p e s m args below meth c s₁ Bd hml0 hP hK
  obtain ⟨rfl, hZ, hh⟩ := hP
  have C : Ctx p s m meth c Z "com/example/fieldpare/fieldpare/Utf8" "encode" prog_60_method_2_code 3 (some .int) := Ctx.of Bd hml0 hZ
  have X0 : Stand p l e ({ frames := 0, cells := 0, slots := 0, locals := 0 } : Room) s m #[(.int p0), (.ref b1), (.int p2)] below meth c s₁ [] 0 0 := Stand.of_body Bd
  have e0 : s₁.heap = h0 := by rw [← hh, Bd.state]; rfl
  have N0 := Fr.nil n0
  refine Goes.enter (ef_1_1 m p0 b1 p2) ?_
  clear hK hml0 hh
  refine g_iloadN 1 rfl C X0 d1_0 rfl ?_
  refine g_sipush 4 rfl C X0 (128 : Int32) d1_1 rfl ?_
  have fr1 := rng32 p0
  have fc2 : (128 : Int32).toInt = 128 := rfl
  have hb3 : p0.toInt < (128 : Int32).toInt := by omega
  refine g_icmp_ge_f 7 rfl C X0 d1_4 hb3 ?_
  refine g_aloadN 8 rfl C X0 d1_7 rfl rfl ?_
  refine g_iloadN 9 rfl C X0 d1_8 rfl ?_
  refine g_iloadN 10 rfl C X0 d1_9 rfl ?_
  refine g_i2b 11 rfl C X0 d1_10 ?_
  have fr4 := rng32 p2
  obtain ⟨w5, hw5⟩ : ∃ z : Int32, ((((p0).toInt8.toInt32)).toInt8.toInt32) = z := ⟨_, rfl⟩
  refine g_bastore 12 rfl C X0 e0 B_b1 (n) (by omega) (by omega) w5 hw5 d1_11 N0 g_b1 fun T6 h7 ls8 X9 e10 W11 B12 N13 => ?_
  have Zs14 := Nat.le_trans Z0 (Nat.le_of_eq W11.size.symm)
  have Kp15 : Keep h0 h7 [b1] := (Keep.refl h0 [b1]).wr W11 (Or.inl (List.mem_of_getElem? (i := 0) rfl))
  refine g_iconst 13 rfl C X9 (1 : Int32) d1_12 rfl ?_
  have fr16 := rng32 w5
  have fo17 := c_i2b p0
  have fo18 := c_i2b ((p0).toInt8.toInt32)
  have fe19 : ((((p0).toInt8.toInt32)).toInt8.toInt32).toInt = w5.toInt := congrArg Int32.toInt hw5
  have hv20 : ((upd f (n) w5) n).toInt = w5.toInt := congrArg Int32.toInt (upd_same (by omega))
  exact g_retI C X9 rfl d1_13 e10 (by decide) (by decide) ⟨_, rfl, (by omega), (fun k hk => congrArg Int32.toInt (upd_ne (by omega))), N13, Kp15, B12⟩
theorem d1_14 : decode prog_60_method_2_code 14 = .ok (.iload_n 0, 1) := by decide +kernel
theorem d1_15 : decode prog_60_method_2_code 15 = .ok (.sipush 2048, 3) := by decide +kernel
theorem d1_18 : decode prog_60_method_2_code 18 = .ok (.if_icmp .ge 31, 3) := by decide +kernel
theorem d1_21 : decode prog_60_method_2_code 21 = .ok (.aload_n 1, 1) := by decide +kernel
theorem d1_22 : decode prog_60_method_2_code 22 = .ok (.iload_n 2, 1) := by decide +kernel
theorem d1_23 : decode prog_60_method_2_code 23 = .ok (.sipush 192, 3) := by decide +kernel
theorem d1_26 : decode prog_60_method_2_code 26 = .ok (.iload_n 0, 1) := by decide +kernel
theorem d1_27 : decode prog_60_method_2_code 27 = .ok (.bipush 6, 2) := by decide +kernel
theorem d1_29 : decode prog_60_method_2_code 29 = .ok (.ishr, 1) := by decide +kernel
theorem d1_30 : decode prog_60_method_2_code 30 = .ok (.ior, 1) := by decide +kernel
theorem d1_31 : decode prog_60_method_2_code 31 = .ok (.i2b, 1) := by decide +kernel
theorem d1_32 : decode prog_60_method_2_code 32 = .ok (.bastore, 1) := by decide +kernel
theorem d1_33 : decode prog_60_method_2_code 33 = .ok (.aload_n 1, 1) := by decide +kernel
theorem d1_34 : decode prog_60_method_2_code 34 = .ok (.iload_n 2, 1) := by decide +kernel
theorem d1_35 : decode prog_60_method_2_code 35 = .ok (.iconst 1, 1) := by decide +kernel
theorem d1_36 : decode prog_60_method_2_code 36 = .ok (.iadd, 1) := by decide +kernel
theorem d1_37 : decode prog_60_method_2_code 37 = .ok (.sipush 128, 3) := by decide +kernel
theorem d1_40 : decode prog_60_method_2_code 40 = .ok (.iload_n 0, 1) := by decide +kernel
theorem d1_41 : decode prog_60_method_2_code 41 = .ok (.bipush 63, 2) := by decide +kernel
theorem d1_43 : decode prog_60_method_2_code 43 = .ok (.iand, 1) := by decide +kernel
theorem d1_44 : decode prog_60_method_2_code 44 = .ok (.ior, 1) := by decide +kernel
theorem d1_45 : decode prog_60_method_2_code 45 = .ok (.i2b, 1) := by decide +kernel
theorem d1_46 : decode prog_60_method_2_code 46 = .ok (.bastore, 1) := by decide +kernel
theorem d1_47 : decode prog_60_method_2_code 47 = .ok (.iconst 2, 1) := by decide +kernel
theorem d1_48 : decode prog_60_method_2_code 48 = .ok (.ireturn, 1) := by decide +kernel
theorem ef_1_2 (m : MethodId) (p0 : Int32) (b1 : Addr) (p2 : Int32) : entryFrame m #[(.int p0), (.ref b1), (.int p2)] 3 = mkF m 0 #[.val (.int p0), .val (.ref b1), .val (.int p2)] [] := by first | (simp [entryFrame, mkF, argsToLocals, Value.category]; done) | rfl
def Q1_2 (Z : State) (p0 : Int32) (b1 : Addr) (p2 : Int32) (f : Nat → Int32) (n : Nat) (h0 : Heap) (n0 : Nat) (v : Option Value) (h : Heap) (L : List Loc) : Prop := ∃ f' : Nat → Int32, v = some (.int 2) ∧ ((f' n).toInt = p0.toInt / 64 - 64 ∧ (f' (n + 1)).toInt = p0.toInt % 64 - 128) ∧ (∀ k, (k < n ∨ n + 2 ≤ k) → (f' k).toInt = (f k).toInt) ∧ Fr n0 L ∧ Keep h0 h [b1] ∧ Ba Z h b1 .byte 8 f'
set_option maxRecDepth 65536 in
set_option maxHeartbeats 40000000 in
theorem rm1_2 (l : Launch) (Z : State) (a0 : Array Value) (hw : ∀ d ∈ tables_1, d.before a0 Z = true) (ws : List Jvm.Cond) (p0 : Int32) (b1 : Addr) (p2 : Int32) (f : Nat → Int32) (n : Nat) (h0 : Heap) (n0 : Nat) (Z0 : n0 ≤ h0.size) (B_b1 : Ba Z h0 b1 .byte 8 f) (hn : p2.toInt = n) (hn8 : n + 2 ≤ 8) (hc : 128 ≤ p0.toInt ∧ p0.toInt < 2048) (g_b1 : n0 ≤ b1) :
    MetFree l (⟨"com/example/fieldpare/fieldpare/Utf8", "encode", "(I[BI)I"⟩ : MethodName) (head1 (Jvm.Cond.code (⟨"com/example/fieldpare/fieldpare/Utf8", "encode", "(I[BI)I"⟩ : MethodName) prog_60_method_2_code 3 (some .int) :: ws) ({ frames := 0, cells := 0, slots := 0, locals := 0 } : Room)) (fun a U => a = #[(.int p0), (.ref b1), (.int p2)] ∧ Z.Warmed39 U.vm ∧ U.heap = h0) (fun _ _ _ _ _ => True) (fun _ U o U' => ∃ v L, o = .returned v ∧ Q1_2 Z p0 b1 p2 f n h0 n0 v U'.heap L ∧ FrameEnd U o U' L ({ frames := 0, cells := 0, slots := 0, locals := 0 } : Room).cells ({ frames := 0, cells := 0, slots := 0, locals := 0 } : Room).slots) := by
  refine MetFree.of_bodySF (plainFor_of_name pn_25196549) hisR ?_
  intro p e s m args below meth c s₁ Bd hml0 hP hK
  obtain ⟨rfl, hZ, hh⟩ := hP
  have C : Ctx p s m meth c Z "com/example/fieldpare/fieldpare/Utf8" "encode" prog_60_method_2_code 3 (some .int) := Ctx.of Bd hml0 hZ
  have X0 : Stand p l e ({ frames := 0, cells := 0, slots := 0, locals := 0 } : Room) s m #[(.int p0), (.ref b1), (.int p2)] below meth c s₁ [] 0 0 := Stand.of_body Bd
  have e0 : s₁.heap = h0 := by rw [← hh, Bd.state]; rfl
  have N0 := Fr.nil n0
  refine Goes.enter (ef_1_2 m p0 b1 p2) ?_
  clear hK hml0 hh
  refine g_iloadN 1 rfl C X0 d1_0 rfl ?_
  refine g_sipush 4 rfl C X0 (128 : Int32) d1_1 rfl ?_
  have fr1 := rng32 p0
  have fc2 : (128 : Int32).toInt = 128 := rfl
  have hb3 : ¬ (p0.toInt < (128 : Int32).toInt) := by omega
  refine g_icmp_ge_t 14 C X0 d1_4 (by decide) (by decide) hb3 ?_
  refine g_iloadN 15 rfl C X0 d1_14 rfl ?_
  refine g_sipush 18 rfl C X0 (2048 : Int32) d1_15 rfl ?_
  have fc4 : (2048 : Int32).toInt = 2048 := rfl
  have hb5 : p0.toInt < (2048 : Int32).toInt := by omega
  refine g_icmp_ge_f 21 rfl C X0 d1_18 hb5 ?_
  refine g_aloadN 22 rfl C X0 d1_21 rfl rfl ?_
  refine g_iloadN 23 rfl C X0 d1_22 rfl ?_
  refine g_sipush 26 rfl C X0 (192 : Int32) d1_23 rfl ?_
  refine g_iloadN 27 rfl C X0 d1_26 rfl ?_
  refine g_bipush 29 rfl C X0 (6 : Int32) d1_27 rfl ?_
  refine g_ishr 30 rfl C X0 d1_29 ?_
  refine g_ior 31 rfl C X0 d1_30 ?_
  refine g_i2b 32 rfl C X0 d1_31 ?_
  have fr6 := rng32 p2
  obtain ⟨w7, hw7⟩ : ∃ z : Int32, ((((((192 : Int32) ||| (p0 >>> ((6 : Int32) &&& 31)))).toInt8.toInt32)).toInt8.toInt32) = z := ⟨_, rfl⟩
  refine g_bastore 33 rfl C X0 e0 B_b1 (n) (by omega) (by omega) w7 hw7 d1_32 N0 g_b1 fun T8 h9 ls10 X11 e12 W13 B14 N15 => ?_
  have Zs16 := Nat.le_trans Z0 (Nat.le_of_eq W13.size.symm)
  have Kp17 : Keep h0 h9 [b1] := (Keep.refl h0 [b1]).wr W13 (Or.inl (List.mem_of_getElem? (i := 0) rfl))
  refine g_aloadN 34 rfl C X11 d1_33 rfl rfl ?_
  refine g_iloadN 35 rfl C X11 d1_34 rfl ?_
  refine g_iconst 36 rfl C X11 (1 : Int32) d1_35 rfl ?_
  refine g_iadd 37 rfl C X11 d1_36 ?_
  refine g_sipush 40 rfl C X11 (128 : Int32) d1_37 rfl ?_
  refine g_iloadN 41 rfl C X11 d1_40 rfl ?_
  refine g_bipush 43 rfl C X11 (63 : Int32) d1_41 rfl ?_
  refine g_iand 44 rfl C X11 d1_43 ?_
  refine g_ior 45 rfl C X11 d1_44 ?_
  refine g_i2b 46 rfl C X11 d1_45 ?_
  have fc18 : (1 : Int32).toInt = 1 := rfl
  have fo19 := c_iadd p2 (1 : Int32)
  have fr20 := rng32 (p2 + (1 : Int32))
  obtain ⟨w21, hw21⟩ : ∃ z : Int32, ((((((128 : Int32) ||| (p0 &&& (63 : Int32)))).toInt8.toInt32)).toInt8.toInt32) = z := ⟨_, rfl⟩
  refine g_bastore 47 rfl C X11 e12 B14 (n + 1) (by omega) (by omega) w21 hw21 d1_46 N15 g_b1 fun T22 h23 ls24 X25 e26 W27 B28 N29 => ?_
  have Zs30 := Nat.le_trans Zs16 (Nat.le_of_eq W27.size.symm)
  have Kp31 : Keep h0 h23 [b1] := Kp17.wr W27 (Or.inl (List.mem_of_getElem? (i := 0) rfl))
  refine g_iconst 48 rfl C X25 (2 : Int32) d1_47 rfl ?_
  have fr32 := rng32 w7
  have fc33 : (192 : Int32).toInt = 192 := rfl
  have fc34 : (6 : Int32).toInt = 6 := rfl
  have fo35 : ((p0 >>> ((6 : Int32) &&& 31))).toInt = p0.toInt / 64 := c_ishr p0 (6 : Int32) 6 (by decide)
  have fo36 := c_or (192 : Int32) (p0 >>> ((6 : Int32) &&& 31)) 6 (by decide) 64 (by decide) (by omega) (by omega) (by omega)
  have fr37 := rng32 ((192 : Int32) ||| (p0 >>> ((6 : Int32) &&& 31)))
  have fo38 := c_i2b ((192 : Int32) ||| (p0 >>> ((6 : Int32) &&& 31)))
  have fo39 := c_i2b ((((192 : Int32) ||| (p0 >>> ((6 : Int32) &&& 31)))).toInt8.toInt32)
  have fe40 : ((((((192 : Int32) ||| (p0 >>> ((6 : Int32) &&& 31)))).toInt8.toInt32)).toInt8.toInt32).toInt = w7.toInt := congrArg Int32.toInt hw7
  have fr41 := rng32 w21
  have fc42 : (63 : Int32).toInt = 63 := rfl
  have fo43 : (p0 &&& (63 : Int32)).toInt = p0.toInt % 64 := c_mask p0 (63 : Int32) 6 (by decide) (by decide)
  have fo44 := c_or (128 : Int32) (p0 &&& (63 : Int32)) 7 (by decide) 128 (by decide) (by omega) (by omega) (by omega)
  have fr45 := rng32 ((128 : Int32) ||| (p0 &&& (63 : Int32)))
  have fo46 := c_i2b ((128 : Int32) ||| (p0 &&& (63 : Int32)))
  have fo47 := c_i2b ((((128 : Int32) ||| (p0 &&& (63 : Int32)))).toInt8.toInt32)
  have fe48 : ((((((128 : Int32) ||| (p0 &&& (63 : Int32)))).toInt8.toInt32)).toInt8.toInt32).toInt = w21.toInt := congrArg Int32.toInt hw21
  have hv49 : ((upd (upd f (n) w7) (n + 1) w21) n).toInt = w7.toInt := congrArg Int32.toInt ((upd_ne (by omega)).trans (upd_same (by omega)))
  have hv50 : ((upd (upd f (n) w7) (n + 1) w21) (n + 1)).toInt = w21.toInt := congrArg Int32.toInt (upd_same (by omega))
  exact g_retI C X25 rfl d1_48 e26 (by decide) (by decide) ⟨_, rfl, ⟨(by omega), (by omega)⟩, (fun k hk => congrArg Int32.toInt ((upd_ne (by omega)).trans (upd_ne (by omega)))), N29, Kp31, B28⟩
theorem d1_49 : decode prog_60_method_2_code 49 = .ok (.iload_n 0, 1) := by decide +kernel
theorem d1_50 : decode prog_60_method_2_code 50 = .ok (.ldc 7, 2) := by decide +kernel
theorem d1_52 : decode prog_60_method_2_code 52 = .ok (.if_icmp .ge 48, 3) := by decide +kernel
theorem d1_55 : decode prog_60_method_2_code 55 = .ok (.aload_n 1, 1) := by decide +kernel
theorem d1_56 : decode prog_60_method_2_code 56 = .ok (.iload_n 2, 1) := by decide +kernel
theorem d1_57 : decode prog_60_method_2_code 57 = .ok (.sipush 224, 3) := by decide +kernel
theorem d1_60 : decode prog_60_method_2_code 60 = .ok (.iload_n 0, 1) := by decide +kernel
theorem d1_61 : decode prog_60_method_2_code 61 = .ok (.bipush 12, 2) := by decide +kernel
theorem d1_63 : decode prog_60_method_2_code 63 = .ok (.ishr, 1) := by decide +kernel
theorem d1_64 : decode prog_60_method_2_code 64 = .ok (.ior, 1) := by decide +kernel
theorem d1_65 : decode prog_60_method_2_code 65 = .ok (.i2b, 1) := by decide +kernel
theorem d1_66 : decode prog_60_method_2_code 66 = .ok (.bastore, 1) := by decide +kernel
theorem d1_67 : decode prog_60_method_2_code 67 = .ok (.aload_n 1, 1) := by decide +kernel
theorem d1_68 : decode prog_60_method_2_code 68 = .ok (.iload_n 2, 1) := by decide +kernel
theorem d1_69 : decode prog_60_method_2_code 69 = .ok (.iconst 1, 1) := by decide +kernel
theorem d1_70 : decode prog_60_method_2_code 70 = .ok (.iadd, 1) := by decide +kernel
theorem d1_71 : decode prog_60_method_2_code 71 = .ok (.sipush 128, 3) := by decide +kernel
theorem d1_74 : decode prog_60_method_2_code 74 = .ok (.iload_n 0, 1) := by decide +kernel
theorem d1_75 : decode prog_60_method_2_code 75 = .ok (.bipush 6, 2) := by decide +kernel
theorem d1_77 : decode prog_60_method_2_code 77 = .ok (.ishr, 1) := by decide +kernel
theorem d1_78 : decode prog_60_method_2_code 78 = .ok (.bipush 63, 2) := by decide +kernel
theorem d1_80 : decode prog_60_method_2_code 80 = .ok (.iand, 1) := by decide +kernel
theorem d1_81 : decode prog_60_method_2_code 81 = .ok (.ior, 1) := by decide +kernel
theorem d1_82 : decode prog_60_method_2_code 82 = .ok (.i2b, 1) := by decide +kernel
theorem d1_83 : decode prog_60_method_2_code 83 = .ok (.bastore, 1) := by decide +kernel
theorem d1_84 : decode prog_60_method_2_code 84 = .ok (.aload_n 1, 1) := by decide +kernel
theorem d1_85 : decode prog_60_method_2_code 85 = .ok (.iload_n 2, 1) := by decide +kernel
theorem d1_86 : decode prog_60_method_2_code 86 = .ok (.iconst 2, 1) := by decide +kernel
theorem d1_87 : decode prog_60_method_2_code 87 = .ok (.iadd, 1) := by decide +kernel
theorem d1_88 : decode prog_60_method_2_code 88 = .ok (.sipush 128, 3) := by decide +kernel
theorem d1_91 : decode prog_60_method_2_code 91 = .ok (.iload_n 0, 1) := by decide +kernel
theorem d1_92 : decode prog_60_method_2_code 92 = .ok (.bipush 63, 2) := by decide +kernel
theorem d1_94 : decode prog_60_method_2_code 94 = .ok (.iand, 1) := by decide +kernel
theorem d1_95 : decode prog_60_method_2_code 95 = .ok (.ior, 1) := by decide +kernel
theorem d1_96 : decode prog_60_method_2_code 96 = .ok (.i2b, 1) := by decide +kernel
theorem d1_97 : decode prog_60_method_2_code 97 = .ok (.bastore, 1) := by decide +kernel
theorem d1_98 : decode prog_60_method_2_code 98 = .ok (.iconst 3, 1) := by decide +kernel
theorem d1_99 : decode prog_60_method_2_code 99 = .ok (.ireturn, 1) := by decide +kernel
theorem ef_1_3 (m : MethodId) (p0 : Int32) (b1 : Addr) (p2 : Int32) : entryFrame m #[(.int p0), (.ref b1), (.int p2)] 3 = mkF m 0 #[.val (.int p0), .val (.ref b1), .val (.int p2)] [] := by first | (simp [entryFrame, mkF, argsToLocals, Value.category]; done) | rfl
def Q1_3 (Z : State) (p0 : Int32) (b1 : Addr) (p2 : Int32) (f : Nat → Int32) (n : Nat) (h0 : Heap) (n0 : Nat) (v : Option Value) (h : Heap) (L : List Loc) : Prop := ∃ f' : Nat → Int32, v = some (.int 3) ∧ ((f' n).toInt = p0.toInt / 4096 - 32 ∧ (f' (n + 1)).toInt = p0.toInt / 64 % 64 - 128 ∧ (f' (n + 2)).toInt = p0.toInt % 64 - 128) ∧ (∀ k, (k < n ∨ n + 3 ≤ k) → (f' k).toInt = (f k).toInt) ∧ Fr n0 L ∧ Keep h0 h [b1] ∧ Ba Z h b1 .byte 8 f'
set_option maxRecDepth 65536 in
set_option maxHeartbeats 40000000 in
theorem rm1_3 (l : Launch) (Z : State) (a0 : Array Value) (hw : ∀ d ∈ tables_1, d.before a0 Z = true) (ws : List Jvm.Cond) (p0 : Int32) (b1 : Addr) (p2 : Int32) (f : Nat → Int32) (n : Nat) (h0 : Heap) (n0 : Nat) (Z0 : n0 ≤ h0.size) (B_b1 : Ba Z h0 b1 .byte 8 f) (hn : p2.toInt = n) (hn8 : n + 3 ≤ 8) (hc : 2048 ≤ p0.toInt ∧ p0.toInt < 65536) (g_b1 : n0 ≤ b1) :
    MetFree l (⟨"com/example/fieldpare/fieldpare/Utf8", "encode", "(I[BI)I"⟩ : MethodName) (head1 (Jvm.Cond.code (⟨"com/example/fieldpare/fieldpare/Utf8", "encode", "(I[BI)I"⟩ : MethodName) prog_60_method_2_code 3 (some .int) :: ws) ({ frames := 0, cells := 0, slots := 0, locals := 0 } : Room)) (fun a U => a = #[(.int p0), (.ref b1), (.int p2)] ∧ Z.Warmed39 U.vm ∧ U.heap = h0) (fun _ _ _ _ _ => True) (fun _ U o U' => ∃ v L, o = .returned v ∧ Q1_3 Z p0 b1 p2 f n h0 n0 v U'.heap L ∧ FrameEnd U o U' L ({ frames := 0, cells := 0, slots := 0, locals := 0 } : Room).cells ({ frames := 0, cells := 0, slots := 0, locals := 0 } : Room).slots) := by
  refine MetFree.of_bodySF (plainFor_of_name pn_25196549) hisR ?_
  intro p e s m args below meth c s₁ Bd hml0 hP hK
  obtain ⟨rfl, hZ, hh⟩ := hP
  have C : Ctx p s m meth c Z "com/example/fieldpare/fieldpare/Utf8" "encode" prog_60_method_2_code 3 (some .int) := Ctx.of Bd hml0 hZ
  have X0 : Stand p l e ({ frames := 0, cells := 0, slots := 0, locals := 0 } : Room) s m #[(.int p0), (.ref b1), (.int p2)] below meth c s₁ [] 0 0 := Stand.of_body Bd
  have e0 : s₁.heap = h0 := by rw [← hh, Bd.state]; rfl
  have N0 := Fr.nil n0
  refine Goes.enter (ef_1_3 m p0 b1 p2) ?_
  clear hK hml0 hh
  refine g_iloadN 1 rfl C X0 d1_0 rfl ?_
  refine g_sipush 4 rfl C X0 (128 : Int32) d1_1 rfl ?_
  have fr1 := rng32 p0
  have fc2 : (128 : Int32).toInt = 128 := rfl
  have hb3 : ¬ (p0.toInt < (128 : Int32).toInt) := by omega
  refine g_icmp_ge_t 14 C X0 d1_4 (by decide) (by decide) hb3 ?_
  refine g_iloadN 15 rfl C X0 d1_14 rfl ?_
  refine g_sipush 18 rfl C X0 (2048 : Int32) d1_15 rfl ?_
  have fc4 : (2048 : Int32).toInt = 2048 := rfl
  have hb5 : ¬ (p0.toInt < (2048 : Int32).toInt) := by omega
  refine g_icmp_ge_t 49 C X0 d1_18 (by decide) (by decide) hb5 ?_
  refine g_iloadN 50 rfl C X0 d1_49 rfl ?_
  refine g_ldc 52 rfl C X0 (hw _ (List.mem_of_getElem? (i := 11) rfl)) d1_50 ?_
  have fc6 : (65536 : Int32).toInt = 65536 := rfl
  have hb7 : p0.toInt < (65536 : Int32).toInt := by omega
  refine g_icmp_ge_f 55 rfl C X0 d1_52 hb7 ?_
  refine g_aloadN 56 rfl C X0 d1_55 rfl rfl ?_
  refine g_iloadN 57 rfl C X0 d1_56 rfl ?_
  refine g_sipush 60 rfl C X0 (224 : Int32) d1_57 rfl ?_
  refine g_iloadN 61 rfl C X0 d1_60 rfl ?_
  refine g_bipush 63 rfl C X0 (12 : Int32) d1_61 rfl ?_
  refine g_ishr 64 rfl C X0 d1_63 ?_
  refine g_ior 65 rfl C X0 d1_64 ?_
  refine g_i2b 66 rfl C X0 d1_65 ?_
  have fr8 := rng32 p2
  obtain ⟨w9, hw9⟩ : ∃ z : Int32, ((((((224 : Int32) ||| (p0 >>> ((12 : Int32) &&& 31)))).toInt8.toInt32)).toInt8.toInt32) = z := ⟨_, rfl⟩
  refine g_bastore 67 rfl C X0 e0 B_b1 (n) (by omega) (by omega) w9 hw9 d1_66 N0 g_b1 fun T10 h11 ls12 X13 e14 W15 B16 N17 => ?_
  have Zs18 := Nat.le_trans Z0 (Nat.le_of_eq W15.size.symm)
  have Kp19 : Keep h0 h11 [b1] := (Keep.refl h0 [b1]).wr W15 (Or.inl (List.mem_of_getElem? (i := 0) rfl))
  refine g_aloadN 68 rfl C X13 d1_67 rfl rfl ?_
  refine g_iloadN 69 rfl C X13 d1_68 rfl ?_
  refine g_iconst 70 rfl C X13 (1 : Int32) d1_69 rfl ?_
  refine g_iadd 71 rfl C X13 d1_70 ?_
  refine g_sipush 74 rfl C X13 (128 : Int32) d1_71 rfl ?_
  refine g_iloadN 75 rfl C X13 d1_74 rfl ?_
  refine g_bipush 77 rfl C X13 (6 : Int32) d1_75 rfl ?_
  refine g_ishr 78 rfl C X13 d1_77 ?_
  refine g_bipush 80 rfl C X13 (63 : Int32) d1_78 rfl ?_
  refine g_iand 81 rfl C X13 d1_80 ?_
  refine g_ior 82 rfl C X13 d1_81 ?_
  refine g_i2b 83 rfl C X13 d1_82 ?_
  have fc20 : (1 : Int32).toInt = 1 := rfl
  have fo21 := c_iadd p2 (1 : Int32)
  have fr22 := rng32 (p2 + (1 : Int32))
  obtain ⟨w23, hw23⟩ : ∃ z : Int32, ((((((128 : Int32) ||| ((p0 >>> ((6 : Int32) &&& 31)) &&& (63 : Int32)))).toInt8.toInt32)).toInt8.toInt32) = z := ⟨_, rfl⟩
  refine g_bastore 84 rfl C X13 e14 B16 (n + 1) (by omega) (by omega) w23 hw23 d1_83 N17 g_b1 fun T24 h25 ls26 X27 e28 W29 B30 N31 => ?_
  have Zs32 := Nat.le_trans Zs18 (Nat.le_of_eq W29.size.symm)
  have Kp33 : Keep h0 h25 [b1] := Kp19.wr W29 (Or.inl (List.mem_of_getElem? (i := 0) rfl))
  refine g_aloadN 85 rfl C X27 d1_84 rfl rfl ?_
  refine g_iloadN 86 rfl C X27 d1_85 rfl ?_
  refine g_iconst 87 rfl C X27 (2 : Int32) d1_86 rfl ?_
  refine g_iadd 88 rfl C X27 d1_87 ?_
  refine g_sipush 91 rfl C X27 (128 : Int32) d1_88 rfl ?_
  refine g_iloadN 92 rfl C X27 d1_91 rfl ?_
  refine g_bipush 94 rfl C X27 (63 : Int32) d1_92 rfl ?_
  refine g_iand 95 rfl C X27 d1_94 ?_
  refine g_ior 96 rfl C X27 d1_95 ?_
  refine g_i2b 97 rfl C X27 d1_96 ?_
  have fc34 : (2 : Int32).toInt = 2 := rfl
  have fo35 := c_iadd p2 (2 : Int32)
  have fr36 := rng32 (p2 + (2 : Int32))
  obtain ⟨w37, hw37⟩ : ∃ z : Int32, ((((((128 : Int32) ||| (p0 &&& (63 : Int32)))).toInt8.toInt32)).toInt8.toInt32) = z := ⟨_, rfl⟩
  refine g_bastore 98 rfl C X27 e28 B30 (n + 2) (by omega) (by omega) w37 hw37 d1_97 N31 g_b1 fun T38 h39 ls40 X41 e42 W43 B44 N45 => ?_
  have Zs46 := Nat.le_trans Zs32 (Nat.le_of_eq W43.size.symm)
  have Kp47 : Keep h0 h39 [b1] := Kp33.wr W43 (Or.inl (List.mem_of_getElem? (i := 0) rfl))
  refine g_iconst 99 rfl C X41 (3 : Int32) d1_98 rfl ?_
  have fr48 := rng32 w9
  have fc49 : (224 : Int32).toInt = 224 := rfl
  have fc50 : (12 : Int32).toInt = 12 := rfl
  have fo51 : ((p0 >>> ((12 : Int32) &&& 31))).toInt = p0.toInt / 4096 := c_ishr p0 (12 : Int32) 12 (by decide)
  have fo52 := c_or (224 : Int32) (p0 >>> ((12 : Int32) &&& 31)) 5 (by decide) 32 (by decide) (by omega) (by omega) (by omega)
  have fr53 := rng32 ((224 : Int32) ||| (p0 >>> ((12 : Int32) &&& 31)))
  have fo54 := c_i2b ((224 : Int32) ||| (p0 >>> ((12 : Int32) &&& 31)))
  have fo55 := c_i2b ((((224 : Int32) ||| (p0 >>> ((12 : Int32) &&& 31)))).toInt8.toInt32)
  have fe56 : ((((((224 : Int32) ||| (p0 >>> ((12 : Int32) &&& 31)))).toInt8.toInt32)).toInt8.toInt32).toInt = w9.toInt := congrArg Int32.toInt hw9
  have fr57 := rng32 w23
  have fc58 : (6 : Int32).toInt = 6 := rfl
  have fo59 : ((p0 >>> ((6 : Int32) &&& 31))).toInt = p0.toInt / 64 := c_ishr p0 (6 : Int32) 6 (by decide)
  have fc60 : (63 : Int32).toInt = 63 := rfl
  have fo61 : ((p0 >>> ((6 : Int32) &&& 31)) &&& (63 : Int32)).toInt = (p0 >>> ((6 : Int32) &&& 31)).toInt % 64 := c_mask (p0 >>> ((6 : Int32) &&& 31)) (63 : Int32) 6 (by decide) (by decide)
  have fo62 := c_or (128 : Int32) ((p0 >>> ((6 : Int32) &&& 31)) &&& (63 : Int32)) 7 (by decide) 128 (by decide) (by omega) (by omega) (by omega)
  have fr63 := rng32 ((128 : Int32) ||| ((p0 >>> ((6 : Int32) &&& 31)) &&& (63 : Int32)))
  have fo64 := c_i2b ((128 : Int32) ||| ((p0 >>> ((6 : Int32) &&& 31)) &&& (63 : Int32)))
  have fo65 := c_i2b ((((128 : Int32) ||| ((p0 >>> ((6 : Int32) &&& 31)) &&& (63 : Int32)))).toInt8.toInt32)
  have fe66 : ((((((128 : Int32) ||| ((p0 >>> ((6 : Int32) &&& 31)) &&& (63 : Int32)))).toInt8.toInt32)).toInt8.toInt32).toInt = w23.toInt := congrArg Int32.toInt hw23
  have fr67 := rng32 w37
  have fo68 : (p0 &&& (63 : Int32)).toInt = p0.toInt % 64 := c_mask p0 (63 : Int32) 6 (by decide) (by decide)
  have fo69 := c_or (128 : Int32) (p0 &&& (63 : Int32)) 7 (by decide) 128 (by decide) (by omega) (by omega) (by omega)
  have fr70 := rng32 ((128 : Int32) ||| (p0 &&& (63 : Int32)))
  have fo71 := c_i2b ((128 : Int32) ||| (p0 &&& (63 : Int32)))
  have fo72 := c_i2b ((((128 : Int32) ||| (p0 &&& (63 : Int32)))).toInt8.toInt32)
  have fe73 : ((((((128 : Int32) ||| (p0 &&& (63 : Int32)))).toInt8.toInt32)).toInt8.toInt32).toInt = w37.toInt := congrArg Int32.toInt hw37
  have hv74 : ((upd (upd (upd f (n) w9) (n + 1) w23) (n + 2) w37) n).toInt = w9.toInt := congrArg Int32.toInt ((upd_ne (by omega)).trans ((upd_ne (by omega)).trans (upd_same (by omega))))
  have hv75 : ((upd (upd (upd f (n) w9) (n + 1) w23) (n + 2) w37) (n + 1)).toInt = w23.toInt := congrArg Int32.toInt ((upd_ne (by omega)).trans (upd_same (by omega)))
  have hv76 : ((upd (upd (upd f (n) w9) (n + 1) w23) (n + 2) w37) (n + 2)).toInt = w37.toInt := congrArg Int32.toInt (upd_same (by omega))
  exact g_retI C X41 rfl d1_99 e42 (by decide) (by decide) ⟨_, rfl, ⟨(by omega), (by omega), (by omega)⟩, (fun k hk => congrArg Int32.toInt ((upd_ne (by omega)).trans ((upd_ne (by omega)).trans (upd_ne (by omega))))), N45, Kp47, B44⟩
theorem d1_100 : decode prog_60_method_2_code 100 = .ok (.aload_n 1, 1) := by decide +kernel
theorem d1_101 : decode prog_60_method_2_code 101 = .ok (.iload_n 2, 1) := by decide +kernel
theorem d1_102 : decode prog_60_method_2_code 102 = .ok (.sipush 240, 3) := by decide +kernel
theorem d1_105 : decode prog_60_method_2_code 105 = .ok (.iload_n 0, 1) := by decide +kernel
theorem d1_106 : decode prog_60_method_2_code 106 = .ok (.bipush 18, 2) := by decide +kernel
theorem d1_108 : decode prog_60_method_2_code 108 = .ok (.ishr, 1) := by decide +kernel
theorem d1_109 : decode prog_60_method_2_code 109 = .ok (.ior, 1) := by decide +kernel
theorem d1_110 : decode prog_60_method_2_code 110 = .ok (.i2b, 1) := by decide +kernel
theorem d1_111 : decode prog_60_method_2_code 111 = .ok (.bastore, 1) := by decide +kernel
theorem d1_112 : decode prog_60_method_2_code 112 = .ok (.aload_n 1, 1) := by decide +kernel
theorem d1_113 : decode prog_60_method_2_code 113 = .ok (.iload_n 2, 1) := by decide +kernel
theorem d1_114 : decode prog_60_method_2_code 114 = .ok (.iconst 1, 1) := by decide +kernel
theorem d1_115 : decode prog_60_method_2_code 115 = .ok (.iadd, 1) := by decide +kernel
theorem d1_116 : decode prog_60_method_2_code 116 = .ok (.sipush 128, 3) := by decide +kernel
theorem d1_119 : decode prog_60_method_2_code 119 = .ok (.iload_n 0, 1) := by decide +kernel
theorem d1_120 : decode prog_60_method_2_code 120 = .ok (.bipush 12, 2) := by decide +kernel
theorem d1_122 : decode prog_60_method_2_code 122 = .ok (.ishr, 1) := by decide +kernel
theorem d1_123 : decode prog_60_method_2_code 123 = .ok (.bipush 63, 2) := by decide +kernel
theorem d1_125 : decode prog_60_method_2_code 125 = .ok (.iand, 1) := by decide +kernel
theorem d1_126 : decode prog_60_method_2_code 126 = .ok (.ior, 1) := by decide +kernel
theorem d1_127 : decode prog_60_method_2_code 127 = .ok (.i2b, 1) := by decide +kernel
theorem d1_128 : decode prog_60_method_2_code 128 = .ok (.bastore, 1) := by decide +kernel
theorem d1_129 : decode prog_60_method_2_code 129 = .ok (.aload_n 1, 1) := by decide +kernel
theorem d1_130 : decode prog_60_method_2_code 130 = .ok (.iload_n 2, 1) := by decide +kernel
theorem d1_131 : decode prog_60_method_2_code 131 = .ok (.iconst 2, 1) := by decide +kernel
theorem d1_132 : decode prog_60_method_2_code 132 = .ok (.iadd, 1) := by decide +kernel
theorem d1_133 : decode prog_60_method_2_code 133 = .ok (.sipush 128, 3) := by decide +kernel
theorem d1_136 : decode prog_60_method_2_code 136 = .ok (.iload_n 0, 1) := by decide +kernel
theorem d1_137 : decode prog_60_method_2_code 137 = .ok (.bipush 6, 2) := by decide +kernel
theorem d1_139 : decode prog_60_method_2_code 139 = .ok (.ishr, 1) := by decide +kernel
theorem d1_140 : decode prog_60_method_2_code 140 = .ok (.bipush 63, 2) := by decide +kernel
theorem d1_142 : decode prog_60_method_2_code 142 = .ok (.iand, 1) := by decide +kernel
theorem d1_143 : decode prog_60_method_2_code 143 = .ok (.ior, 1) := by decide +kernel
theorem d1_144 : decode prog_60_method_2_code 144 = .ok (.i2b, 1) := by decide +kernel
theorem d1_145 : decode prog_60_method_2_code 145 = .ok (.bastore, 1) := by decide +kernel
theorem d1_146 : decode prog_60_method_2_code 146 = .ok (.aload_n 1, 1) := by decide +kernel
theorem d1_147 : decode prog_60_method_2_code 147 = .ok (.iload_n 2, 1) := by decide +kernel
theorem d1_148 : decode prog_60_method_2_code 148 = .ok (.iconst 3, 1) := by decide +kernel
theorem d1_149 : decode prog_60_method_2_code 149 = .ok (.iadd, 1) := by decide +kernel
theorem d1_150 : decode prog_60_method_2_code 150 = .ok (.sipush 128, 3) := by decide +kernel
theorem d1_153 : decode prog_60_method_2_code 153 = .ok (.iload_n 0, 1) := by decide +kernel
theorem d1_154 : decode prog_60_method_2_code 154 = .ok (.bipush 63, 2) := by decide +kernel
theorem d1_156 : decode prog_60_method_2_code 156 = .ok (.iand, 1) := by decide +kernel
theorem d1_157 : decode prog_60_method_2_code 157 = .ok (.ior, 1) := by decide +kernel
theorem d1_158 : decode prog_60_method_2_code 158 = .ok (.i2b, 1) := by decide +kernel
theorem d1_159 : decode prog_60_method_2_code 159 = .ok (.bastore, 1) := by decide +kernel
theorem d1_160 : decode prog_60_method_2_code 160 = .ok (.iconst 4, 1) := by decide +kernel
theorem d1_161 : decode prog_60_method_2_code 161 = .ok (.ireturn, 1) := by decide +kernel
theorem ef_1_4 (m : MethodId) (p0 : Int32) (b1 : Addr) (p2 : Int32) : entryFrame m #[(.int p0), (.ref b1), (.int p2)] 3 = mkF m 0 #[.val (.int p0), .val (.ref b1), .val (.int p2)] [] := by first | (simp [entryFrame, mkF, argsToLocals, Value.category]; done) | rfl
def Q1_4 (Z : State) (p0 : Int32) (b1 : Addr) (p2 : Int32) (f : Nat → Int32) (n : Nat) (h0 : Heap) (n0 : Nat) (v : Option Value) (h : Heap) (L : List Loc) : Prop := ∃ f' : Nat → Int32, v = some (.int 4) ∧ ((f' n).toInt = p0.toInt / 262144 - 16 ∧ (f' (n + 1)).toInt = p0.toInt / 4096 % 64 - 128 ∧ (f' (n + 2)).toInt = p0.toInt / 64 % 64 - 128 ∧ (f' (n + 3)).toInt = p0.toInt % 64 - 128) ∧ (∀ k, (k < n ∨ n + 4 ≤ k) → (f' k).toInt = (f k).toInt) ∧ Fr n0 L ∧ Keep h0 h [b1] ∧ Ba Z h b1 .byte 8 f'
set_option maxRecDepth 65536 in
set_option maxHeartbeats 40000000 in
theorem rm1_4 (l : Launch) (Z : State) (a0 : Array Value) (hw : ∀ d ∈ tables_1, d.before a0 Z = true) (ws : List Jvm.Cond) (p0 : Int32) (b1 : Addr) (p2 : Int32) (f : Nat → Int32) (n : Nat) (h0 : Heap) (n0 : Nat) (Z0 : n0 ≤ h0.size) (B_b1 : Ba Z h0 b1 .byte 8 f) (hn : p2.toInt = n) (hn8 : n + 4 ≤ 8) (hc : 65536 ≤ p0.toInt ∧ p0.toInt < 1114112) (g_b1 : n0 ≤ b1) :
    MetFree l (⟨"com/example/fieldpare/fieldpare/Utf8", "encode", "(I[BI)I"⟩ : MethodName) (head1 (Jvm.Cond.code (⟨"com/example/fieldpare/fieldpare/Utf8", "encode", "(I[BI)I"⟩ : MethodName) prog_60_method_2_code 3 (some .int) :: ws) ({ frames := 0, cells := 0, slots := 0, locals := 0 } : Room)) (fun a U => a = #[(.int p0), (.ref b1), (.int p2)] ∧ Z.Warmed39 U.vm ∧ U.heap = h0) (fun _ _ _ _ _ => True) (fun _ U o U' => ∃ v L, o = .returned v ∧ Q1_4 Z p0 b1 p2 f n h0 n0 v U'.heap L ∧ FrameEnd U o U' L ({ frames := 0, cells := 0, slots := 0, locals := 0 } : Room).cells ({ frames := 0, cells := 0, slots := 0, locals := 0 } : Room).slots) := by
  refine MetFree.of_bodySF (plainFor_of_name pn_25196549) hisR ?_
  intro p e s m args below meth c s₁ Bd hml0 hP hK
  obtain ⟨rfl, hZ, hh⟩ := hP
  have C : Ctx p s m meth c Z "com/example/fieldpare/fieldpare/Utf8" "encode" prog_60_method_2_code 3 (some .int) := Ctx.of Bd hml0 hZ
  have X0 : Stand p l e ({ frames := 0, cells := 0, slots := 0, locals := 0 } : Room) s m #[(.int p0), (.ref b1), (.int p2)] below meth c s₁ [] 0 0 := Stand.of_body Bd
  have e0 : s₁.heap = h0 := by rw [← hh, Bd.state]; rfl
  have N0 := Fr.nil n0
  refine Goes.enter (ef_1_4 m p0 b1 p2) ?_
  clear hK hml0 hh
  refine g_iloadN 1 rfl C X0 d1_0 rfl ?_
  refine g_sipush 4 rfl C X0 (128 : Int32) d1_1 rfl ?_
  have fr1 := rng32 p0
  have fc2 : (128 : Int32).toInt = 128 := rfl
  have hb3 : ¬ (p0.toInt < (128 : Int32).toInt) := by omega
  refine g_icmp_ge_t 14 C X0 d1_4 (by decide) (by decide) hb3 ?_
  refine g_iloadN 15 rfl C X0 d1_14 rfl ?_
  refine g_sipush 18 rfl C X0 (2048 : Int32) d1_15 rfl ?_
  have fc4 : (2048 : Int32).toInt = 2048 := rfl
  have hb5 : ¬ (p0.toInt < (2048 : Int32).toInt) := by omega
  refine g_icmp_ge_t 49 C X0 d1_18 (by decide) (by decide) hb5 ?_
  refine g_iloadN 50 rfl C X0 d1_49 rfl ?_
  refine g_ldc 52 rfl C X0 (hw _ (List.mem_of_getElem? (i := 11) rfl)) d1_50 ?_
  have fc6 : (65536 : Int32).toInt = 65536 := rfl
  have hb7 : ¬ (p0.toInt < (65536 : Int32).toInt) := by omega
  refine g_icmp_ge_t 100 C X0 d1_52 (by decide) (by decide) hb7 ?_
  refine g_aloadN 101 rfl C X0 d1_100 rfl rfl ?_
  refine g_iloadN 102 rfl C X0 d1_101 rfl ?_
  refine g_sipush 105 rfl C X0 (240 : Int32) d1_102 rfl ?_
  refine g_iloadN 106 rfl C X0 d1_105 rfl ?_
  refine g_bipush 108 rfl C X0 (18 : Int32) d1_106 rfl ?_
  refine g_ishr 109 rfl C X0 d1_108 ?_
  refine g_ior 110 rfl C X0 d1_109 ?_
  refine g_i2b 111 rfl C X0 d1_110 ?_
  have fr8 := rng32 p2
  obtain ⟨w9, hw9⟩ : ∃ z : Int32, ((((((240 : Int32) ||| (p0 >>> ((18 : Int32) &&& 31)))).toInt8.toInt32)).toInt8.toInt32) = z := ⟨_, rfl⟩
  refine g_bastore 112 rfl C X0 e0 B_b1 (n) (by omega) (by omega) w9 hw9 d1_111 N0 g_b1 fun T10 h11 ls12 X13 e14 W15 B16 N17 => ?_
  have Zs18 := Nat.le_trans Z0 (Nat.le_of_eq W15.size.symm)
  have Kp19 : Keep h0 h11 [b1] := (Keep.refl h0 [b1]).wr W15 (Or.inl (List.mem_of_getElem? (i := 0) rfl))
  refine g_aloadN 113 rfl C X13 d1_112 rfl rfl ?_
  refine g_iloadN 114 rfl C X13 d1_113 rfl ?_
  refine g_iconst 115 rfl C X13 (1 : Int32) d1_114 rfl ?_
  refine g_iadd 116 rfl C X13 d1_115 ?_
  refine g_sipush 119 rfl C X13 (128 : Int32) d1_116 rfl ?_
  refine g_iloadN 120 rfl C X13 d1_119 rfl ?_
  refine g_bipush 122 rfl C X13 (12 : Int32) d1_120 rfl ?_
  refine g_ishr 123 rfl C X13 d1_122 ?_
  refine g_bipush 125 rfl C X13 (63 : Int32) d1_123 rfl ?_
  refine g_iand 126 rfl C X13 d1_125 ?_
  refine g_ior 127 rfl C X13 d1_126 ?_
  refine g_i2b 128 rfl C X13 d1_127 ?_
  have fc20 : (1 : Int32).toInt = 1 := rfl
  have fo21 := c_iadd p2 (1 : Int32)
  have fr22 := rng32 (p2 + (1 : Int32))
  obtain ⟨w23, hw23⟩ : ∃ z : Int32, ((((((128 : Int32) ||| ((p0 >>> ((12 : Int32) &&& 31)) &&& (63 : Int32)))).toInt8.toInt32)).toInt8.toInt32) = z := ⟨_, rfl⟩
  refine g_bastore 129 rfl C X13 e14 B16 (n + 1) (by omega) (by omega) w23 hw23 d1_128 N17 g_b1 fun T24 h25 ls26 X27 e28 W29 B30 N31 => ?_
  have Zs32 := Nat.le_trans Zs18 (Nat.le_of_eq W29.size.symm)
  have Kp33 : Keep h0 h25 [b1] := Kp19.wr W29 (Or.inl (List.mem_of_getElem? (i := 0) rfl))
  refine g_aloadN 130 rfl C X27 d1_129 rfl rfl ?_
  refine g_iloadN 131 rfl C X27 d1_130 rfl ?_
  refine g_iconst 132 rfl C X27 (2 : Int32) d1_131 rfl ?_
  refine g_iadd 133 rfl C X27 d1_132 ?_
  refine g_sipush 136 rfl C X27 (128 : Int32) d1_133 rfl ?_
  refine g_iloadN 137 rfl C X27 d1_136 rfl ?_
  refine g_bipush 139 rfl C X27 (6 : Int32) d1_137 rfl ?_
  refine g_ishr 140 rfl C X27 d1_139 ?_
  refine g_bipush 142 rfl C X27 (63 : Int32) d1_140 rfl ?_
  refine g_iand 143 rfl C X27 d1_142 ?_
  refine g_ior 144 rfl C X27 d1_143 ?_
  refine g_i2b 145 rfl C X27 d1_144 ?_
  have fc34 : (2 : Int32).toInt = 2 := rfl
  have fo35 := c_iadd p2 (2 : Int32)
  have fr36 := rng32 (p2 + (2 : Int32))
  obtain ⟨w37, hw37⟩ : ∃ z : Int32, ((((((128 : Int32) ||| ((p0 >>> ((6 : Int32) &&& 31)) &&& (63 : Int32)))).toInt8.toInt32)).toInt8.toInt32) = z := ⟨_, rfl⟩
  refine g_bastore 146 rfl C X27 e28 B30 (n + 2) (by omega) (by omega) w37 hw37 d1_145 N31 g_b1 fun T38 h39 ls40 X41 e42 W43 B44 N45 => ?_
  have Zs46 := Nat.le_trans Zs32 (Nat.le_of_eq W43.size.symm)
  have Kp47 : Keep h0 h39 [b1] := Kp33.wr W43 (Or.inl (List.mem_of_getElem? (i := 0) rfl))
  refine g_aloadN 147 rfl C X41 d1_146 rfl rfl ?_
  refine g_iloadN 148 rfl C X41 d1_147 rfl ?_
  refine g_iconst 149 rfl C X41 (3 : Int32) d1_148 rfl ?_
  refine g_iadd 150 rfl C X41 d1_149 ?_
  refine g_sipush 153 rfl C X41 (128 : Int32) d1_150 rfl ?_
  refine g_iloadN 154 rfl C X41 d1_153 rfl ?_
  refine g_bipush 156 rfl C X41 (63 : Int32) d1_154 rfl ?_
  refine g_iand 157 rfl C X41 d1_156 ?_
  refine g_ior 158 rfl C X41 d1_157 ?_
  refine g_i2b 159 rfl C X41 d1_158 ?_
  have fc48 : (3 : Int32).toInt = 3 := rfl
  have fo49 := c_iadd p2 (3 : Int32)
  have fr50 := rng32 (p2 + (3 : Int32))
  obtain ⟨w51, hw51⟩ : ∃ z : Int32, ((((((128 : Int32) ||| (p0 &&& (63 : Int32)))).toInt8.toInt32)).toInt8.toInt32) = z := ⟨_, rfl⟩
  refine g_bastore 160 rfl C X41 e42 B44 (n + 3) (by omega) (by omega) w51 hw51 d1_159 N45 g_b1 fun T52 h53 ls54 X55 e56 W57 B58 N59 => ?_
  have Zs60 := Nat.le_trans Zs46 (Nat.le_of_eq W57.size.symm)
  have Kp61 : Keep h0 h53 [b1] := Kp47.wr W57 (Or.inl (List.mem_of_getElem? (i := 0) rfl))
  refine g_iconst 161 rfl C X55 (4 : Int32) d1_160 rfl ?_
  have fr62 := rng32 w9
  have fc63 : (240 : Int32).toInt = 240 := rfl
  have fc64 : (18 : Int32).toInt = 18 := rfl
  have fo65 : ((p0 >>> ((18 : Int32) &&& 31))).toInt = p0.toInt / 262144 := c_ishr p0 (18 : Int32) 18 (by decide)
  have fo66 := c_or (240 : Int32) (p0 >>> ((18 : Int32) &&& 31)) 4 (by decide) 16 (by decide) (by omega) (by omega) (by omega)
  have fr67 := rng32 ((240 : Int32) ||| (p0 >>> ((18 : Int32) &&& 31)))
  have fo68 := c_i2b ((240 : Int32) ||| (p0 >>> ((18 : Int32) &&& 31)))
  have fo69 := c_i2b ((((240 : Int32) ||| (p0 >>> ((18 : Int32) &&& 31)))).toInt8.toInt32)
  have fe70 : ((((((240 : Int32) ||| (p0 >>> ((18 : Int32) &&& 31)))).toInt8.toInt32)).toInt8.toInt32).toInt = w9.toInt := congrArg Int32.toInt hw9
  have fr71 := rng32 w23
  have fc72 : (12 : Int32).toInt = 12 := rfl
  have fo73 : ((p0 >>> ((12 : Int32) &&& 31))).toInt = p0.toInt / 4096 := c_ishr p0 (12 : Int32) 12 (by decide)
  have fc74 : (63 : Int32).toInt = 63 := rfl
  have fo75 : ((p0 >>> ((12 : Int32) &&& 31)) &&& (63 : Int32)).toInt = (p0 >>> ((12 : Int32) &&& 31)).toInt % 64 := c_mask (p0 >>> ((12 : Int32) &&& 31)) (63 : Int32) 6 (by decide) (by decide)
  have fo76 := c_or (128 : Int32) ((p0 >>> ((12 : Int32) &&& 31)) &&& (63 : Int32)) 7 (by decide) 128 (by decide) (by omega) (by omega) (by omega)
  have fr77 := rng32 ((128 : Int32) ||| ((p0 >>> ((12 : Int32) &&& 31)) &&& (63 : Int32)))
  have fo78 := c_i2b ((128 : Int32) ||| ((p0 >>> ((12 : Int32) &&& 31)) &&& (63 : Int32)))
  have fo79 := c_i2b ((((128 : Int32) ||| ((p0 >>> ((12 : Int32) &&& 31)) &&& (63 : Int32)))).toInt8.toInt32)
  have fe80 : ((((((128 : Int32) ||| ((p0 >>> ((12 : Int32) &&& 31)) &&& (63 : Int32)))).toInt8.toInt32)).toInt8.toInt32).toInt = w23.toInt := congrArg Int32.toInt hw23
  have fr81 := rng32 w37
  have fc82 : (6 : Int32).toInt = 6 := rfl
  have fo83 : ((p0 >>> ((6 : Int32) &&& 31))).toInt = p0.toInt / 64 := c_ishr p0 (6 : Int32) 6 (by decide)
  have fo84 : ((p0 >>> ((6 : Int32) &&& 31)) &&& (63 : Int32)).toInt = (p0 >>> ((6 : Int32) &&& 31)).toInt % 64 := c_mask (p0 >>> ((6 : Int32) &&& 31)) (63 : Int32) 6 (by decide) (by decide)
  have fo85 := c_or (128 : Int32) ((p0 >>> ((6 : Int32) &&& 31)) &&& (63 : Int32)) 7 (by decide) 128 (by decide) (by omega) (by omega) (by omega)
  have fr86 := rng32 ((128 : Int32) ||| ((p0 >>> ((6 : Int32) &&& 31)) &&& (63 : Int32)))
  have fo87 := c_i2b ((128 : Int32) ||| ((p0 >>> ((6 : Int32) &&& 31)) &&& (63 : Int32)))
  have fo88 := c_i2b ((((128 : Int32) ||| ((p0 >>> ((6 : Int32) &&& 31)) &&& (63 : Int32)))).toInt8.toInt32)
  have fe89 : ((((((128 : Int32) ||| ((p0 >>> ((6 : Int32) &&& 31)) &&& (63 : Int32)))).toInt8.toInt32)).toInt8.toInt32).toInt = w37.toInt := congrArg Int32.toInt hw37
  have fr90 := rng32 w51
  have fo91 : (p0 &&& (63 : Int32)).toInt = p0.toInt % 64 := c_mask p0 (63 : Int32) 6 (by decide) (by decide)
  have fo92 := c_or (128 : Int32) (p0 &&& (63 : Int32)) 7 (by decide) 128 (by decide) (by omega) (by omega) (by omega)
  have fr93 := rng32 ((128 : Int32) ||| (p0 &&& (63 : Int32)))
  have fo94 := c_i2b ((128 : Int32) ||| (p0 &&& (63 : Int32)))
  have fo95 := c_i2b ((((128 : Int32) ||| (p0 &&& (63 : Int32)))).toInt8.toInt32)
  have fe96 : ((((((128 : Int32) ||| (p0 &&& (63 : Int32)))).toInt8.toInt32)).toInt8.toInt32).toInt = w51.toInt := congrArg Int32.toInt hw51
  have hv97 : ((upd (upd (upd (upd f (n) w9) (n + 1) w23) (n + 2) w37) (n + 3) w51) n).toInt = w9.toInt := congrArg Int32.toInt ((upd_ne (by omega)).trans ((upd_ne (by omega)).trans ((upd_ne (by omega)).trans (upd_same (by omega)))))
  have hv98 : ((upd (upd (upd (upd f (n) w9) (n + 1) w23) (n + 2) w37) (n + 3) w51) (n + 1)).toInt = w23.toInt := congrArg Int32.toInt ((upd_ne (by omega)).trans ((upd_ne (by omega)).trans (upd_same (by omega))))
  have hv99 : ((upd (upd (upd (upd f (n) w9) (n + 1) w23) (n + 2) w37) (n + 3) w51) (n + 2)).toInt = w37.toInt := congrArg Int32.toInt ((upd_ne (by omega)).trans (upd_same (by omega)))
  have hv100 : ((upd (upd (upd (upd f (n) w9) (n + 1) w23) (n + 2) w37) (n + 3) w51) (n + 3)).toInt = w51.toInt := congrArg Int32.toInt (upd_same (by omega))
  exact g_retI C X55 rfl d1_161 e56 (by decide) (by decide) ⟨_, rfl, ⟨(by omega), (by omega), (by omega), (by omega)⟩, (fun k hk => congrArg Int32.toInt ((upd_ne (by omega)).trans ((upd_ne (by omega)).trans ((upd_ne (by omega)).trans (upd_ne (by omega)))))), N59, Kp61, B58⟩
theorem d2_0 : decode prog_60_method_7_code 0 = .ok (.aload_n 0, 1) := by decide +kernel
theorem d2_1 : decode prog_60_method_7_code 1 = .ok (.iload_n 1, 1) := by decide +kernel
theorem d2_2 : decode prog_60_method_7_code 2 = .ok (.baload, 1) := by decide +kernel
theorem d2_3 : decode prog_60_method_7_code 3 = .ok (.bipush (-19), 2) := by decide +kernel
theorem d2_5 : decode prog_60_method_7_code 5 = .ok (.if_icmp .ne 18, 3) := by decide +kernel
theorem d2_8 : decode prog_60_method_7_code 8 = .ok (.aload_n 0, 1) := by decide +kernel
theorem d2_9 : decode prog_60_method_7_code 9 = .ok (.iload_n 1, 1) := by decide +kernel
theorem d2_10 : decode prog_60_method_7_code 10 = .ok (.iconst 1, 1) := by decide +kernel
theorem d2_11 : decode prog_60_method_7_code 11 = .ok (.iadd, 1) := by decide +kernel
theorem d2_12 : decode prog_60_method_7_code 12 = .ok (.baload, 1) := by decide +kernel
theorem d2_13 : decode prog_60_method_7_code 13 = .ok (.sipush 255, 3) := by decide +kernel
theorem d2_16 : decode prog_60_method_7_code 16 = .ok (.iand, 1) := by decide +kernel
theorem d2_17 : decode prog_60_method_7_code 17 = .ok (.sipush 160, 3) := by decide +kernel
theorem d2_20 : decode prog_60_method_7_code 20 = .ok (.if_icmp .ge 5, 3) := by decide +kernel
theorem d2_23 : decode prog_60_method_7_code 23 = .ok (.iconst (-1), 1) := by decide +kernel
theorem d2_24 : decode prog_60_method_7_code 24 = .ok (.ireturn, 1) := by decide +kernel
theorem d2_25 : decode prog_60_method_7_code 25 = .ok (.ldc 78, 2) := by decide +kernel
theorem d2_27 : decode prog_60_method_7_code 27 = .ok (.aload_n 0, 1) := by decide +kernel
theorem d2_28 : decode prog_60_method_7_code 28 = .ok (.iload_n 1, 1) := by decide +kernel
theorem d2_29 : decode prog_60_method_7_code 29 = .ok (.iconst 1, 1) := by decide +kernel
theorem d2_30 : decode prog_60_method_7_code 30 = .ok (.iadd, 1) := by decide +kernel
theorem d2_31 : decode prog_60_method_7_code 31 = .ok (.baload, 1) := by decide +kernel
theorem d2_32 : decode prog_60_method_7_code 32 = .ok (.bipush 63, 2) := by decide +kernel
theorem d2_34 : decode prog_60_method_7_code 34 = .ok (.iand, 1) := by decide +kernel
theorem d2_35 : decode prog_60_method_7_code 35 = .ok (.bipush 6, 2) := by decide +kernel
theorem d2_37 : decode prog_60_method_7_code 37 = .ok (.ishl, 1) := by decide +kernel
theorem d2_38 : decode prog_60_method_7_code 38 = .ok (.ior, 1) := by decide +kernel
theorem d2_39 : decode prog_60_method_7_code 39 = .ok (.aload_n 0, 1) := by decide +kernel
theorem d2_40 : decode prog_60_method_7_code 40 = .ok (.iload_n 1, 1) := by decide +kernel
theorem d2_41 : decode prog_60_method_7_code 41 = .ok (.iconst 2, 1) := by decide +kernel
theorem d2_42 : decode prog_60_method_7_code 42 = .ok (.iadd, 1) := by decide +kernel
theorem d2_43 : decode prog_60_method_7_code 43 = .ok (.baload, 1) := by decide +kernel
theorem d2_44 : decode prog_60_method_7_code 44 = .ok (.bipush 63, 2) := by decide +kernel
theorem d2_46 : decode prog_60_method_7_code 46 = .ok (.iand, 1) := by decide +kernel
theorem d2_47 : decode prog_60_method_7_code 47 = .ok (.ior, 1) := by decide +kernel
theorem d2_48 : decode prog_60_method_7_code 48 = .ok (.ireturn, 1) := by decide +kernel
theorem ef_2 (m : MethodId) (b0 : Addr) (p1 : Int32) : entryFrame m #[(.ref b0), (.int p1)] 2 = mkF m 0 #[.val (.ref b0), .val (.int p1)] [] := by first | (simp [entryFrame, mkF, argsToLocals, Value.category]; done) | rfl
def Q2 (Z : State) (b0 : Addr) (p1 : Int32) (f : Nat → Int32) (n : Nat) (x0 : Int32) (x1 : Int32) (x2 : Int32) (h0 : Heap) (n0 : Nat) (v : Option Value) (h : Heap) (L : List Loc) : Prop := ∃ r : Int32, v = some (.int r) ∧ (((x0.toInt = -19 ∧ 160 ≤ x1.toInt % 256) ∧ r.toInt = 53248 + x1.toInt % 64 * 64 + x2.toInt % 64) ∨ (¬ (x0.toInt = -19 ∧ 160 ≤ x1.toInt % 256) ∧ r.toInt = -1)) ∧ Fr n0 L ∧ h = h0
set_option maxRecDepth 65536 in
set_option maxHeartbeats 40000000 in
theorem rm2 (l : Launch) (Z : State) (a0 : Array Value) (hw : ∀ d ∈ tables_1, d.before a0 Z = true) (ws : List Jvm.Cond) (b0 : Addr) (p1 : Int32) (f : Nat → Int32) (n : Nat) (x0 : Int32) (x1 : Int32) (x2 : Int32) (h0 : Heap) (n0 : Nat) (Z0 : n0 ≤ h0.size) (B_b0 : Ba Z h0 b0 .byte 8 f) (hn : p1.toInt = n) (hn8 : n + 2 < 8) (hx0 : f n = x0) (hx1 : f (n + 1) = x1) (hx2 : f (n + 2) = x2) :
    MetFree l (⟨"com/example/fieldpare/fieldpare/Utf8", "surrogate", "([BI)I"⟩ : MethodName) (head1 (Jvm.Cond.code (⟨"com/example/fieldpare/fieldpare/Utf8", "surrogate", "([BI)I"⟩ : MethodName) prog_60_method_7_code 2 (some .int) :: ws) ({ frames := 0, cells := 0, slots := 0, locals := 0 } : Room)) (fun a U => a = #[(.ref b0), (.int p1)] ∧ Z.Warmed39 U.vm ∧ U.heap = h0) (fun _ _ _ _ _ => True) (fun _ U o U' => ∃ v L, o = .returned v ∧ Q2 Z b0 p1 f n x0 x1 x2 h0 n0 v U'.heap L ∧ FrameEnd U o U' L ({ frames := 0, cells := 0, slots := 0, locals := 0 } : Room).cells ({ frames := 0, cells := 0, slots := 0, locals := 0 } : Room).slots) := by
  refine MetFree.of_bodySF (plainFor_of_name pn_25196549) hisR ?_
  intro p e s m args below meth c s₁ Bd hml0 hP hK
  obtain ⟨rfl, hZ, hh⟩ := hP
  have C : Ctx p s m meth c Z "com/example/fieldpare/fieldpare/Utf8" "surrogate" prog_60_method_7_code 2 (some .int) := Ctx.of Bd hml0 hZ
  have X0 : Stand p l e ({ frames := 0, cells := 0, slots := 0, locals := 0 } : Room) s m #[(.ref b0), (.int p1)] below meth c s₁ [] 0 0 := Stand.of_body Bd
  have e0 : s₁.heap = h0 := by rw [← hh, Bd.state]; rfl
  have N0 := Fr.nil n0
  refine Goes.enter (ef_2 m b0 p1) ?_
  clear hK hml0 hh
  refine g_aloadN 1 rfl C X0 d2_0 rfl rfl ?_
  refine g_iloadN 2 rfl C X0 d2_1 rfl ?_
  have fr1 := rng32 p1
  refine g_baload 3 rfl C X0 e0 B_b0 (n) (by omega) (by omega) x0 hx0 d2_2 ?_
  refine g_bipush 5 rfl C X0 (-19 : Int32) d2_3 rfl ?_
  by_cases hb2 : x0.toInt = (-19 : Int32).toInt
  · skip
    refine g_icmp_ne_f 8 rfl C X0 d2_5 hb2 ?_
    refine g_aloadN 9 rfl C X0 d2_8 rfl rfl ?_
    refine g_iloadN 10 rfl C X0 d2_9 rfl ?_
    refine g_iconst 11 rfl C X0 (1 : Int32) d2_10 rfl ?_
    refine g_iadd 12 rfl C X0 d2_11 ?_
    have fc3 : (1 : Int32).toInt = 1 := rfl
    have fo4 := c_iadd p1 (1 : Int32)
    have fr5 := rng32 (p1 + (1 : Int32))
    refine g_baload 13 rfl C X0 e0 B_b0 (n + 1) (by omega) (by omega) x1 hx1 d2_12 ?_
    refine g_sipush 16 rfl C X0 (255 : Int32) d2_13 rfl ?_
    refine g_iand 17 rfl C X0 d2_16 ?_
    refine g_sipush 20 rfl C X0 (160 : Int32) d2_17 rfl ?_
    by_cases hb6 : (x1 &&& (255 : Int32)).toInt < (160 : Int32).toInt
    · skip
      refine g_icmp_ge_f 23 rfl C X0 d2_20 hb6 ?_
      refine g_iconst 24 rfl C X0 (-1 : Int32) d2_23 rfl ?_
      have fr7 := rng32 x0
      have fc8 : (-19 : Int32).toInt = -19 := rfl
      have fr9 := rng32 x1
      have fc10 : (255 : Int32).toInt = 255 := rfl
      have fo11 : (x1 &&& (255 : Int32)).toInt = x1.toInt % 256 := c_mask x1 (255 : Int32) 8 (by decide) (by decide)
      have fc12 : (160 : Int32).toInt = 160 := rfl
      have fc13 : (-1 : Int32).toInt = -1 := rfl
      exact g_retI C X0 rfl d2_24 e0 (by decide) (by decide) ⟨_, rfl, by omega, N0, rfl⟩
    · skip
      refine g_icmp_ge_t 25 C X0 d2_20 (by decide) (by decide) hb6 ?_
      refine g_ldc 27 rfl C X0 (hw _ (List.mem_of_getElem? (i := 13) rfl)) d2_25 ?_
      refine g_aloadN 28 rfl C X0 d2_27 rfl rfl ?_
      refine g_iloadN 29 rfl C X0 d2_28 rfl ?_
      refine g_iconst 30 rfl C X0 (1 : Int32) d2_29 rfl ?_
      refine g_iadd 31 rfl C X0 d2_30 ?_
      refine g_baload 32 rfl C X0 e0 B_b0 (n + 1) (by omega) (by omega) x1 hx1 d2_31 ?_
      refine g_bipush 34 rfl C X0 (63 : Int32) d2_32 rfl ?_
      refine g_iand 35 rfl C X0 d2_34 ?_
      refine g_bipush 37 rfl C X0 (6 : Int32) d2_35 rfl ?_
      refine g_ishl 38 rfl C X0 d2_37 ?_
      refine g_ior 39 rfl C X0 d2_38 ?_
      refine g_aloadN 40 rfl C X0 d2_39 rfl rfl ?_
      refine g_iloadN 41 rfl C X0 d2_40 rfl ?_
      refine g_iconst 42 rfl C X0 (2 : Int32) d2_41 rfl ?_
      refine g_iadd 43 rfl C X0 d2_42 ?_
      have fc14 : (2 : Int32).toInt = 2 := rfl
      have fo15 := c_iadd p1 (2 : Int32)
      have fr16 := rng32 (p1 + (2 : Int32))
      refine g_baload 44 rfl C X0 e0 B_b0 (n + 2) (by omega) (by omega) x2 hx2 d2_43 ?_
      refine g_bipush 46 rfl C X0 (63 : Int32) d2_44 rfl ?_
      refine g_iand 47 rfl C X0 d2_46 ?_
      refine g_ior 48 rfl C X0 d2_47 ?_
      have fr17 := rng32 x0
      have fc18 : (-19 : Int32).toInt = -19 := rfl
      have fr19 := rng32 x1
      have fc20 : (255 : Int32).toInt = 255 := rfl
      have fo21 : (x1 &&& (255 : Int32)).toInt = x1.toInt % 256 := c_mask x1 (255 : Int32) 8 (by decide) (by decide)
      have fc22 : (160 : Int32).toInt = 160 := rfl
      have fc23 : (53248 : Int32).toInt = 53248 := rfl
      have fc24 : (63 : Int32).toInt = 63 := rfl
      have fo25 : (x1 &&& (63 : Int32)).toInt = x1.toInt % 64 := c_mask x1 (63 : Int32) 6 (by decide) (by decide)
      have fc26 : (6 : Int32).toInt = 6 := rfl
      have fo27 : ((((x1 &&& (63 : Int32)) <<< ((6 : Int32) &&& 31))).toInt - (x1 &&& (63 : Int32)).toInt * 64) % 4294967296 = 0 := c_ishl (x1 &&& (63 : Int32)) (6 : Int32) 6 (by decide)
      have fr28 := rng32 ((x1 &&& (63 : Int32)) <<< ((6 : Int32) &&& 31))
      have fo29 := c_or (53248 : Int32) ((x1 &&& (63 : Int32)) <<< ((6 : Int32) &&& 31)) 12 (by decide) 4096 (by decide) (by omega) (by omega) (by omega)
      have fr30 := rng32 ((53248 : Int32) ||| ((x1 &&& (63 : Int32)) <<< ((6 : Int32) &&& 31)))
      have fr31 := rng32 x2
      have fo32 : (x2 &&& (63 : Int32)).toInt = x2.toInt % 64 := c_mask x2 (63 : Int32) 6 (by decide) (by decide)
      have fo33 := c_or ((53248 : Int32) ||| ((x1 &&& (63 : Int32)) <<< ((6 : Int32) &&& 31))) (x2 &&& (63 : Int32)) 6 (by decide) 64 (by decide) (by omega) (by omega) (by omega)
      have fr34 := rng32 (((53248 : Int32) ||| ((x1 &&& (63 : Int32)) <<< ((6 : Int32) &&& 31))) ||| (x2 &&& (63 : Int32)))
      exact g_retI C X0 rfl d2_48 e0 (by decide) (by decide) ⟨_, rfl, by omega, N0, rfl⟩
  · skip
    refine g_icmp_ne_t 23 C X0 d2_5 (by decide) (by decide) hb2 ?_
    refine g_iconst 24 rfl C X0 (-1 : Int32) d2_23 rfl ?_
    have fr35 := rng32 x0
    have fc36 : (-19 : Int32).toInt = -19 := rfl
    have fc37 : (-1 : Int32).toInt = -1 := rfl
    exact g_retI C X0 rfl d2_24 e0 (by decide) (by decide) ⟨_, rfl, by omega, N0, rfl⟩
theorem pd_30946454 : parseMethodDescriptor "(I[BI)I" = some ⟨[.int, (.array .byte), .int], some .int⟩ := by decide +kernel
theorem pd_20721021 : parseMethodDescriptor "([BI)I" = some ⟨[(.array .byte), .int], some .int⟩ := by decide +kernel
theorem pn_16331800 : plainName "com/example/fieldpare/fieldpare/Utf8SurrogatePinLaw" = true := by first | (simp [plainName, overriddenIn]; done) | decide +kernel
theorem ef_0 (m : MethodId) (p0 : Int32) (p1 : Int32) (p2 : Int32) (p3 : Int64) : entryFrame m #[(.int p0), (.int p1), (.int p2), (.long p3)] maxLocals = mkF m 0 #[.val (.int p0), .val (.int p1), .val (.int p2), .val (.long p3), .second, .unset, .unset, .unset, .unset, .unset] [] := by first | (simp [entryFrame, mkF, argsToLocals, Value.category, maxLocals]; done) | rfl
def Q0 (Z : State) (p0 : Int32) (p1 : Int32) (p2 : Int32) (p3 : Int64) (h0 : Heap) (n0 : Nat) (v : Option Value) (h : Heap) (L : List Loc) : Prop := v = some (.int 1) ∧ Fr n0 L
set_option maxRecDepth 65536 in
set_option maxHeartbeats 40000000 in
theorem rm0 (l : Launch) (Z : State) (a0 : Array Value) (hw : ∀ d ∈ tables_1, d.before a0 Z = true) (ws : List Jvm.Cond) (p0 : Int32) (p1 : Int32) (p2 : Int32) (p3 : Int64) (h0 : Heap) (n0 : Nat) (Z0 : n0 ≤ h0.size) :
    MetFree l x (head1 (Jvm.Cond.code x code maxLocals ret :: ws) room_1) (fun a U => a = #[(.int p0), (.int p1), (.int p2), (.long p3)] ∧ Z.Warmed39 U.vm ∧ U.heap = h0) (fun _ _ _ _ _ => True) (fun _ U o U' => ∃ v L, o = .returned v ∧ Q0 Z p0 p1 p2 p3 h0 n0 v U'.heap L ∧ FrameEnd U o U' L 16 128) := by
  refine MetFree.of_bodySF (plainFor_of_name pn_16331800) hisR ?_
  intro p e s m args below meth c s₁ Bd hml0 hP hK
  obtain ⟨rfl, hZ, hh⟩ := hP
  have C : Ctx p s m meth c Z "com/example/fieldpare/fieldpare/Utf8SurrogatePinLaw" "law" code maxLocals ret := Ctx.of Bd hml0 hZ
  have X0 : Stand p l e room_1 s m #[(.int p0), (.int p1), (.int p2), (.long p3)] below meth c s₁ [] 0 0 := Stand.of_body Bd
  have e0 : s₁.heap = h0 := by rw [← hh, Bd.state]; rfl
  have N0 := Fr.nil n0
  refine Goes.enter (ef_0 m p0 p1 p2 p3) ?_
  clear hK hml0 hh
  refine g_iloadN 1 rfl C X0 at_0 rfl ?_
  refine g_iconst 2 rfl C X0 (3 : Int32) at_1 rfl ?_
  refine g_iand 3 rfl C X0 at_2 ?_
  obtain ⟨v1, hv1⟩ : ∃ z : Int32, (p1 &&& (3 : Int32)) = z := ⟨_, rfl⟩
  refine g_istore 5 rfl C X0 v1 hv1 #[.val (.int p0), .val (.int p1), .val (.int p2), .val (.long p3), .second, .val (.int v1), .unset, .unset, .unset, .unset] at_3 rfl ?_
  refine g_iload 7 rfl C X0 at_5 rfl ?_
  by_cases hb2 : v1.toInt = 0
  · skip
    refine g_if_ne_f 10 rfl C X0 at_7 hb2 ?_
    refine g_ldc 12 rfl C X0 (hw _ (List.mem_of_getElem? (i := 14) rfl)) at_10 ?_
    refine g_iloadN 13 rfl C X0 at_12 rfl ?_
    refine g_sipush 16 rfl C X0 (4095 : Int32) at_13 rfl ?_
    refine g_iand 17 rfl C X0 at_16 ?_
    refine g_iadd 18 rfl C X0 at_17 ?_
    obtain ⟨v3, hv3⟩ : ∃ z : Int32, ((53248 : Int32) + (p0 &&& (4095 : Int32))) = z := ⟨_, rfl⟩
    refine g_istore 20 rfl C X0 v3 hv3 #[.val (.int p0), .val (.int p1), .val (.int p2), .val (.long p3), .second, .val (.int v1), .val (.int v3), .unset, .unset, .unset] at_18 rfl ?_
    refine g_goto 51 C X0 at_20 (by decide) (by decide) ?_
    refine g_iloadN 52 rfl C X0 at_51 rfl ?_
    refine g_iconst 53 rfl C X0 (3 : Int32) at_52 rfl ?_
    refine g_iand 54 rfl C X0 at_53 ?_
    obtain ⟨v4, hv4⟩ : ∃ z : Int32, (p2 &&& (3 : Int32)) = z := ⟨_, rfl⟩
    refine g_istore 56 rfl C X0 v4 hv4 #[.val (.int p0), .val (.int p1), .val (.int p2), .val (.long p3), .second, .val (.int v1), .val (.int v3), .val (.int v4), .unset, .unset] at_54 rfl ?_
    refine g_bipush 58 rfl C X0 (8 : Int32) at_56 rfl ?_
    refine g_newP 60 rfl C X0 8 (by decide) 8 (by decide) (by decide) rfl (hw _ (List.mem_of_getElem? (i := 2) rfl)) e0 at_58 (by decide) (by decide) fun T5 h6 o7 g8 X9 e10 E11 B12 => ?_
    have gn13 : n0 ≤ o7 := by rw [g8]; exact Z0
    have Zs14 := Nat.le_trans Z0 E11.1
    refine g_astore 62 rfl C X9 #[.val (.int p0), .val (.int p1), .val (.int p2), .val (.long p3), .second, .val (.int v1), .val (.int v3), .val (.int v4), .val (.ref o7), .unset] at_60 rfl rfl ?_
    refine g_aload 64 rfl C X9 at_62 rfl rfl ?_
    refine g_iconst 65 rfl C X9 (0 : Int32) at_64 rfl ?_
    refine g_lloadN 66 rfl C X9 at_65 rfl ?_
    refine g_l2i 67 rfl C X9 at_66 ?_
    refine g_i2b 68 rfl C X9 at_67 ?_
    obtain ⟨w15, hw15⟩ : ∃ z : Int32, ((((((p3).toInt32)).toInt8.toInt32)).toInt8.toInt32) = z := ⟨_, rfl⟩
    refine g_bastore 69 rfl C X9 e10 B12 0 (by decide) (by decide) w15 hw15 at_68 N0 gn13 fun T16 h17 ls18 X19 e20 W21 B22 N23 => ?_
    have Zs24 := Nat.le_trans Zs14 (Nat.le_of_eq W21.size.symm)
    refine g_aload 71 rfl C X19 at_69 rfl rfl ?_
    refine g_iconst 72 rfl C X19 (1 : Int32) at_71 rfl ?_
    refine g_lloadN 73 rfl C X19 at_72 rfl ?_
    refine g_bipush 75 rfl C X19 (8 : Int32) at_73 rfl ?_
    refine g_lushr 76 rfl C X19 at_75 ?_
    refine g_l2i 77 rfl C X19 at_76 ?_
    refine g_i2b 78 rfl C X19 at_77 ?_
    obtain ⟨w25, hw25⟩ : ∃ z : Int32, (((((((((p3).toUInt64 >>> ((8 : Int32) &&& 0x3f).toInt64.toUInt64).toInt64)).toInt32)).toInt8.toInt32)).toInt8.toInt32) = z := ⟨_, rfl⟩
    refine g_bastore 79 rfl C X19 e20 B22 1 (by decide) (by decide) w25 hw25 at_78 N23 gn13 fun T26 h27 ls28 X29 e30 W31 B32 N33 => ?_
    have Zs34 := Nat.le_trans Zs24 (Nat.le_of_eq W31.size.symm)
    refine g_aload 81 rfl C X29 at_79 rfl rfl ?_
    refine g_iconst 82 rfl C X29 (2 : Int32) at_81 rfl ?_
    refine g_lloadN 83 rfl C X29 at_82 rfl ?_
    refine g_bipush 85 rfl C X29 (16 : Int32) at_83 rfl ?_
    refine g_lushr 86 rfl C X29 at_85 ?_
    refine g_l2i 87 rfl C X29 at_86 ?_
    refine g_i2b 88 rfl C X29 at_87 ?_
    obtain ⟨w35, hw35⟩ : ∃ z : Int32, (((((((((p3).toUInt64 >>> ((16 : Int32) &&& 0x3f).toInt64.toUInt64).toInt64)).toInt32)).toInt8.toInt32)).toInt8.toInt32) = z := ⟨_, rfl⟩
    refine g_bastore 89 rfl C X29 e30 B32 2 (by decide) (by decide) w35 hw35 at_88 N33 gn13 fun T36 h37 ls38 X39 e40 W41 B42 N43 => ?_
    have Zs44 := Nat.le_trans Zs34 (Nat.le_of_eq W41.size.symm)
    refine g_aload 91 rfl C X39 at_89 rfl rfl ?_
    refine g_iconst 92 rfl C X39 (3 : Int32) at_91 rfl ?_
    refine g_lloadN 93 rfl C X39 at_92 rfl ?_
    refine g_bipush 95 rfl C X39 (24 : Int32) at_93 rfl ?_
    refine g_lushr 96 rfl C X39 at_95 ?_
    refine g_l2i 97 rfl C X39 at_96 ?_
    refine g_i2b 98 rfl C X39 at_97 ?_
    obtain ⟨w45, hw45⟩ : ∃ z : Int32, (((((((((p3).toUInt64 >>> ((24 : Int32) &&& 0x3f).toInt64.toUInt64).toInt64)).toInt32)).toInt8.toInt32)).toInt8.toInt32) = z := ⟨_, rfl⟩
    refine g_bastore 99 rfl C X39 e40 B42 3 (by decide) (by decide) w45 hw45 at_98 N43 gn13 fun T46 h47 ls48 X49 e50 W51 B52 N53 => ?_
    have Zs54 := Nat.le_trans Zs44 (Nat.le_of_eq W51.size.symm)
    refine g_aload 101 rfl C X49 at_99 rfl rfl ?_
    refine g_iconst 102 rfl C X49 (4 : Int32) at_101 rfl ?_
    refine g_lloadN 103 rfl C X49 at_102 rfl ?_
    refine g_bipush 105 rfl C X49 (32 : Int32) at_103 rfl ?_
    refine g_lushr 106 rfl C X49 at_105 ?_
    refine g_l2i 107 rfl C X49 at_106 ?_
    refine g_i2b 108 rfl C X49 at_107 ?_
    obtain ⟨w55, hw55⟩ : ∃ z : Int32, (((((((((p3).toUInt64 >>> ((32 : Int32) &&& 0x3f).toInt64.toUInt64).toInt64)).toInt32)).toInt8.toInt32)).toInt8.toInt32) = z := ⟨_, rfl⟩
    refine g_bastore 109 rfl C X49 e50 B52 4 (by decide) (by decide) w55 hw55 at_108 N53 gn13 fun T56 h57 ls58 X59 e60 W61 B62 N63 => ?_
    have Zs64 := Nat.le_trans Zs54 (Nat.le_of_eq W61.size.symm)
    refine g_aload 111 rfl C X59 at_109 rfl rfl ?_
    refine g_iconst 112 rfl C X59 (5 : Int32) at_111 rfl ?_
    refine g_lloadN 113 rfl C X59 at_112 rfl ?_
    refine g_bipush 115 rfl C X59 (40 : Int32) at_113 rfl ?_
    refine g_lushr 116 rfl C X59 at_115 ?_
    refine g_l2i 117 rfl C X59 at_116 ?_
    refine g_i2b 118 rfl C X59 at_117 ?_
    obtain ⟨w65, hw65⟩ : ∃ z : Int32, (((((((((p3).toUInt64 >>> ((40 : Int32) &&& 0x3f).toInt64.toUInt64).toInt64)).toInt32)).toInt8.toInt32)).toInt8.toInt32) = z := ⟨_, rfl⟩
    refine g_bastore 119 rfl C X59 e60 B62 5 (by decide) (by decide) w65 hw65 at_118 N63 gn13 fun T66 h67 ls68 X69 e70 W71 B72 N73 => ?_
    have Zs74 := Nat.le_trans Zs64 (Nat.le_of_eq W71.size.symm)
    refine g_aload 121 rfl C X69 at_119 rfl rfl ?_
    refine g_bipush 123 rfl C X69 (6 : Int32) at_121 rfl ?_
    refine g_lloadN 124 rfl C X69 at_123 rfl ?_
    refine g_bipush 126 rfl C X69 (48 : Int32) at_124 rfl ?_
    refine g_lushr 127 rfl C X69 at_126 ?_
    refine g_l2i 128 rfl C X69 at_127 ?_
    refine g_i2b 129 rfl C X69 at_128 ?_
    obtain ⟨w75, hw75⟩ : ∃ z : Int32, (((((((((p3).toUInt64 >>> ((48 : Int32) &&& 0x3f).toInt64.toUInt64).toInt64)).toInt32)).toInt8.toInt32)).toInt8.toInt32) = z := ⟨_, rfl⟩
    refine g_bastore 130 rfl C X69 e70 B72 6 (by decide) (by decide) w75 hw75 at_129 N73 gn13 fun T76 h77 ls78 X79 e80 W81 B82 N83 => ?_
    have Zs84 := Nat.le_trans Zs74 (Nat.le_of_eq W81.size.symm)
    refine g_aload 132 rfl C X79 at_130 rfl rfl ?_
    refine g_bipush 134 rfl C X79 (7 : Int32) at_132 rfl ?_
    refine g_lloadN 135 rfl C X79 at_134 rfl ?_
    refine g_bipush 137 rfl C X79 (56 : Int32) at_135 rfl ?_
    refine g_lushr 138 rfl C X79 at_137 ?_
    refine g_l2i 139 rfl C X79 at_138 ?_
    refine g_i2b 140 rfl C X79 at_139 ?_
    obtain ⟨w85, hw85⟩ : ∃ z : Int32, (((((((((p3).toUInt64 >>> ((56 : Int32) &&& 0x3f).toInt64.toUInt64).toInt64)).toInt32)).toInt8.toInt32)).toInt8.toInt32) = z := ⟨_, rfl⟩
    refine g_bastore 141 rfl C X79 e80 B82 7 (by decide) (by decide) w85 hw85 at_140 N83 gn13 fun T86 h87 ls88 X89 e90 W91 B92 N93 => ?_
    have Zs94 := Nat.le_trans Zs84 (Nat.le_of_eq W91.size.symm)
    obtain ⟨f95, B96⟩ : ∃ f, Ba Z h87 o7 .byte 8 f := ⟨_, B92⟩
    refine g_iload 143 rfl C X89 at_141 rfl ?_
    refine g_aload 145 rfl C X89 at_143 rfl rfl ?_
    refine g_iload 147 rfl C X89 at_145 rfl ?_
    have fr97 := rng32 v1
    have fr98 := rng32 p1
    have fc99 : (3 : Int32).toInt = 3 := rfl
    have fo100 : (p1 &&& (3 : Int32)).toInt = p1.toInt % 4 := c_mask p1 (3 : Int32) 2 (by decide) (by decide)
    have fe101 : (p1 &&& (3 : Int32)).toInt = v1.toInt := congrArg Int32.toInt hv1
    have fr102 := rng32 v3
    have fc103 : (53248 : Int32).toInt = 53248 := rfl
    have fr104 := rng32 p0
    have fc105 : (4095 : Int32).toInt = 4095 := rfl
    have fo106 : (p0 &&& (4095 : Int32)).toInt = p0.toInt % 4096 := c_mask p0 (4095 : Int32) 12 (by decide) (by decide)
    have fo107 := c_iadd (53248 : Int32) (p0 &&& (4095 : Int32))
    have fr108 := rng32 ((53248 : Int32) + (p0 &&& (4095 : Int32)))
    have fe109 : ((53248 : Int32) + (p0 &&& (4095 : Int32))).toInt = v3.toInt := congrArg Int32.toInt hv3
    have fr110 := rng32 v4
    have fr111 := rng32 p2
    have fo112 : (p2 &&& (3 : Int32)).toInt = p2.toInt % 4 := c_mask p2 (3 : Int32) 2 (by decide) (by decide)
    have fe113 : (p2 &&& (3 : Int32)).toInt = v4.toInt := congrArg Int32.toInt hv4
    obtain ⟨n114, hn114⟩ : ∃ n : Nat, v4.toInt = n := ⟨v4.toInt.toNat, by omega⟩
    have hcs : 2048 ≤ v3.toInt ∧ v3.toInt < 65536 := by omega
    refine g_callS 150 rfl C X89 (argsL := [(.int v3), (.ref o7), (.int v4)]) (hw _ (List.mem_of_getElem? (i := 3) rfl)) (hw _ (List.mem_of_getElem? (i := 4) rfl)) (hw _ (List.mem_of_getElem? (i := 6) rfl)) (hw _ (List.mem_of_getElem? (i := 5) rfl)) e90 (rm1_3 l Z a0 hw [] v3 o7 v4 f95 n114 h87 n0 Zs94 B96 hn114 (by omega) (by omega) gn13) (lenOf pd_30946454 rfl) (by decide) (by decide) (by decide) (by decide) rfl (W := 0) (Nat.le_of_eq rfl) (by decide) at_147 rfl fun r115 T116 Lc117 X118 hQ119 => ?_
    obtain ⟨f120, rfl, hs121, hk122, Nq123, Kc124, B125⟩ := hQ119
    have Zs126 := Nat.le_trans Zs94 Kc124.1
    have N127 := Fr.app N93 Nq123
    show Goes _ _ _ _ _ _ 150 _ [(.int (3 : Int32))]
    refine g_pop 151 rfl C X118 at_150 rfl ?_
    refine g_iload 153 rfl C X118 at_151 rfl ?_
    refine g_ldc 155 rfl C X118 (hw _ (List.mem_of_getElem? (i := 7) rfl)) at_153 ?_
    by_cases hb128 : v3.toInt < (55296 : Int32).toInt
    · skip
      refine g_icmp_lt_t 170 C X118 at_155 (by decide) (by decide) hb128 ?_
      refine g_iconst 171 rfl C X118 (-1 : Int32) at_170 rfl ?_
      refine g_istore 173 rfl C X118 (-1 : Int32) rfl #[.val (.int p0), .val (.int p1), .val (.int p2), .val (.long p3), .second, .val (.int v1), .val (.int v3), .val (.int v4), .val (.ref o7), .val (.int (-1 : Int32))] at_171 rfl ?_
      refine g_aload 175 rfl C X118 at_173 rfl rfl ?_
      refine g_iload 177 rfl C X118 at_175 rfl ?_
      refine g_callS 180 rfl C X118 (argsL := [(.ref o7), (.int v4)]) (hw _ (List.mem_of_getElem? (i := 8) rfl)) (hw _ (List.mem_of_getElem? (i := 9) rfl)) (hw _ (List.mem_of_getElem? (i := 10) rfl)) (hw _ (List.mem_of_getElem? (i := 5) rfl)) rfl (rm2 l Z a0 hw [] o7 v4 f120 n114 (f120 n114) (f120 (n114 + 1)) (f120 (n114 + 2)) (T116.heap) n0 Zs126 B125 hn114 (by omega) rfl rfl rfl) (lenOf pd_20721021 rfl) (by decide) (by decide) (by decide) (by decide) rfl (W := 0) (Nat.le_of_eq rfl) (by decide) at_177 rfl fun r129 T130 Lc131 X132 hQ133 => ?_
      obtain ⟨r134, rfl, hs135, Nq136, eh137⟩ := hQ133
      have N138 := Fr.app N127 Nq136
      show Goes _ _ _ _ _ _ 180 _ [(.int r134)]
      refine g_iload 182 rfl C X132 at_180 rfl ?_
      have fc139 : (55296 : Int32).toInt = 55296 := rfl
      have fr140 := rng32 (f120 n114)
      have fr141 := rng32 (f120 (n114 + 1))
      have fr142 := rng32 (f120 (n114 + 2))
      have fr143 := rng32 r134
      have fc144 : (-1 : Int32).toInt = -1 := rfl
      have hb145 : r134.toInt = (-1 : Int32).toInt := by omega
      refine g_icmp_ne_f 185 rfl C X132 at_182 hb145 ?_
      refine g_iconst 186 rfl C X132 (1 : Int32) at_185 rfl ?_
      refine g_goto 190 C X132 at_186 (by decide) (by decide) ?_
      exact g_retN C X132 (z' := (1 : Int32)) rfl (Or.inl rfl) at_190 eh137 (by decide) (by decide) rfl ⟨rfl, N138⟩
    · skip
      refine g_icmp_lt_f 158 rfl C X118 at_155 hb128 ?_
      refine g_iload 160 rfl C X118 at_158 rfl ?_
      refine g_ldc 162 rfl C X118 (hw _ (List.mem_of_getElem? (i := 12) rfl)) at_160 ?_
      by_cases hb146 : (57343 : Int32).toInt < v3.toInt
      · skip
        refine g_icmp_gt_t 170 C X118 at_162 (by decide) (by decide) hb146 ?_
        refine g_iconst 171 rfl C X118 (-1 : Int32) at_170 rfl ?_
        refine g_istore 173 rfl C X118 (-1 : Int32) rfl #[.val (.int p0), .val (.int p1), .val (.int p2), .val (.long p3), .second, .val (.int v1), .val (.int v3), .val (.int v4), .val (.ref o7), .val (.int (-1 : Int32))] at_171 rfl ?_
        refine g_aload 175 rfl C X118 at_173 rfl rfl ?_
        refine g_iload 177 rfl C X118 at_175 rfl ?_
        refine g_callS 180 rfl C X118 (argsL := [(.ref o7), (.int v4)]) (hw _ (List.mem_of_getElem? (i := 8) rfl)) (hw _ (List.mem_of_getElem? (i := 9) rfl)) (hw _ (List.mem_of_getElem? (i := 10) rfl)) (hw _ (List.mem_of_getElem? (i := 5) rfl)) rfl (rm2 l Z a0 hw [] o7 v4 f120 n114 (f120 n114) (f120 (n114 + 1)) (f120 (n114 + 2)) (T116.heap) n0 Zs126 B125 hn114 (by omega) rfl rfl rfl) (lenOf pd_20721021 rfl) (by decide) (by decide) (by decide) (by decide) rfl (W := 0) (Nat.le_of_eq rfl) (by decide) at_177 rfl fun r147 T148 Lc149 X150 hQ151 => ?_
        obtain ⟨r152, rfl, hs153, Nq154, eh155⟩ := hQ151
        have N156 := Fr.app N127 Nq154
        show Goes _ _ _ _ _ _ 180 _ [(.int r152)]
        refine g_iload 182 rfl C X150 at_180 rfl ?_
        have fc157 : (55296 : Int32).toInt = 55296 := rfl
        have fc158 : (57343 : Int32).toInt = 57343 := rfl
        have fr159 := rng32 (f120 n114)
        have fr160 := rng32 (f120 (n114 + 1))
        have fr161 := rng32 (f120 (n114 + 2))
        have fr162 := rng32 r152
        have fc163 : (-1 : Int32).toInt = -1 := rfl
        have hb164 : r152.toInt = (-1 : Int32).toInt := by omega
        refine g_icmp_ne_f 185 rfl C X150 at_182 hb164 ?_
        refine g_iconst 186 rfl C X150 (1 : Int32) at_185 rfl ?_
        refine g_goto 190 C X150 at_186 (by decide) (by decide) ?_
        exact g_retN C X150 (z' := (1 : Int32)) rfl (Or.inl rfl) at_190 eh155 (by decide) (by decide) rfl ⟨rfl, N156⟩
      · skip
        refine g_icmp_gt_f 165 rfl C X118 at_162 hb146 ?_
        refine g_iload 167 rfl C X118 at_165 rfl ?_
        refine g_goto 171 C X118 at_167 (by decide) (by decide) ?_
        refine g_istore 173 rfl C X118 v3 rfl #[.val (.int p0), .val (.int p1), .val (.int p2), .val (.long p3), .second, .val (.int v1), .val (.int v3), .val (.int v4), .val (.ref o7), .val (.int v3)] at_171 rfl ?_
        refine g_aload 175 rfl C X118 at_173 rfl rfl ?_
        refine g_iload 177 rfl C X118 at_175 rfl ?_
        refine g_callS 180 rfl C X118 (argsL := [(.ref o7), (.int v4)]) (hw _ (List.mem_of_getElem? (i := 8) rfl)) (hw _ (List.mem_of_getElem? (i := 9) rfl)) (hw _ (List.mem_of_getElem? (i := 10) rfl)) (hw _ (List.mem_of_getElem? (i := 5) rfl)) rfl (rm2 l Z a0 hw [] o7 v4 f120 n114 (f120 n114) (f120 (n114 + 1)) (f120 (n114 + 2)) (T116.heap) n0 Zs126 B125 hn114 (by omega) rfl rfl rfl) (lenOf pd_20721021 rfl) (by decide) (by decide) (by decide) (by decide) rfl (W := 0) (Nat.le_of_eq rfl) (by decide) at_177 rfl fun r165 T166 Lc167 X168 hQ169 => ?_
        obtain ⟨r170, rfl, hs171, Nq172, eh173⟩ := hQ169
        have N174 := Fr.app N127 Nq172
        show Goes _ _ _ _ _ _ 180 _ [(.int r170)]
        refine g_iload 182 rfl C X168 at_180 rfl ?_
        have fc175 : (55296 : Int32).toInt = 55296 := rfl
        have fc176 : (57343 : Int32).toInt = 57343 := rfl
        have fr177 := rng32 (f120 n114)
        have fr178 := rng32 (f120 (n114 + 1))
        have fr179 := rng32 (f120 (n114 + 2))
        have fr180 := rng32 r170
        have hb181 : r170.toInt = v3.toInt := by omega
        refine g_icmp_ne_f 185 rfl C X168 at_182 hb181 ?_
        refine g_iconst 186 rfl C X168 (1 : Int32) at_185 rfl ?_
        refine g_goto 190 C X168 at_186 (by decide) (by decide) ?_
        exact g_retN C X168 (z' := (1 : Int32)) rfl (Or.inl rfl) at_190 eh173 (by decide) (by decide) rfl ⟨rfl, N174⟩
  · skip
    refine g_if_ne_t 23 C X0 at_7 (by decide) (by decide) hb2 ?_
    refine g_iload 25 rfl C X0 at_23 rfl ?_
    refine g_iconst 26 rfl C X0 (1 : Int32) at_25 rfl ?_
    by_cases hb182 : v1.toInt = (1 : Int32).toInt
    · skip
      refine g_icmp_ne_f 29 rfl C X0 at_26 hb182 ?_
      refine g_ldc 31 rfl C X0 (hw _ (List.mem_of_getElem? (i := 7) rfl)) at_29 ?_
      refine g_iloadN 32 rfl C X0 at_31 rfl ?_
      refine g_sipush 35 rfl C X0 (2047 : Int32) at_32 rfl ?_
      refine g_iand 36 rfl C X0 at_35 ?_
      refine g_ior 37 rfl C X0 at_36 ?_
      obtain ⟨v183, hv183⟩ : ∃ z : Int32, ((55296 : Int32) ||| (p0 &&& (2047 : Int32))) = z := ⟨_, rfl⟩
      refine g_istore 39 rfl C X0 v183 hv183 #[.val (.int p0), .val (.int p1), .val (.int p2), .val (.long p3), .second, .val (.int v1), .val (.int v183), .unset, .unset, .unset] at_37 rfl ?_
      refine g_goto 51 C X0 at_39 (by decide) (by decide) ?_
      refine g_iloadN 52 rfl C X0 at_51 rfl ?_
      refine g_iconst 53 rfl C X0 (3 : Int32) at_52 rfl ?_
      refine g_iand 54 rfl C X0 at_53 ?_
      obtain ⟨v184, hv184⟩ : ∃ z : Int32, (p2 &&& (3 : Int32)) = z := ⟨_, rfl⟩
      refine g_istore 56 rfl C X0 v184 hv184 #[.val (.int p0), .val (.int p1), .val (.int p2), .val (.long p3), .second, .val (.int v1), .val (.int v183), .val (.int v184), .unset, .unset] at_54 rfl ?_
      refine g_bipush 58 rfl C X0 (8 : Int32) at_56 rfl ?_
      refine g_newP 60 rfl C X0 8 (by decide) 8 (by decide) (by decide) rfl (hw _ (List.mem_of_getElem? (i := 2) rfl)) e0 at_58 (by decide) (by decide) fun T185 h186 o187 g188 X189 e190 E191 B192 => ?_
      have gn193 : n0 ≤ o187 := by rw [g188]; exact Z0
      have Zs194 := Nat.le_trans Z0 E191.1
      refine g_astore 62 rfl C X189 #[.val (.int p0), .val (.int p1), .val (.int p2), .val (.long p3), .second, .val (.int v1), .val (.int v183), .val (.int v184), .val (.ref o187), .unset] at_60 rfl rfl ?_
      refine g_aload 64 rfl C X189 at_62 rfl rfl ?_
      refine g_iconst 65 rfl C X189 (0 : Int32) at_64 rfl ?_
      refine g_lloadN 66 rfl C X189 at_65 rfl ?_
      refine g_l2i 67 rfl C X189 at_66 ?_
      refine g_i2b 68 rfl C X189 at_67 ?_
      obtain ⟨w195, hw195⟩ : ∃ z : Int32, ((((((p3).toInt32)).toInt8.toInt32)).toInt8.toInt32) = z := ⟨_, rfl⟩
      refine g_bastore 69 rfl C X189 e190 B192 0 (by decide) (by decide) w195 hw195 at_68 N0 gn193 fun T196 h197 ls198 X199 e200 W201 B202 N203 => ?_
      have Zs204 := Nat.le_trans Zs194 (Nat.le_of_eq W201.size.symm)
      refine g_aload 71 rfl C X199 at_69 rfl rfl ?_
      refine g_iconst 72 rfl C X199 (1 : Int32) at_71 rfl ?_
      refine g_lloadN 73 rfl C X199 at_72 rfl ?_
      refine g_bipush 75 rfl C X199 (8 : Int32) at_73 rfl ?_
      refine g_lushr 76 rfl C X199 at_75 ?_
      refine g_l2i 77 rfl C X199 at_76 ?_
      refine g_i2b 78 rfl C X199 at_77 ?_
      obtain ⟨w205, hw205⟩ : ∃ z : Int32, (((((((((p3).toUInt64 >>> ((8 : Int32) &&& 0x3f).toInt64.toUInt64).toInt64)).toInt32)).toInt8.toInt32)).toInt8.toInt32) = z := ⟨_, rfl⟩
      refine g_bastore 79 rfl C X199 e200 B202 1 (by decide) (by decide) w205 hw205 at_78 N203 gn193 fun T206 h207 ls208 X209 e210 W211 B212 N213 => ?_
      have Zs214 := Nat.le_trans Zs204 (Nat.le_of_eq W211.size.symm)
      refine g_aload 81 rfl C X209 at_79 rfl rfl ?_
      refine g_iconst 82 rfl C X209 (2 : Int32) at_81 rfl ?_
      refine g_lloadN 83 rfl C X209 at_82 rfl ?_
      refine g_bipush 85 rfl C X209 (16 : Int32) at_83 rfl ?_
      refine g_lushr 86 rfl C X209 at_85 ?_
      refine g_l2i 87 rfl C X209 at_86 ?_
      refine g_i2b 88 rfl C X209 at_87 ?_
      obtain ⟨w215, hw215⟩ : ∃ z : Int32, (((((((((p3).toUInt64 >>> ((16 : Int32) &&& 0x3f).toInt64.toUInt64).toInt64)).toInt32)).toInt8.toInt32)).toInt8.toInt32) = z := ⟨_, rfl⟩
      refine g_bastore 89 rfl C X209 e210 B212 2 (by decide) (by decide) w215 hw215 at_88 N213 gn193 fun T216 h217 ls218 X219 e220 W221 B222 N223 => ?_
      have Zs224 := Nat.le_trans Zs214 (Nat.le_of_eq W221.size.symm)
      refine g_aload 91 rfl C X219 at_89 rfl rfl ?_
      refine g_iconst 92 rfl C X219 (3 : Int32) at_91 rfl ?_
      refine g_lloadN 93 rfl C X219 at_92 rfl ?_
      refine g_bipush 95 rfl C X219 (24 : Int32) at_93 rfl ?_
      refine g_lushr 96 rfl C X219 at_95 ?_
      refine g_l2i 97 rfl C X219 at_96 ?_
      refine g_i2b 98 rfl C X219 at_97 ?_
      obtain ⟨w225, hw225⟩ : ∃ z : Int32, (((((((((p3).toUInt64 >>> ((24 : Int32) &&& 0x3f).toInt64.toUInt64).toInt64)).toInt32)).toInt8.toInt32)).toInt8.toInt32) = z := ⟨_, rfl⟩
      refine g_bastore 99 rfl C X219 e220 B222 3 (by decide) (by decide) w225 hw225 at_98 N223 gn193 fun T226 h227 ls228 X229 e230 W231 B232 N233 => ?_
      have Zs234 := Nat.le_trans Zs224 (Nat.le_of_eq W231.size.symm)
      refine g_aload 101 rfl C X229 at_99 rfl rfl ?_
      refine g_iconst 102 rfl C X229 (4 : Int32) at_101 rfl ?_
      refine g_lloadN 103 rfl C X229 at_102 rfl ?_
      refine g_bipush 105 rfl C X229 (32 : Int32) at_103 rfl ?_
      refine g_lushr 106 rfl C X229 at_105 ?_
      refine g_l2i 107 rfl C X229 at_106 ?_
      refine g_i2b 108 rfl C X229 at_107 ?_
      obtain ⟨w235, hw235⟩ : ∃ z : Int32, (((((((((p3).toUInt64 >>> ((32 : Int32) &&& 0x3f).toInt64.toUInt64).toInt64)).toInt32)).toInt8.toInt32)).toInt8.toInt32) = z := ⟨_, rfl⟩
      refine g_bastore 109 rfl C X229 e230 B232 4 (by decide) (by decide) w235 hw235 at_108 N233 gn193 fun T236 h237 ls238 X239 e240 W241 B242 N243 => ?_
      have Zs244 := Nat.le_trans Zs234 (Nat.le_of_eq W241.size.symm)
      refine g_aload 111 rfl C X239 at_109 rfl rfl ?_
      refine g_iconst 112 rfl C X239 (5 : Int32) at_111 rfl ?_
      refine g_lloadN 113 rfl C X239 at_112 rfl ?_
      refine g_bipush 115 rfl C X239 (40 : Int32) at_113 rfl ?_
      refine g_lushr 116 rfl C X239 at_115 ?_
      refine g_l2i 117 rfl C X239 at_116 ?_
      refine g_i2b 118 rfl C X239 at_117 ?_
      obtain ⟨w245, hw245⟩ : ∃ z : Int32, (((((((((p3).toUInt64 >>> ((40 : Int32) &&& 0x3f).toInt64.toUInt64).toInt64)).toInt32)).toInt8.toInt32)).toInt8.toInt32) = z := ⟨_, rfl⟩
      refine g_bastore 119 rfl C X239 e240 B242 5 (by decide) (by decide) w245 hw245 at_118 N243 gn193 fun T246 h247 ls248 X249 e250 W251 B252 N253 => ?_
      have Zs254 := Nat.le_trans Zs244 (Nat.le_of_eq W251.size.symm)
      refine g_aload 121 rfl C X249 at_119 rfl rfl ?_
      refine g_bipush 123 rfl C X249 (6 : Int32) at_121 rfl ?_
      refine g_lloadN 124 rfl C X249 at_123 rfl ?_
      refine g_bipush 126 rfl C X249 (48 : Int32) at_124 rfl ?_
      refine g_lushr 127 rfl C X249 at_126 ?_
      refine g_l2i 128 rfl C X249 at_127 ?_
      refine g_i2b 129 rfl C X249 at_128 ?_
      obtain ⟨w255, hw255⟩ : ∃ z : Int32, (((((((((p3).toUInt64 >>> ((48 : Int32) &&& 0x3f).toInt64.toUInt64).toInt64)).toInt32)).toInt8.toInt32)).toInt8.toInt32) = z := ⟨_, rfl⟩
      refine g_bastore 130 rfl C X249 e250 B252 6 (by decide) (by decide) w255 hw255 at_129 N253 gn193 fun T256 h257 ls258 X259 e260 W261 B262 N263 => ?_
      have Zs264 := Nat.le_trans Zs254 (Nat.le_of_eq W261.size.symm)
      refine g_aload 132 rfl C X259 at_130 rfl rfl ?_
      refine g_bipush 134 rfl C X259 (7 : Int32) at_132 rfl ?_
      refine g_lloadN 135 rfl C X259 at_134 rfl ?_
      refine g_bipush 137 rfl C X259 (56 : Int32) at_135 rfl ?_
      refine g_lushr 138 rfl C X259 at_137 ?_
      refine g_l2i 139 rfl C X259 at_138 ?_
      refine g_i2b 140 rfl C X259 at_139 ?_
      obtain ⟨w265, hw265⟩ : ∃ z : Int32, (((((((((p3).toUInt64 >>> ((56 : Int32) &&& 0x3f).toInt64.toUInt64).toInt64)).toInt32)).toInt8.toInt32)).toInt8.toInt32) = z := ⟨_, rfl⟩
      refine g_bastore 141 rfl C X259 e260 B262 7 (by decide) (by decide) w265 hw265 at_140 N263 gn193 fun T266 h267 ls268 X269 e270 W271 B272 N273 => ?_
      have Zs274 := Nat.le_trans Zs264 (Nat.le_of_eq W271.size.symm)
      obtain ⟨f275, B276⟩ : ∃ f, Ba Z h267 o187 .byte 8 f := ⟨_, B272⟩
      refine g_iload 143 rfl C X269 at_141 rfl ?_
      refine g_aload 145 rfl C X269 at_143 rfl rfl ?_
      refine g_iload 147 rfl C X269 at_145 rfl ?_
      have fr277 := rng32 v1
      have fr278 := rng32 p1
      have fc279 : (3 : Int32).toInt = 3 := rfl
      have fo280 : (p1 &&& (3 : Int32)).toInt = p1.toInt % 4 := c_mask p1 (3 : Int32) 2 (by decide) (by decide)
      have fe281 : (p1 &&& (3 : Int32)).toInt = v1.toInt := congrArg Int32.toInt hv1
      have fc282 : (1 : Int32).toInt = 1 := rfl
      have fr283 := rng32 v183
      have fc284 : (55296 : Int32).toInt = 55296 := rfl
      have fr285 := rng32 p0
      have fc286 : (2047 : Int32).toInt = 2047 := rfl
      have fo287 : (p0 &&& (2047 : Int32)).toInt = p0.toInt % 2048 := c_mask p0 (2047 : Int32) 11 (by decide) (by decide)
      have fo288 := c_or (55296 : Int32) (p0 &&& (2047 : Int32)) 11 (by decide) 2048 (by decide) (by omega) (by omega) (by omega)
      have fr289 := rng32 ((55296 : Int32) ||| (p0 &&& (2047 : Int32)))
      have fe290 : ((55296 : Int32) ||| (p0 &&& (2047 : Int32))).toInt = v183.toInt := congrArg Int32.toInt hv183
      have fr291 := rng32 v184
      have fr292 := rng32 p2
      have fo293 : (p2 &&& (3 : Int32)).toInt = p2.toInt % 4 := c_mask p2 (3 : Int32) 2 (by decide) (by decide)
      have fe294 : (p2 &&& (3 : Int32)).toInt = v184.toInt := congrArg Int32.toInt hv184
      obtain ⟨n295, hn295⟩ : ∃ n : Nat, v184.toInt = n := ⟨v184.toInt.toNat, by omega⟩
      have hcs : 2048 ≤ v183.toInt ∧ v183.toInt < 65536 := by omega
      refine g_callS 150 rfl C X269 (argsL := [(.int v183), (.ref o187), (.int v184)]) (hw _ (List.mem_of_getElem? (i := 3) rfl)) (hw _ (List.mem_of_getElem? (i := 4) rfl)) (hw _ (List.mem_of_getElem? (i := 6) rfl)) (hw _ (List.mem_of_getElem? (i := 5) rfl)) e270 (rm1_3 l Z a0 hw [] v183 o187 v184 f275 n295 h267 n0 Zs274 B276 hn295 (by omega) (by omega) gn193) (lenOf pd_30946454 rfl) (by decide) (by decide) (by decide) (by decide) rfl (W := 0) (Nat.le_of_eq rfl) (by decide) at_147 rfl fun r296 T297 Lc298 X299 hQ300 => ?_
      obtain ⟨f301, rfl, hs302, hk303, Nq304, Kc305, B306⟩ := hQ300
      have Zs307 := Nat.le_trans Zs274 Kc305.1
      have N308 := Fr.app N273 Nq304
      show Goes _ _ _ _ _ _ 150 _ [(.int (3 : Int32))]
      refine g_pop 151 rfl C X299 at_150 rfl ?_
      refine g_iload 153 rfl C X299 at_151 rfl ?_
      refine g_ldc 155 rfl C X299 (hw _ (List.mem_of_getElem? (i := 7) rfl)) at_153 ?_
      by_cases hb309 : v183.toInt < (55296 : Int32).toInt
      · skip
        refine g_icmp_lt_t 170 C X299 at_155 (by decide) (by decide) hb309 ?_
        refine g_iconst 171 rfl C X299 (-1 : Int32) at_170 rfl ?_
        refine g_istore 173 rfl C X299 (-1 : Int32) rfl #[.val (.int p0), .val (.int p1), .val (.int p2), .val (.long p3), .second, .val (.int v1), .val (.int v183), .val (.int v184), .val (.ref o187), .val (.int (-1 : Int32))] at_171 rfl ?_
        refine g_aload 175 rfl C X299 at_173 rfl rfl ?_
        refine g_iload 177 rfl C X299 at_175 rfl ?_
        refine g_callS 180 rfl C X299 (argsL := [(.ref o187), (.int v184)]) (hw _ (List.mem_of_getElem? (i := 8) rfl)) (hw _ (List.mem_of_getElem? (i := 9) rfl)) (hw _ (List.mem_of_getElem? (i := 10) rfl)) (hw _ (List.mem_of_getElem? (i := 5) rfl)) rfl (rm2 l Z a0 hw [] o187 v184 f301 n295 (f301 n295) (f301 (n295 + 1)) (f301 (n295 + 2)) (T297.heap) n0 Zs307 B306 hn295 (by omega) rfl rfl rfl) (lenOf pd_20721021 rfl) (by decide) (by decide) (by decide) (by decide) rfl (W := 0) (Nat.le_of_eq rfl) (by decide) at_177 rfl fun r310 T311 Lc312 X313 hQ314 => ?_
        obtain ⟨r315, rfl, hs316, Nq317, eh318⟩ := hQ314
        have N319 := Fr.app N308 Nq317
        show Goes _ _ _ _ _ _ 180 _ [(.int r315)]
        refine g_iload 182 rfl C X313 at_180 rfl ?_
        have fr320 := rng32 (f301 n295)
        have fr321 := rng32 (f301 (n295 + 1))
        have fr322 := rng32 (f301 (n295 + 2))
        have fr323 := rng32 r315
        have fc324 : (-1 : Int32).toInt = -1 := rfl
        have hb325 : r315.toInt = (-1 : Int32).toInt := by omega
        refine g_icmp_ne_f 185 rfl C X313 at_182 hb325 ?_
        refine g_iconst 186 rfl C X313 (1 : Int32) at_185 rfl ?_
        refine g_goto 190 C X313 at_186 (by decide) (by decide) ?_
        exact g_retN C X313 (z' := (1 : Int32)) rfl (Or.inl rfl) at_190 eh318 (by decide) (by decide) rfl ⟨rfl, N319⟩
      · skip
        refine g_icmp_lt_f 158 rfl C X299 at_155 hb309 ?_
        refine g_iload 160 rfl C X299 at_158 rfl ?_
        refine g_ldc 162 rfl C X299 (hw _ (List.mem_of_getElem? (i := 12) rfl)) at_160 ?_
        by_cases hb326 : (57343 : Int32).toInt < v183.toInt
        · skip
          refine g_icmp_gt_t 170 C X299 at_162 (by decide) (by decide) hb326 ?_
          refine g_iconst 171 rfl C X299 (-1 : Int32) at_170 rfl ?_
          refine g_istore 173 rfl C X299 (-1 : Int32) rfl #[.val (.int p0), .val (.int p1), .val (.int p2), .val (.long p3), .second, .val (.int v1), .val (.int v183), .val (.int v184), .val (.ref o187), .val (.int (-1 : Int32))] at_171 rfl ?_
          refine g_aload 175 rfl C X299 at_173 rfl rfl ?_
          refine g_iload 177 rfl C X299 at_175 rfl ?_
          refine g_callS 180 rfl C X299 (argsL := [(.ref o187), (.int v184)]) (hw _ (List.mem_of_getElem? (i := 8) rfl)) (hw _ (List.mem_of_getElem? (i := 9) rfl)) (hw _ (List.mem_of_getElem? (i := 10) rfl)) (hw _ (List.mem_of_getElem? (i := 5) rfl)) rfl (rm2 l Z a0 hw [] o187 v184 f301 n295 (f301 n295) (f301 (n295 + 1)) (f301 (n295 + 2)) (T297.heap) n0 Zs307 B306 hn295 (by omega) rfl rfl rfl) (lenOf pd_20721021 rfl) (by decide) (by decide) (by decide) (by decide) rfl (W := 0) (Nat.le_of_eq rfl) (by decide) at_177 rfl fun r327 T328 Lc329 X330 hQ331 => ?_
          obtain ⟨r332, rfl, hs333, Nq334, eh335⟩ := hQ331
          have N336 := Fr.app N308 Nq334
          show Goes _ _ _ _ _ _ 180 _ [(.int r332)]
          refine g_iload 182 rfl C X330 at_180 rfl ?_
          have fc337 : (57343 : Int32).toInt = 57343 := rfl
          have fr338 := rng32 (f301 n295)
          have fr339 := rng32 (f301 (n295 + 1))
          have fr340 := rng32 (f301 (n295 + 2))
          have fr341 := rng32 r332
          have fc342 : (-1 : Int32).toInt = -1 := rfl
          have hb343 : r332.toInt = (-1 : Int32).toInt := by omega
          refine g_icmp_ne_f 185 rfl C X330 at_182 hb343 ?_
          refine g_iconst 186 rfl C X330 (1 : Int32) at_185 rfl ?_
          refine g_goto 190 C X330 at_186 (by decide) (by decide) ?_
          exact g_retN C X330 (z' := (1 : Int32)) rfl (Or.inl rfl) at_190 eh335 (by decide) (by decide) rfl ⟨rfl, N336⟩
        · skip
          refine g_icmp_gt_f 165 rfl C X299 at_162 hb326 ?_
          refine g_iload 167 rfl C X299 at_165 rfl ?_
          refine g_goto 171 C X299 at_167 (by decide) (by decide) ?_
          refine g_istore 173 rfl C X299 v183 rfl #[.val (.int p0), .val (.int p1), .val (.int p2), .val (.long p3), .second, .val (.int v1), .val (.int v183), .val (.int v184), .val (.ref o187), .val (.int v183)] at_171 rfl ?_
          refine g_aload 175 rfl C X299 at_173 rfl rfl ?_
          refine g_iload 177 rfl C X299 at_175 rfl ?_
          refine g_callS 180 rfl C X299 (argsL := [(.ref o187), (.int v184)]) (hw _ (List.mem_of_getElem? (i := 8) rfl)) (hw _ (List.mem_of_getElem? (i := 9) rfl)) (hw _ (List.mem_of_getElem? (i := 10) rfl)) (hw _ (List.mem_of_getElem? (i := 5) rfl)) rfl (rm2 l Z a0 hw [] o187 v184 f301 n295 (f301 n295) (f301 (n295 + 1)) (f301 (n295 + 2)) (T297.heap) n0 Zs307 B306 hn295 (by omega) rfl rfl rfl) (lenOf pd_20721021 rfl) (by decide) (by decide) (by decide) (by decide) rfl (W := 0) (Nat.le_of_eq rfl) (by decide) at_177 rfl fun r344 T345 Lc346 X347 hQ348 => ?_
          obtain ⟨r349, rfl, hs350, Nq351, eh352⟩ := hQ348
          have N353 := Fr.app N308 Nq351
          show Goes _ _ _ _ _ _ 180 _ [(.int r349)]
          refine g_iload 182 rfl C X347 at_180 rfl ?_
          have fc354 : (57343 : Int32).toInt = 57343 := rfl
          have fr355 := rng32 (f301 n295)
          have fr356 := rng32 (f301 (n295 + 1))
          have fr357 := rng32 (f301 (n295 + 2))
          have fr358 := rng32 r349
          have hb359 : r349.toInt = v183.toInt := by omega
          refine g_icmp_ne_f 185 rfl C X347 at_182 hb359 ?_
          refine g_iconst 186 rfl C X347 (1 : Int32) at_185 rfl ?_
          refine g_goto 190 C X347 at_186 (by decide) (by decide) ?_
          exact g_retN C X347 (z' := (1 : Int32)) rfl (Or.inl rfl) at_190 eh352 (by decide) (by decide) rfl ⟨rfl, N353⟩
    · skip
      refine g_icmp_ne_t 42 C X0 at_26 (by decide) (by decide) hb182 ?_
      refine g_iloadN 43 rfl C X0 at_42 rfl ?_
      refine g_ldc 45 rfl C X0 (hw _ (List.mem_of_getElem? (i := 0) rfl)) at_43 ?_
      refine g_iand 46 rfl C X0 at_45 ?_
      refine g_ldc 48 rfl C X0 (hw _ (List.mem_of_getElem? (i := 1) rfl)) at_46 ?_
      refine g_irem 49 rfl C X0 at_48 (by decide) ?_
      obtain ⟨v360, hv360⟩ : ∃ z : Int32, ((p0 &&& (2147483647 : Int32)) % (1114112 : Int32)) = z := ⟨_, rfl⟩
      refine g_istore 51 rfl C X0 v360 hv360 #[.val (.int p0), .val (.int p1), .val (.int p2), .val (.long p3), .second, .val (.int v1), .val (.int v360), .unset, .unset, .unset] at_49 rfl ?_
      refine g_iloadN 52 rfl C X0 at_51 rfl ?_
      refine g_iconst 53 rfl C X0 (3 : Int32) at_52 rfl ?_
      refine g_iand 54 rfl C X0 at_53 ?_
      obtain ⟨v361, hv361⟩ : ∃ z : Int32, (p2 &&& (3 : Int32)) = z := ⟨_, rfl⟩
      refine g_istore 56 rfl C X0 v361 hv361 #[.val (.int p0), .val (.int p1), .val (.int p2), .val (.long p3), .second, .val (.int v1), .val (.int v360), .val (.int v361), .unset, .unset] at_54 rfl ?_
      refine g_bipush 58 rfl C X0 (8 : Int32) at_56 rfl ?_
      refine g_newP 60 rfl C X0 8 (by decide) 8 (by decide) (by decide) rfl (hw _ (List.mem_of_getElem? (i := 2) rfl)) e0 at_58 (by decide) (by decide) fun T362 h363 o364 g365 X366 e367 E368 B369 => ?_
      have gn370 : n0 ≤ o364 := by rw [g365]; exact Z0
      have Zs371 := Nat.le_trans Z0 E368.1
      refine g_astore 62 rfl C X366 #[.val (.int p0), .val (.int p1), .val (.int p2), .val (.long p3), .second, .val (.int v1), .val (.int v360), .val (.int v361), .val (.ref o364), .unset] at_60 rfl rfl ?_
      refine g_aload 64 rfl C X366 at_62 rfl rfl ?_
      refine g_iconst 65 rfl C X366 (0 : Int32) at_64 rfl ?_
      refine g_lloadN 66 rfl C X366 at_65 rfl ?_
      refine g_l2i 67 rfl C X366 at_66 ?_
      refine g_i2b 68 rfl C X366 at_67 ?_
      obtain ⟨w372, hw372⟩ : ∃ z : Int32, ((((((p3).toInt32)).toInt8.toInt32)).toInt8.toInt32) = z := ⟨_, rfl⟩
      refine g_bastore 69 rfl C X366 e367 B369 0 (by decide) (by decide) w372 hw372 at_68 N0 gn370 fun T373 h374 ls375 X376 e377 W378 B379 N380 => ?_
      have Zs381 := Nat.le_trans Zs371 (Nat.le_of_eq W378.size.symm)
      refine g_aload 71 rfl C X376 at_69 rfl rfl ?_
      refine g_iconst 72 rfl C X376 (1 : Int32) at_71 rfl ?_
      refine g_lloadN 73 rfl C X376 at_72 rfl ?_
      refine g_bipush 75 rfl C X376 (8 : Int32) at_73 rfl ?_
      refine g_lushr 76 rfl C X376 at_75 ?_
      refine g_l2i 77 rfl C X376 at_76 ?_
      refine g_i2b 78 rfl C X376 at_77 ?_
      obtain ⟨w382, hw382⟩ : ∃ z : Int32, (((((((((p3).toUInt64 >>> ((8 : Int32) &&& 0x3f).toInt64.toUInt64).toInt64)).toInt32)).toInt8.toInt32)).toInt8.toInt32) = z := ⟨_, rfl⟩
      refine g_bastore 79 rfl C X376 e377 B379 1 (by decide) (by decide) w382 hw382 at_78 N380 gn370 fun T383 h384 ls385 X386 e387 W388 B389 N390 => ?_
      have Zs391 := Nat.le_trans Zs381 (Nat.le_of_eq W388.size.symm)
      refine g_aload 81 rfl C X386 at_79 rfl rfl ?_
      refine g_iconst 82 rfl C X386 (2 : Int32) at_81 rfl ?_
      refine g_lloadN 83 rfl C X386 at_82 rfl ?_
      refine g_bipush 85 rfl C X386 (16 : Int32) at_83 rfl ?_
      refine g_lushr 86 rfl C X386 at_85 ?_
      refine g_l2i 87 rfl C X386 at_86 ?_
      refine g_i2b 88 rfl C X386 at_87 ?_
      obtain ⟨w392, hw392⟩ : ∃ z : Int32, (((((((((p3).toUInt64 >>> ((16 : Int32) &&& 0x3f).toInt64.toUInt64).toInt64)).toInt32)).toInt8.toInt32)).toInt8.toInt32) = z := ⟨_, rfl⟩
      refine g_bastore 89 rfl C X386 e387 B389 2 (by decide) (by decide) w392 hw392 at_88 N390 gn370 fun T393 h394 ls395 X396 e397 W398 B399 N400 => ?_
      have Zs401 := Nat.le_trans Zs391 (Nat.le_of_eq W398.size.symm)
      refine g_aload 91 rfl C X396 at_89 rfl rfl ?_
      refine g_iconst 92 rfl C X396 (3 : Int32) at_91 rfl ?_
      refine g_lloadN 93 rfl C X396 at_92 rfl ?_
      refine g_bipush 95 rfl C X396 (24 : Int32) at_93 rfl ?_
      refine g_lushr 96 rfl C X396 at_95 ?_
      refine g_l2i 97 rfl C X396 at_96 ?_
      refine g_i2b 98 rfl C X396 at_97 ?_
      obtain ⟨w402, hw402⟩ : ∃ z : Int32, (((((((((p3).toUInt64 >>> ((24 : Int32) &&& 0x3f).toInt64.toUInt64).toInt64)).toInt32)).toInt8.toInt32)).toInt8.toInt32) = z := ⟨_, rfl⟩
      refine g_bastore 99 rfl C X396 e397 B399 3 (by decide) (by decide) w402 hw402 at_98 N400 gn370 fun T403 h404 ls405 X406 e407 W408 B409 N410 => ?_
      have Zs411 := Nat.le_trans Zs401 (Nat.le_of_eq W408.size.symm)
      refine g_aload 101 rfl C X406 at_99 rfl rfl ?_
      refine g_iconst 102 rfl C X406 (4 : Int32) at_101 rfl ?_
      refine g_lloadN 103 rfl C X406 at_102 rfl ?_
      refine g_bipush 105 rfl C X406 (32 : Int32) at_103 rfl ?_
      refine g_lushr 106 rfl C X406 at_105 ?_
      refine g_l2i 107 rfl C X406 at_106 ?_
      refine g_i2b 108 rfl C X406 at_107 ?_
      obtain ⟨w412, hw412⟩ : ∃ z : Int32, (((((((((p3).toUInt64 >>> ((32 : Int32) &&& 0x3f).toInt64.toUInt64).toInt64)).toInt32)).toInt8.toInt32)).toInt8.toInt32) = z := ⟨_, rfl⟩
      refine g_bastore 109 rfl C X406 e407 B409 4 (by decide) (by decide) w412 hw412 at_108 N410 gn370 fun T413 h414 ls415 X416 e417 W418 B419 N420 => ?_
      have Zs421 := Nat.le_trans Zs411 (Nat.le_of_eq W418.size.symm)
      refine g_aload 111 rfl C X416 at_109 rfl rfl ?_
      refine g_iconst 112 rfl C X416 (5 : Int32) at_111 rfl ?_
      refine g_lloadN 113 rfl C X416 at_112 rfl ?_
      refine g_bipush 115 rfl C X416 (40 : Int32) at_113 rfl ?_
      refine g_lushr 116 rfl C X416 at_115 ?_
      refine g_l2i 117 rfl C X416 at_116 ?_
      refine g_i2b 118 rfl C X416 at_117 ?_
      obtain ⟨w422, hw422⟩ : ∃ z : Int32, (((((((((p3).toUInt64 >>> ((40 : Int32) &&& 0x3f).toInt64.toUInt64).toInt64)).toInt32)).toInt8.toInt32)).toInt8.toInt32) = z := ⟨_, rfl⟩
      refine g_bastore 119 rfl C X416 e417 B419 5 (by decide) (by decide) w422 hw422 at_118 N420 gn370 fun T423 h424 ls425 X426 e427 W428 B429 N430 => ?_
      have Zs431 := Nat.le_trans Zs421 (Nat.le_of_eq W428.size.symm)
      refine g_aload 121 rfl C X426 at_119 rfl rfl ?_
      refine g_bipush 123 rfl C X426 (6 : Int32) at_121 rfl ?_
      refine g_lloadN 124 rfl C X426 at_123 rfl ?_
      refine g_bipush 126 rfl C X426 (48 : Int32) at_124 rfl ?_
      refine g_lushr 127 rfl C X426 at_126 ?_
      refine g_l2i 128 rfl C X426 at_127 ?_
      refine g_i2b 129 rfl C X426 at_128 ?_
      obtain ⟨w432, hw432⟩ : ∃ z : Int32, (((((((((p3).toUInt64 >>> ((48 : Int32) &&& 0x3f).toInt64.toUInt64).toInt64)).toInt32)).toInt8.toInt32)).toInt8.toInt32) = z := ⟨_, rfl⟩
      refine g_bastore 130 rfl C X426 e427 B429 6 (by decide) (by decide) w432 hw432 at_129 N430 gn370 fun T433 h434 ls435 X436 e437 W438 B439 N440 => ?_
      have Zs441 := Nat.le_trans Zs431 (Nat.le_of_eq W438.size.symm)
      refine g_aload 132 rfl C X436 at_130 rfl rfl ?_
      refine g_bipush 134 rfl C X436 (7 : Int32) at_132 rfl ?_
      refine g_lloadN 135 rfl C X436 at_134 rfl ?_
      refine g_bipush 137 rfl C X436 (56 : Int32) at_135 rfl ?_
      refine g_lushr 138 rfl C X436 at_137 ?_
      refine g_l2i 139 rfl C X436 at_138 ?_
      refine g_i2b 140 rfl C X436 at_139 ?_
      obtain ⟨w442, hw442⟩ : ∃ z : Int32, (((((((((p3).toUInt64 >>> ((56 : Int32) &&& 0x3f).toInt64.toUInt64).toInt64)).toInt32)).toInt8.toInt32)).toInt8.toInt32) = z := ⟨_, rfl⟩
      refine g_bastore 141 rfl C X436 e437 B439 7 (by decide) (by decide) w442 hw442 at_140 N440 gn370 fun T443 h444 ls445 X446 e447 W448 B449 N450 => ?_
      have Zs451 := Nat.le_trans Zs441 (Nat.le_of_eq W448.size.symm)
      obtain ⟨f452, B453⟩ : ∃ f, Ba Z h444 o364 .byte 8 f := ⟨_, B449⟩
      refine g_iload 143 rfl C X446 at_141 rfl ?_
      refine g_aload 145 rfl C X446 at_143 rfl rfl ?_
      refine g_iload 147 rfl C X446 at_145 rfl ?_
      have fr454 := rng32 v1
      have fr455 := rng32 p1
      have fc456 : (3 : Int32).toInt = 3 := rfl
      have fo457 : (p1 &&& (3 : Int32)).toInt = p1.toInt % 4 := c_mask p1 (3 : Int32) 2 (by decide) (by decide)
      have fe458 : (p1 &&& (3 : Int32)).toInt = v1.toInt := congrArg Int32.toInt hv1
      have fc459 : (1 : Int32).toInt = 1 := rfl
      have fr460 := rng32 v360
      have fr461 := rng32 p0
      have fc462 : (2147483647 : Int32).toInt = 2147483647 := rfl
      have fo463 : (p0 &&& (2147483647 : Int32)).toInt = p0.toInt % 2147483648 := c_mask p0 (2147483647 : Int32) 31 (by decide) (by decide)
      have fc464 : (1114112 : Int32).toInt = 1114112 := rfl
      have fo465 := c_irem (p0 &&& (2147483647 : Int32)) (1114112 : Int32) 1114112 rfl
      have fr466 := rng32 ((p0 &&& (2147483647 : Int32)) % (1114112 : Int32))
      have fe467 : ((p0 &&& (2147483647 : Int32)) % (1114112 : Int32)).toInt = v360.toInt := congrArg Int32.toInt hv360
      have fr468 := rng32 v361
      have fr469 := rng32 p2
      have fo470 : (p2 &&& (3 : Int32)).toInt = p2.toInt % 4 := c_mask p2 (3 : Int32) 2 (by decide) (by decide)
      have fe471 : (p2 &&& (3 : Int32)).toInt = v361.toInt := congrArg Int32.toInt hv361
      obtain ⟨n472, hn472⟩ : ∃ n : Nat, v361.toInt = n := ⟨v361.toInt.toNat, by omega⟩
      have hcs : 2048 ≤ v360.toInt ∧ v360.toInt < 65536 ∨ 0 ≤ v360.toInt ∧ v360.toInt < 128 ∨ 128 ≤ v360.toInt ∧ v360.toInt < 2048 ∨ 65536 ≤ v360.toInt ∧ v360.toInt < 1114112 := by omega
      rcases hcs with hcs | hcs | hcs | hcs
      · skip
        refine g_callS 150 rfl C X446 (argsL := [(.int v360), (.ref o364), (.int v361)]) (hw _ (List.mem_of_getElem? (i := 3) rfl)) (hw _ (List.mem_of_getElem? (i := 4) rfl)) (hw _ (List.mem_of_getElem? (i := 6) rfl)) (hw _ (List.mem_of_getElem? (i := 5) rfl)) e447 (rm1_3 l Z a0 hw [] v360 o364 v361 f452 n472 h444 n0 Zs451 B453 hn472 (by omega) (by omega) gn370) (lenOf pd_30946454 rfl) (by decide) (by decide) (by decide) (by decide) rfl (W := 0) (Nat.le_of_eq rfl) (by decide) at_147 rfl fun r473 T474 Lc475 X476 hQ477 => ?_
        obtain ⟨f478, rfl, hs479, hk480, Nq481, Kc482, B483⟩ := hQ477
        have Zs484 := Nat.le_trans Zs451 Kc482.1
        have N485 := Fr.app N450 Nq481
        show Goes _ _ _ _ _ _ 150 _ [(.int (3 : Int32))]
        refine g_pop 151 rfl C X476 at_150 rfl ?_
        refine g_iload 153 rfl C X476 at_151 rfl ?_
        refine g_ldc 155 rfl C X476 (hw _ (List.mem_of_getElem? (i := 7) rfl)) at_153 ?_
        by_cases hb486 : v360.toInt < (55296 : Int32).toInt
        · skip
          refine g_icmp_lt_t 170 C X476 at_155 (by decide) (by decide) hb486 ?_
          refine g_iconst 171 rfl C X476 (-1 : Int32) at_170 rfl ?_
          refine g_istore 173 rfl C X476 (-1 : Int32) rfl #[.val (.int p0), .val (.int p1), .val (.int p2), .val (.long p3), .second, .val (.int v1), .val (.int v360), .val (.int v361), .val (.ref o364), .val (.int (-1 : Int32))] at_171 rfl ?_
          refine g_aload 175 rfl C X476 at_173 rfl rfl ?_
          refine g_iload 177 rfl C X476 at_175 rfl ?_
          refine g_callS 180 rfl C X476 (argsL := [(.ref o364), (.int v361)]) (hw _ (List.mem_of_getElem? (i := 8) rfl)) (hw _ (List.mem_of_getElem? (i := 9) rfl)) (hw _ (List.mem_of_getElem? (i := 10) rfl)) (hw _ (List.mem_of_getElem? (i := 5) rfl)) rfl (rm2 l Z a0 hw [] o364 v361 f478 n472 (f478 n472) (f478 (n472 + 1)) (f478 (n472 + 2)) (T474.heap) n0 Zs484 B483 hn472 (by omega) rfl rfl rfl) (lenOf pd_20721021 rfl) (by decide) (by decide) (by decide) (by decide) rfl (W := 0) (Nat.le_of_eq rfl) (by decide) at_177 rfl fun r487 T488 Lc489 X490 hQ491 => ?_
          obtain ⟨r492, rfl, hs493, Nq494, eh495⟩ := hQ491
          have N496 := Fr.app N485 Nq494
          show Goes _ _ _ _ _ _ 180 _ [(.int r492)]
          refine g_iload 182 rfl C X490 at_180 rfl ?_
          have fc497 : (55296 : Int32).toInt = 55296 := rfl
          have fr498 := rng32 (f478 n472)
          have fr499 := rng32 (f478 (n472 + 1))
          have fr500 := rng32 (f478 (n472 + 2))
          have fr501 := rng32 r492
          have fc502 : (-1 : Int32).toInt = -1 := rfl
          have hb503 : r492.toInt = (-1 : Int32).toInt := by omega
          refine g_icmp_ne_f 185 rfl C X490 at_182 hb503 ?_
          refine g_iconst 186 rfl C X490 (1 : Int32) at_185 rfl ?_
          refine g_goto 190 C X490 at_186 (by decide) (by decide) ?_
          exact g_retN C X490 (z' := (1 : Int32)) rfl (Or.inl rfl) at_190 eh495 (by decide) (by decide) rfl ⟨rfl, N496⟩
        · skip
          refine g_icmp_lt_f 158 rfl C X476 at_155 hb486 ?_
          refine g_iload 160 rfl C X476 at_158 rfl ?_
          refine g_ldc 162 rfl C X476 (hw _ (List.mem_of_getElem? (i := 12) rfl)) at_160 ?_
          by_cases hb504 : (57343 : Int32).toInt < v360.toInt
          · skip
            refine g_icmp_gt_t 170 C X476 at_162 (by decide) (by decide) hb504 ?_
            refine g_iconst 171 rfl C X476 (-1 : Int32) at_170 rfl ?_
            refine g_istore 173 rfl C X476 (-1 : Int32) rfl #[.val (.int p0), .val (.int p1), .val (.int p2), .val (.long p3), .second, .val (.int v1), .val (.int v360), .val (.int v361), .val (.ref o364), .val (.int (-1 : Int32))] at_171 rfl ?_
            refine g_aload 175 rfl C X476 at_173 rfl rfl ?_
            refine g_iload 177 rfl C X476 at_175 rfl ?_
            refine g_callS 180 rfl C X476 (argsL := [(.ref o364), (.int v361)]) (hw _ (List.mem_of_getElem? (i := 8) rfl)) (hw _ (List.mem_of_getElem? (i := 9) rfl)) (hw _ (List.mem_of_getElem? (i := 10) rfl)) (hw _ (List.mem_of_getElem? (i := 5) rfl)) rfl (rm2 l Z a0 hw [] o364 v361 f478 n472 (f478 n472) (f478 (n472 + 1)) (f478 (n472 + 2)) (T474.heap) n0 Zs484 B483 hn472 (by omega) rfl rfl rfl) (lenOf pd_20721021 rfl) (by decide) (by decide) (by decide) (by decide) rfl (W := 0) (Nat.le_of_eq rfl) (by decide) at_177 rfl fun r505 T506 Lc507 X508 hQ509 => ?_
            obtain ⟨r510, rfl, hs511, Nq512, eh513⟩ := hQ509
            have N514 := Fr.app N485 Nq512
            show Goes _ _ _ _ _ _ 180 _ [(.int r510)]
            refine g_iload 182 rfl C X508 at_180 rfl ?_
            have fc515 : (55296 : Int32).toInt = 55296 := rfl
            have fc516 : (57343 : Int32).toInt = 57343 := rfl
            have fr517 := rng32 (f478 n472)
            have fr518 := rng32 (f478 (n472 + 1))
            have fr519 := rng32 (f478 (n472 + 2))
            have fr520 := rng32 r510
            have fc521 : (-1 : Int32).toInt = -1 := rfl
            have hb522 : r510.toInt = (-1 : Int32).toInt := by omega
            refine g_icmp_ne_f 185 rfl C X508 at_182 hb522 ?_
            refine g_iconst 186 rfl C X508 (1 : Int32) at_185 rfl ?_
            refine g_goto 190 C X508 at_186 (by decide) (by decide) ?_
            exact g_retN C X508 (z' := (1 : Int32)) rfl (Or.inl rfl) at_190 eh513 (by decide) (by decide) rfl ⟨rfl, N514⟩
          · skip
            refine g_icmp_gt_f 165 rfl C X476 at_162 hb504 ?_
            refine g_iload 167 rfl C X476 at_165 rfl ?_
            refine g_goto 171 C X476 at_167 (by decide) (by decide) ?_
            refine g_istore 173 rfl C X476 v360 rfl #[.val (.int p0), .val (.int p1), .val (.int p2), .val (.long p3), .second, .val (.int v1), .val (.int v360), .val (.int v361), .val (.ref o364), .val (.int v360)] at_171 rfl ?_
            refine g_aload 175 rfl C X476 at_173 rfl rfl ?_
            refine g_iload 177 rfl C X476 at_175 rfl ?_
            refine g_callS 180 rfl C X476 (argsL := [(.ref o364), (.int v361)]) (hw _ (List.mem_of_getElem? (i := 8) rfl)) (hw _ (List.mem_of_getElem? (i := 9) rfl)) (hw _ (List.mem_of_getElem? (i := 10) rfl)) (hw _ (List.mem_of_getElem? (i := 5) rfl)) rfl (rm2 l Z a0 hw [] o364 v361 f478 n472 (f478 n472) (f478 (n472 + 1)) (f478 (n472 + 2)) (T474.heap) n0 Zs484 B483 hn472 (by omega) rfl rfl rfl) (lenOf pd_20721021 rfl) (by decide) (by decide) (by decide) (by decide) rfl (W := 0) (Nat.le_of_eq rfl) (by decide) at_177 rfl fun r523 T524 Lc525 X526 hQ527 => ?_
            obtain ⟨r528, rfl, hs529, Nq530, eh531⟩ := hQ527
            have N532 := Fr.app N485 Nq530
            show Goes _ _ _ _ _ _ 180 _ [(.int r528)]
            refine g_iload 182 rfl C X526 at_180 rfl ?_
            have fc533 : (55296 : Int32).toInt = 55296 := rfl
            have fc534 : (57343 : Int32).toInt = 57343 := rfl
            have fr535 := rng32 (f478 n472)
            have fr536 := rng32 (f478 (n472 + 1))
            have fr537 := rng32 (f478 (n472 + 2))
            have fr538 := rng32 r528
            have hb539 : r528.toInt = v360.toInt := by omega
            refine g_icmp_ne_f 185 rfl C X526 at_182 hb539 ?_
            refine g_iconst 186 rfl C X526 (1 : Int32) at_185 rfl ?_
            refine g_goto 190 C X526 at_186 (by decide) (by decide) ?_
            exact g_retN C X526 (z' := (1 : Int32)) rfl (Or.inl rfl) at_190 eh531 (by decide) (by decide) rfl ⟨rfl, N532⟩
      · skip
        refine g_callS 150 rfl C X446 (argsL := [(.int v360), (.ref o364), (.int v361)]) (hw _ (List.mem_of_getElem? (i := 3) rfl)) (hw _ (List.mem_of_getElem? (i := 4) rfl)) (hw _ (List.mem_of_getElem? (i := 6) rfl)) (hw _ (List.mem_of_getElem? (i := 5) rfl)) e447 (rm1_1 l Z a0 hw [] v360 o364 v361 f452 n472 h444 n0 Zs451 B453 hn472 (by omega) (by omega) gn370) (lenOf pd_30946454 rfl) (by decide) (by decide) (by decide) (by decide) rfl (W := 0) (Nat.le_of_eq rfl) (by decide) at_147 rfl fun r540 T541 Lc542 X543 hQ544 => ?_
        obtain ⟨f545, rfl, hs546, hk547, Nq548, Kc549, B550⟩ := hQ544
        have Zs551 := Nat.le_trans Zs451 Kc549.1
        have N552 := Fr.app N450 Nq548
        show Goes _ _ _ _ _ _ 150 _ [(.int (1 : Int32))]
        refine g_pop 151 rfl C X543 at_150 rfl ?_
        refine g_iload 153 rfl C X543 at_151 rfl ?_
        refine g_ldc 155 rfl C X543 (hw _ (List.mem_of_getElem? (i := 7) rfl)) at_153 ?_
        by_cases hb553 : v360.toInt < (55296 : Int32).toInt
        · skip
          refine g_icmp_lt_t 170 C X543 at_155 (by decide) (by decide) hb553 ?_
          refine g_iconst 171 rfl C X543 (-1 : Int32) at_170 rfl ?_
          refine g_istore 173 rfl C X543 (-1 : Int32) rfl #[.val (.int p0), .val (.int p1), .val (.int p2), .val (.long p3), .second, .val (.int v1), .val (.int v360), .val (.int v361), .val (.ref o364), .val (.int (-1 : Int32))] at_171 rfl ?_
          refine g_aload 175 rfl C X543 at_173 rfl rfl ?_
          refine g_iload 177 rfl C X543 at_175 rfl ?_
          refine g_callS 180 rfl C X543 (argsL := [(.ref o364), (.int v361)]) (hw _ (List.mem_of_getElem? (i := 8) rfl)) (hw _ (List.mem_of_getElem? (i := 9) rfl)) (hw _ (List.mem_of_getElem? (i := 10) rfl)) (hw _ (List.mem_of_getElem? (i := 5) rfl)) rfl (rm2 l Z a0 hw [] o364 v361 f545 n472 (f545 n472) (f545 (n472 + 1)) (f545 (n472 + 2)) (T541.heap) n0 Zs551 B550 hn472 (by omega) rfl rfl rfl) (lenOf pd_20721021 rfl) (by decide) (by decide) (by decide) (by decide) rfl (W := 0) (Nat.le_of_eq rfl) (by decide) at_177 rfl fun r554 T555 Lc556 X557 hQ558 => ?_
          obtain ⟨r559, rfl, hs560, Nq561, eh562⟩ := hQ558
          have N563 := Fr.app N552 Nq561
          show Goes _ _ _ _ _ _ 180 _ [(.int r559)]
          refine g_iload 182 rfl C X557 at_180 rfl ?_
          have fc564 : (55296 : Int32).toInt = 55296 := rfl
          have fr565 := rng32 (f545 n472)
          have fr566 := rng32 (f545 (n472 + 1))
          have fr567 := rng32 (f545 (n472 + 2))
          have fr568 := rng32 r559
          have fc569 : (-1 : Int32).toInt = -1 := rfl
          have hb570 : r559.toInt = (-1 : Int32).toInt := by omega
          refine g_icmp_ne_f 185 rfl C X557 at_182 hb570 ?_
          refine g_iconst 186 rfl C X557 (1 : Int32) at_185 rfl ?_
          refine g_goto 190 C X557 at_186 (by decide) (by decide) ?_
          exact g_retN C X557 (z' := (1 : Int32)) rfl (Or.inl rfl) at_190 eh562 (by decide) (by decide) rfl ⟨rfl, N563⟩
        · skip
          refine g_icmp_lt_f 158 rfl C X543 at_155 hb553 ?_
          refine g_iload 160 rfl C X543 at_158 rfl ?_
          refine g_ldc 162 rfl C X543 (hw _ (List.mem_of_getElem? (i := 12) rfl)) at_160 ?_
          by_cases hb571 : (57343 : Int32).toInt < v360.toInt
          · skip
            refine g_icmp_gt_t 170 C X543 at_162 (by decide) (by decide) hb571 ?_
            refine g_iconst 171 rfl C X543 (-1 : Int32) at_170 rfl ?_
            refine g_istore 173 rfl C X543 (-1 : Int32) rfl #[.val (.int p0), .val (.int p1), .val (.int p2), .val (.long p3), .second, .val (.int v1), .val (.int v360), .val (.int v361), .val (.ref o364), .val (.int (-1 : Int32))] at_171 rfl ?_
            refine g_aload 175 rfl C X543 at_173 rfl rfl ?_
            refine g_iload 177 rfl C X543 at_175 rfl ?_
            refine g_callS 180 rfl C X543 (argsL := [(.ref o364), (.int v361)]) (hw _ (List.mem_of_getElem? (i := 8) rfl)) (hw _ (List.mem_of_getElem? (i := 9) rfl)) (hw _ (List.mem_of_getElem? (i := 10) rfl)) (hw _ (List.mem_of_getElem? (i := 5) rfl)) rfl (rm2 l Z a0 hw [] o364 v361 f545 n472 (f545 n472) (f545 (n472 + 1)) (f545 (n472 + 2)) (T541.heap) n0 Zs551 B550 hn472 (by omega) rfl rfl rfl) (lenOf pd_20721021 rfl) (by decide) (by decide) (by decide) (by decide) rfl (W := 0) (Nat.le_of_eq rfl) (by decide) at_177 rfl fun r572 T573 Lc574 X575 hQ576 => ?_
            obtain ⟨r577, rfl, hs578, Nq579, eh580⟩ := hQ576
            have N581 := Fr.app N552 Nq579
            show Goes _ _ _ _ _ _ 180 _ [(.int r577)]
            refine g_iload 182 rfl C X575 at_180 rfl ?_
            have fc582 : (55296 : Int32).toInt = 55296 := rfl
            have fc583 : (57343 : Int32).toInt = 57343 := rfl
            have fr584 := rng32 (f545 n472)
            have fr585 := rng32 (f545 (n472 + 1))
            have fr586 := rng32 (f545 (n472 + 2))
            have fr587 := rng32 r577
            have fc588 : (-1 : Int32).toInt = -1 := rfl
            have hb589 : r577.toInt = (-1 : Int32).toInt := by omega
            refine g_icmp_ne_f 185 rfl C X575 at_182 hb589 ?_
            refine g_iconst 186 rfl C X575 (1 : Int32) at_185 rfl ?_
            refine g_goto 190 C X575 at_186 (by decide) (by decide) ?_
            exact g_retN C X575 (z' := (1 : Int32)) rfl (Or.inl rfl) at_190 eh580 (by decide) (by decide) rfl ⟨rfl, N581⟩
          · skip
            refine g_icmp_gt_f 165 rfl C X543 at_162 hb571 ?_
            refine g_iload 167 rfl C X543 at_165 rfl ?_
            refine g_goto 171 C X543 at_167 (by decide) (by decide) ?_
            refine g_istore 173 rfl C X543 v360 rfl #[.val (.int p0), .val (.int p1), .val (.int p2), .val (.long p3), .second, .val (.int v1), .val (.int v360), .val (.int v361), .val (.ref o364), .val (.int v360)] at_171 rfl ?_
            refine g_aload 175 rfl C X543 at_173 rfl rfl ?_
            refine g_iload 177 rfl C X543 at_175 rfl ?_
            refine g_callS 180 rfl C X543 (argsL := [(.ref o364), (.int v361)]) (hw _ (List.mem_of_getElem? (i := 8) rfl)) (hw _ (List.mem_of_getElem? (i := 9) rfl)) (hw _ (List.mem_of_getElem? (i := 10) rfl)) (hw _ (List.mem_of_getElem? (i := 5) rfl)) rfl (rm2 l Z a0 hw [] o364 v361 f545 n472 (f545 n472) (f545 (n472 + 1)) (f545 (n472 + 2)) (T541.heap) n0 Zs551 B550 hn472 (by omega) rfl rfl rfl) (lenOf pd_20721021 rfl) (by decide) (by decide) (by decide) (by decide) rfl (W := 0) (Nat.le_of_eq rfl) (by decide) at_177 rfl fun r590 T591 Lc592 X593 hQ594 => ?_
            obtain ⟨r595, rfl, hs596, Nq597, eh598⟩ := hQ594
            have N599 := Fr.app N552 Nq597
            show Goes _ _ _ _ _ _ 180 _ [(.int r595)]
            refine g_iload 182 rfl C X593 at_180 rfl ?_
            have fc600 : (55296 : Int32).toInt = 55296 := rfl
            have fc601 : (57343 : Int32).toInt = 57343 := rfl
            have fr602 := rng32 (f545 n472)
            have fr603 := rng32 (f545 (n472 + 1))
            have fr604 := rng32 (f545 (n472 + 2))
            have fr605 := rng32 r595
            have hb606 : r595.toInt = v360.toInt := by omega
            refine g_icmp_ne_f 185 rfl C X593 at_182 hb606 ?_
            refine g_iconst 186 rfl C X593 (1 : Int32) at_185 rfl ?_
            refine g_goto 190 C X593 at_186 (by decide) (by decide) ?_
            exact g_retN C X593 (z' := (1 : Int32)) rfl (Or.inl rfl) at_190 eh598 (by decide) (by decide) rfl ⟨rfl, N599⟩
      · skip
        refine g_callS 150 rfl C X446 (argsL := [(.int v360), (.ref o364), (.int v361)]) (hw _ (List.mem_of_getElem? (i := 3) rfl)) (hw _ (List.mem_of_getElem? (i := 4) rfl)) (hw _ (List.mem_of_getElem? (i := 6) rfl)) (hw _ (List.mem_of_getElem? (i := 5) rfl)) e447 (rm1_2 l Z a0 hw [] v360 o364 v361 f452 n472 h444 n0 Zs451 B453 hn472 (by omega) (by omega) gn370) (lenOf pd_30946454 rfl) (by decide) (by decide) (by decide) (by decide) rfl (W := 0) (Nat.le_of_eq rfl) (by decide) at_147 rfl fun r607 T608 Lc609 X610 hQ611 => ?_
        obtain ⟨f612, rfl, hs613, hk614, Nq615, Kc616, B617⟩ := hQ611
        have Zs618 := Nat.le_trans Zs451 Kc616.1
        have N619 := Fr.app N450 Nq615
        show Goes _ _ _ _ _ _ 150 _ [(.int (2 : Int32))]
        refine g_pop 151 rfl C X610 at_150 rfl ?_
        refine g_iload 153 rfl C X610 at_151 rfl ?_
        refine g_ldc 155 rfl C X610 (hw _ (List.mem_of_getElem? (i := 7) rfl)) at_153 ?_
        by_cases hb620 : v360.toInt < (55296 : Int32).toInt
        · skip
          refine g_icmp_lt_t 170 C X610 at_155 (by decide) (by decide) hb620 ?_
          refine g_iconst 171 rfl C X610 (-1 : Int32) at_170 rfl ?_
          refine g_istore 173 rfl C X610 (-1 : Int32) rfl #[.val (.int p0), .val (.int p1), .val (.int p2), .val (.long p3), .second, .val (.int v1), .val (.int v360), .val (.int v361), .val (.ref o364), .val (.int (-1 : Int32))] at_171 rfl ?_
          refine g_aload 175 rfl C X610 at_173 rfl rfl ?_
          refine g_iload 177 rfl C X610 at_175 rfl ?_
          refine g_callS 180 rfl C X610 (argsL := [(.ref o364), (.int v361)]) (hw _ (List.mem_of_getElem? (i := 8) rfl)) (hw _ (List.mem_of_getElem? (i := 9) rfl)) (hw _ (List.mem_of_getElem? (i := 10) rfl)) (hw _ (List.mem_of_getElem? (i := 5) rfl)) rfl (rm2 l Z a0 hw [] o364 v361 f612 n472 (f612 n472) (f612 (n472 + 1)) (f612 (n472 + 2)) (T608.heap) n0 Zs618 B617 hn472 (by omega) rfl rfl rfl) (lenOf pd_20721021 rfl) (by decide) (by decide) (by decide) (by decide) rfl (W := 0) (Nat.le_of_eq rfl) (by decide) at_177 rfl fun r621 T622 Lc623 X624 hQ625 => ?_
          obtain ⟨r626, rfl, hs627, Nq628, eh629⟩ := hQ625
          have N630 := Fr.app N619 Nq628
          show Goes _ _ _ _ _ _ 180 _ [(.int r626)]
          refine g_iload 182 rfl C X624 at_180 rfl ?_
          have fc631 : (55296 : Int32).toInt = 55296 := rfl
          have fr632 := rng32 (f612 n472)
          have fr633 := rng32 (f612 (n472 + 1))
          have fr634 := rng32 (f612 (n472 + 2))
          have fr635 := rng32 r626
          have fc636 : (-1 : Int32).toInt = -1 := rfl
          have hb637 : r626.toInt = (-1 : Int32).toInt := by omega
          refine g_icmp_ne_f 185 rfl C X624 at_182 hb637 ?_
          refine g_iconst 186 rfl C X624 (1 : Int32) at_185 rfl ?_
          refine g_goto 190 C X624 at_186 (by decide) (by decide) ?_
          exact g_retN C X624 (z' := (1 : Int32)) rfl (Or.inl rfl) at_190 eh629 (by decide) (by decide) rfl ⟨rfl, N630⟩
        · skip
          refine g_icmp_lt_f 158 rfl C X610 at_155 hb620 ?_
          refine g_iload 160 rfl C X610 at_158 rfl ?_
          refine g_ldc 162 rfl C X610 (hw _ (List.mem_of_getElem? (i := 12) rfl)) at_160 ?_
          by_cases hb638 : (57343 : Int32).toInt < v360.toInt
          · skip
            refine g_icmp_gt_t 170 C X610 at_162 (by decide) (by decide) hb638 ?_
            refine g_iconst 171 rfl C X610 (-1 : Int32) at_170 rfl ?_
            refine g_istore 173 rfl C X610 (-1 : Int32) rfl #[.val (.int p0), .val (.int p1), .val (.int p2), .val (.long p3), .second, .val (.int v1), .val (.int v360), .val (.int v361), .val (.ref o364), .val (.int (-1 : Int32))] at_171 rfl ?_
            refine g_aload 175 rfl C X610 at_173 rfl rfl ?_
            refine g_iload 177 rfl C X610 at_175 rfl ?_
            refine g_callS 180 rfl C X610 (argsL := [(.ref o364), (.int v361)]) (hw _ (List.mem_of_getElem? (i := 8) rfl)) (hw _ (List.mem_of_getElem? (i := 9) rfl)) (hw _ (List.mem_of_getElem? (i := 10) rfl)) (hw _ (List.mem_of_getElem? (i := 5) rfl)) rfl (rm2 l Z a0 hw [] o364 v361 f612 n472 (f612 n472) (f612 (n472 + 1)) (f612 (n472 + 2)) (T608.heap) n0 Zs618 B617 hn472 (by omega) rfl rfl rfl) (lenOf pd_20721021 rfl) (by decide) (by decide) (by decide) (by decide) rfl (W := 0) (Nat.le_of_eq rfl) (by decide) at_177 rfl fun r639 T640 Lc641 X642 hQ643 => ?_
            obtain ⟨r644, rfl, hs645, Nq646, eh647⟩ := hQ643
            have N648 := Fr.app N619 Nq646
            show Goes _ _ _ _ _ _ 180 _ [(.int r644)]
            refine g_iload 182 rfl C X642 at_180 rfl ?_
            have fc649 : (55296 : Int32).toInt = 55296 := rfl
            have fc650 : (57343 : Int32).toInt = 57343 := rfl
            have fr651 := rng32 (f612 n472)
            have fr652 := rng32 (f612 (n472 + 1))
            have fr653 := rng32 (f612 (n472 + 2))
            have fr654 := rng32 r644
            have fc655 : (-1 : Int32).toInt = -1 := rfl
            have hb656 : r644.toInt = (-1 : Int32).toInt := by omega
            refine g_icmp_ne_f 185 rfl C X642 at_182 hb656 ?_
            refine g_iconst 186 rfl C X642 (1 : Int32) at_185 rfl ?_
            refine g_goto 190 C X642 at_186 (by decide) (by decide) ?_
            exact g_retN C X642 (z' := (1 : Int32)) rfl (Or.inl rfl) at_190 eh647 (by decide) (by decide) rfl ⟨rfl, N648⟩
          · skip
            refine g_icmp_gt_f 165 rfl C X610 at_162 hb638 ?_
            refine g_iload 167 rfl C X610 at_165 rfl ?_
            refine g_goto 171 C X610 at_167 (by decide) (by decide) ?_
            refine g_istore 173 rfl C X610 v360 rfl #[.val (.int p0), .val (.int p1), .val (.int p2), .val (.long p3), .second, .val (.int v1), .val (.int v360), .val (.int v361), .val (.ref o364), .val (.int v360)] at_171 rfl ?_
            refine g_aload 175 rfl C X610 at_173 rfl rfl ?_
            refine g_iload 177 rfl C X610 at_175 rfl ?_
            refine g_callS 180 rfl C X610 (argsL := [(.ref o364), (.int v361)]) (hw _ (List.mem_of_getElem? (i := 8) rfl)) (hw _ (List.mem_of_getElem? (i := 9) rfl)) (hw _ (List.mem_of_getElem? (i := 10) rfl)) (hw _ (List.mem_of_getElem? (i := 5) rfl)) rfl (rm2 l Z a0 hw [] o364 v361 f612 n472 (f612 n472) (f612 (n472 + 1)) (f612 (n472 + 2)) (T608.heap) n0 Zs618 B617 hn472 (by omega) rfl rfl rfl) (lenOf pd_20721021 rfl) (by decide) (by decide) (by decide) (by decide) rfl (W := 0) (Nat.le_of_eq rfl) (by decide) at_177 rfl fun r657 T658 Lc659 X660 hQ661 => ?_
            obtain ⟨r662, rfl, hs663, Nq664, eh665⟩ := hQ661
            have N666 := Fr.app N619 Nq664
            show Goes _ _ _ _ _ _ 180 _ [(.int r662)]
            refine g_iload 182 rfl C X660 at_180 rfl ?_
            have fc667 : (55296 : Int32).toInt = 55296 := rfl
            have fc668 : (57343 : Int32).toInt = 57343 := rfl
            have fr669 := rng32 (f612 n472)
            have fr670 := rng32 (f612 (n472 + 1))
            have fr671 := rng32 (f612 (n472 + 2))
            have fr672 := rng32 r662
            have hb673 : r662.toInt = v360.toInt := by omega
            refine g_icmp_ne_f 185 rfl C X660 at_182 hb673 ?_
            refine g_iconst 186 rfl C X660 (1 : Int32) at_185 rfl ?_
            refine g_goto 190 C X660 at_186 (by decide) (by decide) ?_
            exact g_retN C X660 (z' := (1 : Int32)) rfl (Or.inl rfl) at_190 eh665 (by decide) (by decide) rfl ⟨rfl, N666⟩
      · skip
        refine g_callS 150 rfl C X446 (argsL := [(.int v360), (.ref o364), (.int v361)]) (hw _ (List.mem_of_getElem? (i := 3) rfl)) (hw _ (List.mem_of_getElem? (i := 4) rfl)) (hw _ (List.mem_of_getElem? (i := 6) rfl)) (hw _ (List.mem_of_getElem? (i := 5) rfl)) e447 (rm1_4 l Z a0 hw [] v360 o364 v361 f452 n472 h444 n0 Zs451 B453 hn472 (by omega) (by omega) gn370) (lenOf pd_30946454 rfl) (by decide) (by decide) (by decide) (by decide) rfl (W := 0) (Nat.le_of_eq rfl) (by decide) at_147 rfl fun r674 T675 Lc676 X677 hQ678 => ?_
        obtain ⟨f679, rfl, hs680, hk681, Nq682, Kc683, B684⟩ := hQ678
        have Zs685 := Nat.le_trans Zs451 Kc683.1
        have N686 := Fr.app N450 Nq682
        show Goes _ _ _ _ _ _ 150 _ [(.int (4 : Int32))]
        refine g_pop 151 rfl C X677 at_150 rfl ?_
        refine g_iload 153 rfl C X677 at_151 rfl ?_
        refine g_ldc 155 rfl C X677 (hw _ (List.mem_of_getElem? (i := 7) rfl)) at_153 ?_
        by_cases hb687 : v360.toInt < (55296 : Int32).toInt
        · skip
          refine g_icmp_lt_t 170 C X677 at_155 (by decide) (by decide) hb687 ?_
          refine g_iconst 171 rfl C X677 (-1 : Int32) at_170 rfl ?_
          refine g_istore 173 rfl C X677 (-1 : Int32) rfl #[.val (.int p0), .val (.int p1), .val (.int p2), .val (.long p3), .second, .val (.int v1), .val (.int v360), .val (.int v361), .val (.ref o364), .val (.int (-1 : Int32))] at_171 rfl ?_
          refine g_aload 175 rfl C X677 at_173 rfl rfl ?_
          refine g_iload 177 rfl C X677 at_175 rfl ?_
          refine g_callS 180 rfl C X677 (argsL := [(.ref o364), (.int v361)]) (hw _ (List.mem_of_getElem? (i := 8) rfl)) (hw _ (List.mem_of_getElem? (i := 9) rfl)) (hw _ (List.mem_of_getElem? (i := 10) rfl)) (hw _ (List.mem_of_getElem? (i := 5) rfl)) rfl (rm2 l Z a0 hw [] o364 v361 f679 n472 (f679 n472) (f679 (n472 + 1)) (f679 (n472 + 2)) (T675.heap) n0 Zs685 B684 hn472 (by omega) rfl rfl rfl) (lenOf pd_20721021 rfl) (by decide) (by decide) (by decide) (by decide) rfl (W := 0) (Nat.le_of_eq rfl) (by decide) at_177 rfl fun r688 T689 Lc690 X691 hQ692 => ?_
          obtain ⟨r693, rfl, hs694, Nq695, eh696⟩ := hQ692
          have N697 := Fr.app N686 Nq695
          show Goes _ _ _ _ _ _ 180 _ [(.int r693)]
          refine g_iload 182 rfl C X691 at_180 rfl ?_
          have fc698 : (55296 : Int32).toInt = 55296 := rfl
          have fr699 := rng32 (f679 n472)
          have fr700 := rng32 (f679 (n472 + 1))
          have fr701 := rng32 (f679 (n472 + 2))
          have fr702 := rng32 r693
          have fc703 : (-1 : Int32).toInt = -1 := rfl
          have hb704 : r693.toInt = (-1 : Int32).toInt := by omega
          refine g_icmp_ne_f 185 rfl C X691 at_182 hb704 ?_
          refine g_iconst 186 rfl C X691 (1 : Int32) at_185 rfl ?_
          refine g_goto 190 C X691 at_186 (by decide) (by decide) ?_
          exact g_retN C X691 (z' := (1 : Int32)) rfl (Or.inl rfl) at_190 eh696 (by decide) (by decide) rfl ⟨rfl, N697⟩
        · skip
          refine g_icmp_lt_f 158 rfl C X677 at_155 hb687 ?_
          refine g_iload 160 rfl C X677 at_158 rfl ?_
          refine g_ldc 162 rfl C X677 (hw _ (List.mem_of_getElem? (i := 12) rfl)) at_160 ?_
          by_cases hb705 : (57343 : Int32).toInt < v360.toInt
          · skip
            refine g_icmp_gt_t 170 C X677 at_162 (by decide) (by decide) hb705 ?_
            refine g_iconst 171 rfl C X677 (-1 : Int32) at_170 rfl ?_
            refine g_istore 173 rfl C X677 (-1 : Int32) rfl #[.val (.int p0), .val (.int p1), .val (.int p2), .val (.long p3), .second, .val (.int v1), .val (.int v360), .val (.int v361), .val (.ref o364), .val (.int (-1 : Int32))] at_171 rfl ?_
            refine g_aload 175 rfl C X677 at_173 rfl rfl ?_
            refine g_iload 177 rfl C X677 at_175 rfl ?_
            refine g_callS 180 rfl C X677 (argsL := [(.ref o364), (.int v361)]) (hw _ (List.mem_of_getElem? (i := 8) rfl)) (hw _ (List.mem_of_getElem? (i := 9) rfl)) (hw _ (List.mem_of_getElem? (i := 10) rfl)) (hw _ (List.mem_of_getElem? (i := 5) rfl)) rfl (rm2 l Z a0 hw [] o364 v361 f679 n472 (f679 n472) (f679 (n472 + 1)) (f679 (n472 + 2)) (T675.heap) n0 Zs685 B684 hn472 (by omega) rfl rfl rfl) (lenOf pd_20721021 rfl) (by decide) (by decide) (by decide) (by decide) rfl (W := 0) (Nat.le_of_eq rfl) (by decide) at_177 rfl fun r706 T707 Lc708 X709 hQ710 => ?_
            obtain ⟨r711, rfl, hs712, Nq713, eh714⟩ := hQ710
            have N715 := Fr.app N686 Nq713
            show Goes _ _ _ _ _ _ 180 _ [(.int r711)]
            refine g_iload 182 rfl C X709 at_180 rfl ?_
            have fc716 : (55296 : Int32).toInt = 55296 := rfl
            have fc717 : (57343 : Int32).toInt = 57343 := rfl
            have fr718 := rng32 (f679 n472)
            have fr719 := rng32 (f679 (n472 + 1))
            have fr720 := rng32 (f679 (n472 + 2))
            have fr721 := rng32 r711
            have fc722 : (-1 : Int32).toInt = -1 := rfl
            have hb723 : r711.toInt = (-1 : Int32).toInt := by omega
            refine g_icmp_ne_f 185 rfl C X709 at_182 hb723 ?_
            refine g_iconst 186 rfl C X709 (1 : Int32) at_185 rfl ?_
            refine g_goto 190 C X709 at_186 (by decide) (by decide) ?_
            exact g_retN C X709 (z' := (1 : Int32)) rfl (Or.inl rfl) at_190 eh714 (by decide) (by decide) rfl ⟨rfl, N715⟩
          · skip
            refine g_icmp_gt_f 165 rfl C X677 at_162 hb705 ?_
            refine g_iload 167 rfl C X677 at_165 rfl ?_
            refine g_goto 171 C X677 at_167 (by decide) (by decide) ?_
            refine g_istore 173 rfl C X677 v360 rfl #[.val (.int p0), .val (.int p1), .val (.int p2), .val (.long p3), .second, .val (.int v1), .val (.int v360), .val (.int v361), .val (.ref o364), .val (.int v360)] at_171 rfl ?_
            refine g_aload 175 rfl C X677 at_173 rfl rfl ?_
            refine g_iload 177 rfl C X677 at_175 rfl ?_
            refine g_callS 180 rfl C X677 (argsL := [(.ref o364), (.int v361)]) (hw _ (List.mem_of_getElem? (i := 8) rfl)) (hw _ (List.mem_of_getElem? (i := 9) rfl)) (hw _ (List.mem_of_getElem? (i := 10) rfl)) (hw _ (List.mem_of_getElem? (i := 5) rfl)) rfl (rm2 l Z a0 hw [] o364 v361 f679 n472 (f679 n472) (f679 (n472 + 1)) (f679 (n472 + 2)) (T675.heap) n0 Zs685 B684 hn472 (by omega) rfl rfl rfl) (lenOf pd_20721021 rfl) (by decide) (by decide) (by decide) (by decide) rfl (W := 0) (Nat.le_of_eq rfl) (by decide) at_177 rfl fun r724 T725 Lc726 X727 hQ728 => ?_
            obtain ⟨r729, rfl, hs730, Nq731, eh732⟩ := hQ728
            have N733 := Fr.app N686 Nq731
            show Goes _ _ _ _ _ _ 180 _ [(.int r729)]
            refine g_iload 182 rfl C X727 at_180 rfl ?_
            have fc734 : (55296 : Int32).toInt = 55296 := rfl
            have fc735 : (57343 : Int32).toInt = 57343 := rfl
            have fr736 := rng32 (f679 n472)
            have fr737 := rng32 (f679 (n472 + 1))
            have fr738 := rng32 (f679 (n472 + 2))
            have fr739 := rng32 r729
            have hb740 : r729.toInt = v360.toInt := by omega
            refine g_icmp_ne_f 185 rfl C X727 at_182 hb740 ?_
            refine g_iconst 186 rfl C X727 (1 : Int32) at_185 rfl ?_
            refine g_goto 190 C X727 at_186 (by decide) (by decide) ?_
            exact g_retN C X727 (z' := (1 : Int32)) rfl (Or.inl rfl) at_190 eh732 (by decide) (by decide) rfl ⟨rfl, N733⟩
set_option maxRecDepth 65536 in
set_option maxHeartbeats 40000000 in
theorem comes_1 {Post : Tables → Env → Array Value → State → Outcome → State → Prop} (hpost : ∀ tb e args s v u, (limb_1_1.after args s (.returned v) u = true ∧ limb_1_2.after args s (.returned v) u = true ∧ True) → FrameEnd s (.returned v) u (Jvm.fieldLocs frame_1_writes args s ++ Jvm.arrayLocs frame_1_arrays args s ++ Jvm.staticLocs frame_1_statics s) 16 128 → Post tb e args s (.returned v) u) :
    ArmFor flags0 classFile x code maxLocals ret World_1 tables_1 room_1 Calls_1 rest_1 Pre_1 Post := by
  intro l hfl _ _ p e ha hc hk s m args below hf hA hF happ hP
  obtain ⟨hcalls, hrest, hpre⟩ := hP
  obtain ⟨-, -, -, hnamed, -, -, -, hat⟩ := (Spec.applies_iff hf).mp happ
  obtain ⟨hg, hn⟩ := and_e (Cond.before_iff.mp (show (Jvm.Cond.and given_1 narrow_1).before args s = true from hpre))
  obtain ⟨g1, g2⟩ := and_e hg
  obtain ⟨g3, g4⟩ := and_e g2
  obtain ⟨g5, g6⟩ := and_e g4
  obtain ⟨g7, g8⟩ := and_e g6
  obtain ⟨w0, w1, w2, w3, rfl⟩ : ∃ w0 w1 w2 w3 : Value, args = #[w0, w1, w2, w3] := by
    have hs : args.size = 4 := by simpa [Cond.value, given_1] using g1
    obtain ⟨L⟩ := args
    match L, hs with
    | [w0, w1, w2, w3], _ => exact ⟨w0, w1, w2, w3, rfl⟩
  have hw := fun d (hd : d ∈ tables_1) => atoms_spec (ws := Jvm.Cond.code x code maxLocals ret :: tables_1) hat d (List.mem_cons_of_mem _ hd)
  obtain ⟨i0, ei0⟩ := is_v g3
  obtain rfl : w0 = (.int i0) := Option.some.inj ei0
  obtain ⟨i1, ei1⟩ := is_v g5
  obtain rfl : w1 = (.int i1) := Option.some.inj ei1
  obtain ⟨i2, ei2⟩ := is_v g7
  obtain rfl : w2 = (.int i2) := Option.some.inj ei2
  obtain ⟨i3, ei3⟩ := isL_v g8
  obtain rfl : w3 = (.long i3) := Option.some.inj ei3
  obtain ⟨n, o, h1, h2, h3, _, L, rfl, ⟨rfl, N⟩, hq⟩ := rm0 l s _ hw tables_1 i0 i1 i2 i3 s.heap s.heap.size (Nat.le_refl _) p e ha hc hk s m _ below hf ((Spec.applies_iff_loose hf).mp happ).1 ⟨rfl, State.Warmed39.refl s, rfl⟩ trivial
  refine ⟨n, _, h1, h2, h3, hpost _ _ _ _ _ _ ⟨Cond.after_iff.mpr rfl, Cond.after_iff.mpr (eq_i res_at (Term.int_eval (1)) rfl), trivial⟩ ⟨hq.1, hq.2.1, (hq.2.2.sift fun y hy => Or.inr (N y hy)).mono (by decide) (by decide)⟩⟩
theorem main_1_1 : Claimed_1_1 := comes_1 fun _ _ _ _ _ _ h hF => ⟨h.1, hF⟩
theorem main_1_2 : Claimed_1_2 := comes_1 fun _ _ _ _ _ _ h hF => ⟨h.2.1, hF⟩
end Jvm.Pilot.@@N@@
namespace Jvm.Pilot.@@N@@
open Jvm Jvm.ClassFile Sem Op Lib Jvm.Free Jvm.Stand Jvm.Pilot.@@N@@.Jvm.D
/-! MADE BY PROGRAM (witnessworld.py) out of the Statement's table words and the real class files: 9 classes; the members and pool entries that the words name. The judged class is class 1, her method 1. -/
namespace start1
open Jvm.ClassFile
def u (s : String) : CpInfo := .utf8 (stringToUtf16 s)
/-- a pool by its gaps: so many unusable entries, then the entry; so many at the end -/
def gap : Nat → List CpInfo → List CpInfo
  | 0, r => r
  | n + 1, r => .unusable :: gap n r
def poolList (es : List (Nat × CpInfo)) (last : Nat) : List CpInfo := es.foldr (fun e r => gap e.1 (e.2 :: r)) (gap last [])
def pool (es : List (Nat × CpInfo)) (last : Nat) : Array CpInfo := ⟨poolList es last⟩
def fileOf (pool : Array CpInfo) (this : Nat) (attrs : Array Attribute := #[]) (ms : Array MethodInfo := #[]) (fl : Nat := 33) (sup : Nat := 0) (ifs : Array Nat := #[]) (fds : Array FieldInfo := #[]) : ClassFile where
  minorVersion := 0
  majorVersion := 65
  constantPool := pool
  accessFlags := fl
  thisClass := this
  superClass := sup
  interfaces := ifs
  fields := fds
  methods := ms
  attributes := attrs
def plain (name : String) (sup : Option ClassId) : Class where
  name := name
  kind := .ordinary
  loader := none
  accessFlags := 33
  super := sup
  interfaces := #[]
  cf := none
  fields := #[]
  methods := #[]
  instanceTypes := #[]
  staticTypes := #[]
  resolved := #[]
  callSites := []
  init := .initialized
  statics := none
  mirror := none

def pool0 : Array CpInfo := pool [(5, u "<init>"), (0, u "()V"), (1, .class_ 10), (1, u "java/lang/Object")] 113

def k0m0 : Method := { name := "<init>", desc := "()V", sig := { parameters := [], returnType := none }, accessFlags := 1, code := none }
/-- java/lang/Object -/
def k0 : Class := { plain "java/lang/Object" none with
  accessFlags := 33
  interfaces := #[]
  cf := some (fileOf pool0 8 #[] #[{ accessFlags := 1, nameIndex := 5, descriptorIndex := 6, attributes := #[] }] 33 0 #[] #[])
  fields := #[]
  methods := #[k0m0]
  instanceTypes := #[]
  staticTypes := #[]
  resolved := Array.replicate 124 none
  statics := none }

def pool1 : Array CpInfo := pool [(2, .class_ 4), (1, u "java/lang/Object"), (0, u "<init>"), (0, u "()V"), (0, .integer 53248), (0, .integer 55296), (0, .integer 2147483647), (0, .integer 1114112), (0, .methodref 12 13), (0, .class_ 14), (0, .nameAndType 15 16), (0, u "com/example/fieldpare/fieldpare/Utf8"), (0, u "encode"), (0, u "(I[BI)I"), (0, .integer 57343), (0, .methodref 12 19), (0, .nameAndType 20 21), (0, u "surrogate"), (0, u "([BI)I"), (0, .class_ 23), (0, u "com/example/fieldpare/fieldpare/Utf8SurrogatePinLaw"), (2, u "law"), (0, u "(IIIJ)Z")] 5

def k1m0 : Method := { name := "<init>", desc := "()V", sig := { parameters := [], returnType := none }, accessFlags := 2, code := none }
def k1c1 : Code := { maxStack := 5, maxLocals := 10, code := code, exceptionTable := #[], attributes := #[] }
def k1m1 : Method := { name := "law", desc := "(IIIJ)Z", sig := { parameters := [.int, .int, .int, .long], returnType := some .boolean }, accessFlags := 9, code := some k1c1 }
/-- com/example/fieldpare/fieldpare/Utf8SurrogatePinLaw -/
def k1 : Class := { plain "com/example/fieldpare/fieldpare/Utf8SurrogatePinLaw" (some 0) with
  accessFlags := 49
  interfaces := #[]
  cf := some (fileOf pool1 22 #[] #[{ accessFlags := 2, nameIndex := 5, descriptorIndex := 6, attributes := #[] }, { accessFlags := 9, nameIndex := 26, descriptorIndex := 27, attributes := #[] }] 49 2 #[] #[])
  fields := #[]
  methods := #[k1m0, k1m1]
  instanceTypes := #[]
  staticTypes := #[]
  resolved := Array.replicate 33 none
  statics := none }

def pool2 : Array CpInfo := pool [(2, .class_ 4), (1, u "java/lang/Object"), (0, u "<init>"), (0, u "()V"), (0, .integer 65536), (17, .class_ 27), (1, u "com/example/fieldpare/fieldpare/Utf8"), (0, u "encode"), (0, u "(I[BI)I"), (48, .integer 53248), (0, u "MAX_CHARACTER_LENGTH"), (0, u "I"), (13, u "surrogate"), (0, u "([BI)I")] 2

def k2m0 : Method := { name := "<init>", desc := "()V", sig := { parameters := [], returnType := none }, accessFlags := 2, code := none }
def k2c1 : Code := { maxStack := 5, maxLocals := 3, code := prog_60_method_2_code, exceptionTable := #[], attributes := #[] }
def k2m1 : Method := { name := "encode", desc := "(I[BI)I", sig := { parameters := [.int, (.array .byte), .int], returnType := some .int }, accessFlags := 8, code := some k2c1 }
def k2c2 : Code := { maxStack := 4, maxLocals := 2, code := prog_60_method_7_code, exceptionTable := #[], attributes := #[] }
def k2m2 : Method := { name := "surrogate", desc := "([BI)I", sig := { parameters := [(.array .byte), .int], returnType := some .int }, accessFlags := 8, code := some k2c2 }
/-- com/example/fieldpare/fieldpare/Utf8 -/
def k2 : Class := { plain "com/example/fieldpare/fieldpare/Utf8" (some 0) with
  accessFlags := 48
  interfaces := #[]
  cf := some (fileOf pool2 25 #[] #[{ accessFlags := 2, nameIndex := 5, descriptorIndex := 6, attributes := #[] }, { accessFlags := 8, nameIndex := 28, descriptorIndex := 29, attributes := #[] }, { accessFlags := 8, nameIndex := 94, descriptorIndex := 95, attributes := #[] }] 48 2 #[] #[{ accessFlags := 24, nameIndex := 79, descriptorIndex := 80, attributes := #[] }])
  fields := #[{ name := "MAX_CHARACTER_LENGTH", type := .int, accessFlags := 24, slot := 0, constantValue := 0 }]
  methods := #[k2m0, k2m1, k2m2]
  instanceTypes := #[]
  staticTypes := #[.int]
  resolved := Array.replicate 98 none
  statics := none }

def pool3 : Array CpInfo := pool [(1, u "java/lang/Cloneable"), (0, .class_ 1), (0, u "java/lang/Object"), (0, .class_ 3)] 3

/-- java/lang/Cloneable -/
def k3 : Class := { plain "java/lang/Cloneable" (some 0) with
  accessFlags := 1537
  interfaces := #[]
  cf := some (fileOf pool3 2 #[] #[] 1537 4 #[] #[])
  fields := #[]
  methods := #[]
  instanceTypes := #[]
  staticTypes := #[]
  resolved := Array.replicate 8 none
  statics := none }

def pool4 : Array CpInfo := pool [(1, u "java/io/Serializable"), (0, .class_ 1), (0, u "java/lang/Object"), (0, .class_ 3)] 3

/-- java/io/Serializable -/
def k4 : Class := { plain "java/io/Serializable" (some 0) with
  accessFlags := 1537
  interfaces := #[]
  cf := some (fileOf pool4 2 #[] #[] 1537 4 #[] #[])
  fields := #[]
  methods := #[]
  instanceTypes := #[]
  staticTypes := #[]
  resolved := Array.replicate 8 none
  statics := none }

/-- the primitive byte -/
def k5 : Class := { plain "byte" none with kind := .primitive 'B', accessFlags := 0x411 }
/-- [B -/
def k6 : Class := { plain "[B" (some 0) with kind := .array 5 .byte, interfaces := #[3, 4], accessFlags := 1041 }

/-- the primitive int -/
def k7 : Class := { plain "int" none with kind := .primitive 'I', accessFlags := 0x411 }
/-- [I -/
def k8 : Class := { plain "[I" (some 0) with kind := .array 7 .int, interfaces := #[3, 4], accessFlags := 1041 }

def heap : Heap := #[]
def classes : Array Class := #[k0, k1, k2, k3, k4, k5, k6, k7, k8]
def interned : List (Array UInt16 × Addr) := []
def slotsUsed : Nat := 0
def theMethod : MethodId := ⟨1, 1⟩
def args0 : Array Value := #[.int 5, .int 7, .int 9, .long 2]
def aboutOver (below : List Frame) : State where
  vm := { classes := classes, interned := interned.toArray }
  heap := heap
  slotsUsed := slotsUsed
  threads := #[{ frames := .invoking theMethod args0 :: below }]
def below0 : List Frame := [.native { method := ⟨0, 0⟩, args := #[] }]
def about1 : State := aboutOver below0
def p0 : Program := .bare "" "" ""
def e0 : Env := launch0.env 0 0 0
theorem w_frames : about1.frames = Frame.invoking theMethod args0 :: below0 := rfl
set_option maxRecDepth 65536 in
theorem w_args : argsFit about1.vm theMethod args0 = true := by decide +kernel
set_option maxRecDepth 65536 in
theorem w_heap : heapFits about1 = true := by decide +kernel
set_option maxRecDepth 65536 in
theorem w_runnable : about1.curStatus? = some .runnable := by decide +kernel
set_option maxRecDepth 65536 in
theorem w_alone : about1.alone = true := by decide +kernel
set_option maxRecDepth 65536 in
theorem w_named : about1.methodNamed? x = some theMethod := by decide +kernel
set_option maxRecDepth 65536 in
theorem w_hears : about1.hears theMethod below0 = true := by decide +kernel
set_option maxRecDepth 65536 in
theorem w_ripe : about1.ripe theMethod args0 below0 = true := by decide +kernel
theorem w_running : about1.status = .running := rfl
set_option maxRecDepth 65536 in
theorem w_room : about1.hasRoom e0.platform room_1 = true :=
  launch0.hasRoom_least _ room_1 (by decide +kernel) (by decide +kernel) (by decide +kernel) (by decide +kernel) (by decide +kernel) (by decide +kernel)
theorem allAtoms_all (ts : List Jvm.Cond) (a : Array Jvm.Value) (st : Jvm.State) : (allAtoms ts).before a st = ts.all (fun c => c.before a st) := by
  induction ts with
  | nil => rfl
  | cons c t ih =>
    show (Jvm.Cond.and c (allAtoms t)).before a st = _
    rw [Jvm.Cond.before_and, ih, List.all_cons]
def words1 : List Jvm.Cond := Jvm.Cond.code x code maxLocals ret :: tables_1
/-- a 'code' word, met by the world's own term for the bytes: nothing is compared byte by byte -/
theorem code_word {y : MethodName} {bytes : ByteArray} {mx : Nat} {rt : Option FieldType} {a : Array Value} {s : State} {m : MethodId} {meth : Method} {c : Code} (h1 : s.methodNamed? y = some m) (h2 : s.vm.method? m = some meth) (h3 : meth.code = some c) (h4 : c.code = bytes)
    (h5 : (c.maxLocals == mx && c.exceptionTable.isEmpty && decide (c.maxStack ≤ mostOperands) && decide (meth.sig.returnType = rt) && !meth.locks && decide (parseMethodDescriptor y.desc = some meth.sig)) = true) : (Jvm.Cond.code y bytes mx rt).before a s = true := by
  simp only [Bool.and_eq_true, beq_iff_eq, Bool.not_eq_true', decide_eq_true_eq] at h5
  obtain ⟨⟨⟨⟨⟨g1, g2⟩, g3⟩, g4⟩, g5⟩, g6⟩ := h5
  simp [Cond.before, Cond.holds, Cond.value, h1, h2, h3, h4, g1, g2, g3, g4, g5, g6]
def isCode : Jvm.Cond → Bool
  | .code _ _ _ _ => true
  | _ => false
theorem all_split {L : List Jvm.Cond} {P : Jvm.Cond → Bool} (h1 : L.all (fun c => isCode c || P c) = true) (h2 : ∀ c ∈ L.filter isCode, P c = true) : L.all P = true := by
  refine List.all_eq_true.mpr fun c hc => ?_
  have h := List.all_eq_true.mp h1 c hc
  rcases Bool.eq_false_or_eq_true (isCode c) with hi | hi
  · exact h2 c (List.mem_filter.mpr ⟨hc, hi⟩)
  · simpa [hi] using h
set_option maxRecDepth 65536 in
theorem w_c0 : (Jvm.Cond.code x code maxLocals ret).before args0 about1 = true := code_word (m := ⟨1, 1⟩) (meth := k1m1) (c := k1c1) (by decide +kernel) rfl rfl rfl (by decide +kernel)
set_option maxRecDepth 65536 in
theorem w_c1 : (Jvm.Cond.code ({ cls := "com/example/fieldpare/fieldpare/Utf8", name := "encode", desc := "(I[BI)I" } : Jvm.MethodName) prog_60_method_2_code (3 : Nat) (Option.some Jvm.ClassFile.FieldType.int)).before args0 about1 = true := code_word (m := ⟨2, 1⟩) (meth := k2m1) (c := k2c1) (by decide +kernel) rfl rfl rfl (by decide +kernel)
set_option maxRecDepth 65536 in
theorem w_c2 : (Jvm.Cond.code ({ cls := "com/example/fieldpare/fieldpare/Utf8", name := "surrogate", desc := "([BI)I" } : Jvm.MethodName) prog_60_method_7_code (2 : Nat) (Option.some Jvm.ClassFile.FieldType.int)).before args0 about1 = true := code_word (m := ⟨2, 2⟩) (meth := k2m2) (c := k2c2) (by decide +kernel) rfl rfl rfl (by decide +kernel)
def codes1 : List Jvm.Cond := [Jvm.Cond.code x code maxLocals ret, Jvm.Cond.code ({ cls := "com/example/fieldpare/fieldpare/Utf8", name := "encode", desc := "(I[BI)I" } : Jvm.MethodName) prog_60_method_2_code (3 : Nat) (Option.some Jvm.ClassFile.FieldType.int), Jvm.Cond.code ({ cls := "com/example/fieldpare/fieldpare/Utf8", name := "surrogate", desc := "([BI)I" } : Jvm.MethodName) prog_60_method_7_code (2 : Nat) (Option.some Jvm.ClassFile.FieldType.int)]
set_option maxRecDepth 65536 in
theorem codes_eq : words1.filter isCode = codes1 := rfl
theorem w_codes : ∀ c ∈ words1.filter isCode, c.before args0 about1 = true := by
  rw [codes_eq]
  intro c hc
  simp only [codes1, List.mem_cons, List.not_mem_nil, or_false] at hc
  rcases hc with rfl | rfl | rfl
  · exact w_c0
  · exact w_c1
  · exact w_c2
set_option maxRecDepth 65536 in
theorem w_t1 : words1.all (fun c => isCode c || c.before args0 about1) = true := by decide +kernel
theorem w_tables : (allAtoms (Jvm.Cond.code x code maxLocals ret :: tables_1)).before args0 about1 = true := by
  rw [allAtoms_all]
  show words1.all (fun c => c.before args0 about1) = true
  refine all_split ?_ w_codes
  rw [w_t1]
set_option maxRecDepth 65536 in
theorem w_case : (Jvm.Cond.and given_1 narrow_1).before args0 about1 = true := by decide +kernel
theorem w_applies : (headSpec (Jvm.Cond.code x code maxLocals ret :: tables_1) room_1).applies x e0.platform about1 = true :=
  (Spec.applies_iff w_frames).mpr ⟨w_running, w_runnable, w_alone, w_named, w_hears, w_ripe, w_room, w_tables⟩
theorem atStart : AtStart classFile x code maxLocals ret World_1 tables_1 room_1 Calls_1 rest_1 Pre_1 launch0 p0 e0 about1 theMethod args0 below0 :=
  ⟨lists_1, trivial, launch0.admits_env _ _ _, launch0.least_env, fairChoices_fair.cas, fairChoices_fair.clock, w_frames, w_args, w_heap, w_applies, trivial, trivial, w_case⟩
end start1
theorem witness_1 : WitnessClaimed_1 := ⟨start1.p0, start1.e0, start1.about1, start1.theMethod, start1.args0, start1.below0, start1.atStart⟩
end Jvm.Pilot.@@N@@
