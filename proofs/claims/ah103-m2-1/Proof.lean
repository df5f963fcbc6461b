import JvmDerived
import JvmDerived.Pilot.@@N@@Statement
import JvmDerived.Pilot.@@N@@Code
set_option linter.unusedVariables false
set_option linter.unusedSimpArgs false
namespace Jvm.Pilot.@@N@@
open Jvm Jvm.ClassFile Sem Op Lib Jvm.Free Jvm.Stand Jvm.LawKit Jvm.RoadKit Bundle Jvm.Pilot.@@N@@.Jvm.D
section Own
set_option maxHeartbeats 4000000
variable {p : Program} {l : Launch} {e : Env} {R : Room} {s : State} {m : MethodId} {args : Array Value} {below : List Frame} {meth : Method} {c : Code} {T : State} {locs : List Loc} {cells slots : Nat} {Z : State} {a0 : Array Value} {h : Heap} {own nm : String} {bytes : ByteArray} {ml : Nat} {rt : Option FieldType} {Q : Option Value → Heap → List Loc → Prop} {CC SS : Nat} {E : Outcome → State → Prop} {pc : Nat} {Ls : Array Slot} {St : List Value}
def Ctx (p : Program) (s : State) (m : MethodId) (meth : Method) (c : Code) (Z : State) (own nm : String) (bytes : ByteArray) (ml : Nat) (rt : Option FieldType) : Prop :=
  p.tables.exec = Jvm.exec ∧ Z.Warmed39 s.vm ∧ c.code = bytes ∧ c.maxLocals = ml ∧ s.vm.findClass own = some m.cls ∧ meth.locks = false ∧ meth.sig.returnType = rt ∧ meth.name = nm
theorem Ctx.c_x (C : Ctx p s m meth c Z own nm bytes ml rt) : p.tables.exec = Jvm.exec := C.1
theorem Ctx.c_z (C : Ctx p s m meth c Z own nm bytes ml rt) : Z.Warmed39 s.vm := C.2.1
theorem Ctx.c_by (C : Ctx p s m meth c Z own nm bytes ml rt) : c.code = bytes := C.2.2.1
theorem Ctx.c_ml (C : Ctx p s m meth c Z own nm bytes ml rt) : c.maxLocals = ml := C.2.2.2.1
theorem Ctx.c_own (C : Ctx p s m meth c Z own nm bytes ml rt) : s.vm.findClass own = some m.cls := C.2.2.2.2.1
theorem Ctx.c_lk (C : Ctx p s m meth c Z own nm bytes ml rt) : meth.locks = false := C.2.2.2.2.2.1
theorem Ctx.c_rt (C : Ctx p s m meth c Z own nm bytes ml rt) : meth.sig.returnType = rt := C.2.2.2.2.2.2.1
theorem Ctx.c_nm (C : Ctx p s m meth c Z own nm bytes ml rt) : meth.name = nm := C.2.2.2.2.2.2.2
def EndN (s : State) (Q : Option Value → Heap → List Loc → Prop) (CC SS : Nat) (o : Outcome) (t : State) : Prop := ∃ v L, o = .returned v ∧ Q v t.heap L ∧ FrameEnd s o t L CC SS
def Goes (p : Program) (e : Env) (below : List Frame) (E : Outcome → State → Prop) (T : State) (m : MethodId) (pc : Nat) (Ls : Array Slot) (St : List Value) : Prop :=
  ∃ s₂ o, Steps p.tables e below (T.setTop (mkF m pc Ls St)) s₂ ∧ s₂.status = .running ∧ Ended s₂ below o ∧ E o s₂
theorem Goes.back {T' : State} {q : Nat} {Ls' : Array Slot} {St' : List Value} (k : Goes p e below E T' m q Ls' St') (f : ∀ t, Steps p.tables e below (T'.setTop (mkF m q Ls' St')) t → Steps p.tables e below (T.setTop (mkF m pc Ls St)) t) : Goes p e below E T m pc Ls St := by
  obtain ⟨s2, o, h1, h2⟩ := k
  exact ⟨s2, o, f _ h1, h2⟩
theorem Goes.enter {g : JFrame} (hg : g = mkF m 0 Ls []) (k : Goes p e below (EndN s Q CC SS) T m 0 Ls []) : ∃ s₂ o, Steps p.tables e below (T.setTop g) s₂ ∧ s₂.status = .running ∧ Ended s₂ below o ∧ ∃ v L, o = .returned v ∧ Q v s₂.heap L ∧ FrameEnd s o s₂ L CC SS := by
  subst hg
  exact k
theorem Ctx.of {x : MethodName} {S : Spec} {s₁ : State} (Bd : BodyLoose p l x S bytes ml rt e s m args below meth c s₁) (hml : c.maxLocals = ml) (hZ : Z.Warmed39 s.vm) : Ctx p s m meth c Z x.cls x.name bytes ml rt :=
  ⟨Bd.exec, hZ, Bd.bytes, hml, findClass_of_methodNamed Bd.named, Bd.notSynchronized, Bd.returns, (name_of_methodNamed Bd.named Bd.method).1⟩
theorem g_iadd (q : Nat) (hq : pc + 1 = q) (C : Ctx p s m meth c Z own nm bytes ml rt) (X : Stand p l e R s m args below meth c T locs cells slots) {x y : Int32} (hd : decode bytes pc = .ok (.iadd, 1)) (k : Goes p e below E T m q Ls (.int (x + y) :: St)) : Goes p e below E T m pc Ls (.int y :: .int x :: St) := by
  subst hq
  exact k.back fun t kt => XS.iadd (g := mkF m pc Ls (.int y :: .int x :: St)) X.here C.c_x rfl (hb C.c_by hd) rfl kt
theorem g_isub (q : Nat) (hq : pc + 1 = q) (C : Ctx p s m meth c Z own nm bytes ml rt) (X : Stand p l e R s m args below meth c T locs cells slots) {x y : Int32} (hd : decode bytes pc = .ok (.isub, 1)) (k : Goes p e below E T m q Ls (.int (x - y) :: St)) : Goes p e below E T m pc Ls (.int y :: .int x :: St) := by
  subst hq
  exact k.back fun t kt => XS.isub (g := mkF m pc Ls (.int y :: .int x :: St)) X.here C.c_x rfl (hb C.c_by hd) rfl kt
theorem g_iand (q : Nat) (hq : pc + 1 = q) (C : Ctx p s m meth c Z own nm bytes ml rt) (X : Stand p l e R s m args below meth c T locs cells slots) {x y : Int32} (hd : decode bytes pc = .ok (.iand, 1)) (k : Goes p e below E T m q Ls (.int (x &&& y) :: St)) : Goes p e below E T m pc Ls (.int y :: .int x :: St) := by
  subst hq
  exact k.back fun t kt => XS.iand (g := mkF m pc Ls (.int y :: .int x :: St)) X.here C.c_x rfl (hb C.c_by hd) rfl kt
theorem g_iushr (q : Nat) (hq : pc + 1 = q) (C : Ctx p s m meth c Z own nm bytes ml rt) (X : Stand p l e R s m args below meth c T locs cells slots) {x y : Int32} (hd : decode bytes pc = .ok (.iushr, 1)) (k : Goes p e below E T m q Ls (.int ((x.toUInt32 >>> (y &&& 31).toUInt32).toInt32) :: St)) : Goes p e below E T m pc Ls (.int y :: .int x :: St) := by
  subst hq
  exact k.back fun t kt => XS.iushr (g := mkF m pc Ls (.int y :: .int x :: St)) X.here C.c_x rfl (hb C.c_by hd) rfl kt
theorem g_i2c (q : Nat) (hq : pc + 1 = q) (C : Ctx p s m meth c Z own nm bytes ml rt) (X : Stand p l e R s m args below meth c T locs cells slots) {x : Int32} (hd : decode bytes pc = .ok (.i2c, 1)) (k : Goes p e below E T m q Ls (.int (x.toUInt32.toUInt16.toUInt32.toInt32) :: St)) : Goes p e below E T m pc Ls (.int x :: St) := by
  subst hq
  exact k.back fun t kt => XS.i2c (g := mkF m pc Ls (.int x :: St)) X.here C.c_x rfl (hb C.c_by hd) rfl kt
theorem g_iconst (q : Nat) (hq : pc + 1 = q) (C : Ctx p s m meth c Z own nm bytes ml rt) (X : Stand p l e R s m args below meth c T locs cells slots) {i : Int} (v : Int32) (hd : decode bytes pc = .ok (.iconst i, 1)) (hv : Int32.ofInt i = v) (k : Goes p e below E T m q Ls (.int v :: St)) : Goes p e below E T m pc Ls St := by
  subst hq
  exact k.back fun t kt => XS.iconst (g := mkF m pc Ls St) X.here C.c_x rfl (hb C.c_by hd) (by subst hv; exact kt)
theorem g_bipush (q : Nat) (hq : pc + 2 = q) (C : Ctx p s m meth c Z own nm bytes ml rt) (X : Stand p l e R s m args below meth c T locs cells slots) {i : Int} (v : Int32) (hd : decode bytes pc = .ok (.bipush i, 2)) (hv : (Int8.ofInt i).toInt32 = v) (k : Goes p e below E T m q Ls (.int v :: St)) : Goes p e below E T m pc Ls St := by
  subst hq
  exact k.back fun t kt => XS.bipush (g := mkF m pc Ls St) X.here C.c_x rfl (hb C.c_by hd) (by subst hv; exact kt)
theorem g_iloadN (q : Nat) (hq : pc + 1 = q) (C : Ctx p s m meth c Z own nm bytes ml rt) (X : Stand p l e R s m args below meth c T locs cells slots) {k0 : Fin 4} {v : Int32} (hd : decode bytes pc = .ok (.iload_n k0, 1)) (hl : Ls[k0.val]? = some (.val (.int v))) (k : Goes p e below E T m q Ls (.int v :: St)) : Goes p e below E T m pc Ls St := by
  subst hq
  exact k.back fun t kt => XS.iloadN (g := mkF m pc Ls St) X.here C.c_x rfl (hb C.c_by hd) hl kt
theorem g_iload (q : Nat) (hq : pc + 2 = q) (C : Ctx p s m meth c Z own nm bytes ml rt) (X : Stand p l e R s m args below meth c T locs cells slots) {k0 : Nat} {v : Int32} (hd : decode bytes pc = .ok (.iload k0, 2)) (hl : Ls[k0]? = some (.val (.int v))) (k : Goes p e below E T m q Ls (.int v :: St)) : Goes p e below E T m pc Ls St := by
  subst hq
  exact k.back fun t kt => XS.iload (g := mkF m pc Ls St) X.here C.c_x rfl (hb C.c_by hd) hl kt
theorem g_aloadN (q : Nat) (hq : pc + 1 = q) (C : Ctx p s m meth c Z own nm bytes ml rt) (X : Stand p l e R s m args below meth c T locs cells slots) {k0 : Fin 4} {v : Value} (hd : decode bytes pc = .ok (.aload_n k0, 1)) (hl : Ls[k0.val]? = some (.val v)) (hv : v.isRef = true) (k : Goes p e below E T m q Ls (v :: St)) : Goes p e below E T m pc Ls St := by
  subst hq
  exact k.back fun t kt => XS.aloadN (g := mkF m pc Ls St) X.here C.c_x rfl (hb C.c_by hd) hl hv kt
theorem g_aload (q : Nat) (hq : pc + 2 = q) (C : Ctx p s m meth c Z own nm bytes ml rt) (X : Stand p l e R s m args below meth c T locs cells slots) {k0 : Nat} {v : Value} (hd : decode bytes pc = .ok (.aload k0, 2)) (hl : Ls[k0]? = some (.val v)) (hv : v.isRef = true) (k : Goes p e below E T m q Ls (v :: St)) : Goes p e below E T m pc Ls St := by
  subst hq
  exact k.back fun t kt => XS.aload (g := mkF m pc Ls St) X.here C.c_x rfl (hb C.c_by hd) hl hv kt
theorem g_istore (q : Nat) (hq : pc + 2 = q) (C : Ctx p s m meth c Z own nm bytes ml rt) (X : Stand p l e R s m args below meth c T locs cells slots) {k0 : Nat} {x : Int32} (v : Int32) (hv : x = v) (Ls' : Array Slot) (hd : decode bytes pc = .ok (.istore k0, 2)) (hl : storeLocals Ls k0 (.int v) = some Ls') (k : Goes p e below E T m q Ls' St) : Goes p e below E T m pc Ls (.int x :: St) := by
  subst hq
  exact k.back fun t kt => XS.istore (g := mkF m pc Ls (.int x :: St)) X.here C.c_x rfl (hb C.c_by hd) rfl (by subst hv; exact hl) kt
theorem g_astore (q : Nat) (hq : pc + 2 = q) (C : Ctx p s m meth c Z own nm bytes ml rt) (X : Stand p l e R s m args below meth c T locs cells slots) {k0 : Nat} {x : Value} (Ls' : Array Slot) (hd : decode bytes pc = .ok (.astore k0, 2)) (hv : x.isRef = true) (hl : storeLocals Ls k0 x = some Ls') (k : Goes p e below E T m q Ls' St) : Goes p e below E T m pc Ls (x :: St) := by
  subst hq
  exact k.back fun t kt => XS.astore (g := mkF m pc Ls (x :: St)) X.here C.c_x rfl (hb C.c_by hd) rfl hv hl kt
theorem g_iinc (q : Nat) (hq : pc + 3 = q) (C : Ctx p s m meth c Z own nm bytes ml rt) (X : Stand p l e R s m args below meth c T locs cells slots) {k0 : Nat} {i : Int} {x : Int32} (w v : Int32) (Ls' : Array Slot) (hd : decode bytes pc = .ok (.iinc k0 i, 3)) (hw : Int32.ofInt i = w) (hl : Ls[k0]? = some (.val (.int x))) (hv : x + w = v) (hl' : storeLocals Ls k0 (.int v) = some Ls') (k : Goes p e below E T m q Ls' St) : Goes p e below E T m pc Ls St := by
  subst hq
  exact k.back fun t kt => XS.iinc (g := mkF m pc Ls St) X.here C.c_x rfl (hb C.c_by hd) hl (by subst hw hv; exact hl') kt
theorem g_goto (q : Nat) (C : Ctx p s m meth c Z own nm bytes ml rt) (X : Stand p l e R s m args below meth c T locs cells slots) {o : Int} (hd : decode bytes pc = .ok (.goto o, 3)) (ho : 0 ≤ (pc : Int) + o) (hp : ((pc : Int) + o).toNat = q) (k : Goes p e below E T m q Ls St) : Goes p e below E T m pc Ls St :=
  k.back fun t kt => XS.goto (g := mkF m pc Ls St) X.here C.c_x rfl (pc0 := pc) (pc' := q) rfl (hb C.c_by hd) ho hp kt
theorem own_z0 : (0 : Int32).toInt = 0 := rfl
theorem own_0lt {x : Int32} : (0 : Int32) < x ↔ 0 < x.toInt := Int32.lt_iff_toInt_lt
theorem own_lt0 {x : Int32} : x < (0 : Int32) ↔ x.toInt < 0 := Int32.lt_iff_toInt_lt
theorem own_eq0 {x : Int32} : x = (0 : Int32) ↔ x.toInt = 0 := Int32.toInt_inj.symm
theorem g_icmp_lt_t (q : Nat) (C : Ctx p s m meth c Z own nm bytes ml rt) (X : Stand p l e R s m args below meth c T locs cells slots) {o : Int} {x y : Int32} (hd : decode bytes pc = .ok (.if_icmp .lt o, 3)) (ho : 0 ≤ (pc : Int) + o) (hp : ((pc : Int) + o).toNat = q) (h : x.toInt < y.toInt) (k : Goes p e below E T m q Ls St) : Goes p e below E T m pc Ls (.int y :: .int x :: St) :=
  k.back fun t kt => XS.icmpYes (g := mkF m pc Ls (.int y :: .int x :: St)) X.here C.c_x rfl (pc0 := pc) (pc' := q) rfl (hb C.c_by hd) rfl (tlt (Int32.lt_iff_toInt_lt.mpr h)).1 ho hp kt
theorem g_icmp_lt_f (q : Nat) (hq : pc + 3 = q) (C : Ctx p s m meth c Z own nm bytes ml rt) (X : Stand p l e R s m args below meth c T locs cells slots) {o : Int} {x y : Int32} (hd : decode bytes pc = .ok (.if_icmp .lt o, 3)) (h : ¬ x.toInt < y.toInt) (k : Goes p e below E T m q Ls St) : Goes p e below E T m pc Ls (.int y :: .int x :: St) := by
  subst hq
  exact k.back fun t kt => XS.icmpNo (g := mkF m pc Ls (.int y :: .int x :: St)) X.here C.c_x rfl (hb C.c_by hd) rfl (flt (fun r => h (Int32.lt_iff_toInt_lt.mp r))).1 kt
theorem g_icmp_ge_t (q : Nat) (C : Ctx p s m meth c Z own nm bytes ml rt) (X : Stand p l e R s m args below meth c T locs cells slots) {o : Int} {x y : Int32} (hd : decode bytes pc = .ok (.if_icmp .ge o, 3)) (ho : 0 ≤ (pc : Int) + o) (hp : ((pc : Int) + o).toNat = q) (h : ¬ x.toInt < y.toInt) (k : Goes p e below E T m q Ls St) : Goes p e below E T m pc Ls (.int y :: .int x :: St) :=
  k.back fun t kt => XS.icmpYes (g := mkF m pc Ls (.int y :: .int x :: St)) X.here C.c_x rfl (pc0 := pc) (pc' := q) rfl (hb C.c_by hd) rfl (flt (fun r => h (Int32.lt_iff_toInt_lt.mp r))).2.1 ho hp kt
theorem g_icmp_ge_f (q : Nat) (hq : pc + 3 = q) (C : Ctx p s m meth c Z own nm bytes ml rt) (X : Stand p l e R s m args below meth c T locs cells slots) {o : Int} {x y : Int32} (hd : decode bytes pc = .ok (.if_icmp .ge o, 3)) (h : x.toInt < y.toInt) (k : Goes p e below E T m q Ls St) : Goes p e below E T m pc Ls (.int y :: .int x :: St) := by
  subst hq
  exact k.back fun t kt => XS.icmpNo (g := mkF m pc Ls (.int y :: .int x :: St)) X.here C.c_x rfl (hb C.c_by hd) rfl (tlt (Int32.lt_iff_toInt_lt.mpr h)).2.1 kt
theorem g_icmp_le_t (q : Nat) (C : Ctx p s m meth c Z own nm bytes ml rt) (X : Stand p l e R s m args below meth c T locs cells slots) {o : Int} {x y : Int32} (hd : decode bytes pc = .ok (.if_icmp .le o, 3)) (ho : 0 ≤ (pc : Int) + o) (hp : ((pc : Int) + o).toNat = q) (h : ¬ y.toInt < x.toInt) (k : Goes p e below E T m q Ls St) : Goes p e below E T m pc Ls (.int y :: .int x :: St) :=
  k.back fun t kt => XS.icmpYes (g := mkF m pc Ls (.int y :: .int x :: St)) X.here C.c_x rfl (pc0 := pc) (pc' := q) rfl (hb C.c_by hd) rfl (flt (fun r => h (Int32.lt_iff_toInt_lt.mp r))).2.2.2 ho hp kt
theorem g_if_le_t (q : Nat) (C : Ctx p s m meth c Z own nm bytes ml rt) (X : Stand p l e R s m args below meth c T locs cells slots) {o : Int} {x : Int32} (hd : decode bytes pc = .ok (.ifCond .le o, 3)) (ho : 0 ≤ (pc : Int) + o) (hp : ((pc : Int) + o).toNat = q) (h : ¬ 0 < x.toInt) (k : Goes p e below E T m q Ls St) : Goes p e below E T m pc Ls (.int x :: St) :=
  k.back fun t kt => XS.ifYes (g := mkF m pc Ls (.int x :: St)) X.here C.c_x rfl (pc0 := pc) (pc' := q) rfl (hb C.c_by hd) rfl ((if0 _ _).trans (flt (fun r => h (own_0lt.mp r))).2.2.2) ho hp kt
theorem g_icmp_le_f (q : Nat) (hq : pc + 3 = q) (C : Ctx p s m meth c Z own nm bytes ml rt) (X : Stand p l e R s m args below meth c T locs cells slots) {o : Int} {x y : Int32} (hd : decode bytes pc = .ok (.if_icmp .le o, 3)) (h : y.toInt < x.toInt) (k : Goes p e below E T m q Ls St) : Goes p e below E T m pc Ls (.int y :: .int x :: St) := by
  subst hq
  exact k.back fun t kt => XS.icmpNo (g := mkF m pc Ls (.int y :: .int x :: St)) X.here C.c_x rfl (hb C.c_by hd) rfl (tlt (Int32.lt_iff_toInt_lt.mpr h)).2.2.2 kt
theorem g_if_le_f (q : Nat) (hq : pc + 3 = q) (C : Ctx p s m meth c Z own nm bytes ml rt) (X : Stand p l e R s m args below meth c T locs cells slots) {o : Int} {x : Int32} (hd : decode bytes pc = .ok (.ifCond .le o, 3)) (h : 0 < x.toInt) (k : Goes p e below E T m q Ls St) : Goes p e below E T m pc Ls (.int x :: St) := by
  subst hq
  exact k.back fun t kt => XS.ifNo (g := mkF m pc Ls (.int x :: St)) X.here C.c_x rfl (hb C.c_by hd) rfl ((if0 _ _).trans (tlt (own_0lt.mpr h)).2.2.2) kt
theorem g_icmp_eq_t (q : Nat) (C : Ctx p s m meth c Z own nm bytes ml rt) (X : Stand p l e R s m args below meth c T locs cells slots) {o : Int} {x y : Int32} (hd : decode bytes pc = .ok (.if_icmp .eq o, 3)) (ho : 0 ≤ (pc : Int) + o) (hp : ((pc : Int) + o).toNat = q) (h : x.toInt = y.toInt) (k : Goes p e below E T m q Ls St) : Goes p e below E T m pc Ls (.int y :: .int x :: St) :=
  k.back fun t kt => XS.icmpYes (g := mkF m pc Ls (.int y :: .int x :: St)) X.here C.c_x rfl (pc0 := pc) (pc' := q) rfl (hb C.c_by hd) rfl (teq (Int32.toInt_inj.mp h)).1 ho hp kt
theorem g_if_eq_t (q : Nat) (C : Ctx p s m meth c Z own nm bytes ml rt) (X : Stand p l e R s m args below meth c T locs cells slots) {o : Int} {x : Int32} (hd : decode bytes pc = .ok (.ifCond .eq o, 3)) (ho : 0 ≤ (pc : Int) + o) (hp : ((pc : Int) + o).toNat = q) (h : x.toInt = 0) (k : Goes p e below E T m q Ls St) : Goes p e below E T m pc Ls (.int x :: St) :=
  k.back fun t kt => XS.ifYes (g := mkF m pc Ls (.int x :: St)) X.here C.c_x rfl (pc0 := pc) (pc' := q) rfl (hb C.c_by hd) rfl ((if0 _ _).trans (teq (own_eq0.mpr h)).1) ho hp kt
theorem g_icmp_eq_f (q : Nat) (hq : pc + 3 = q) (C : Ctx p s m meth c Z own nm bytes ml rt) (X : Stand p l e R s m args below meth c T locs cells slots) {o : Int} {x y : Int32} (hd : decode bytes pc = .ok (.if_icmp .eq o, 3)) (h : ¬ x.toInt = y.toInt) (k : Goes p e below E T m q Ls St) : Goes p e below E T m pc Ls (.int y :: .int x :: St) := by
  subst hq
  exact k.back fun t kt => XS.icmpNo (g := mkF m pc Ls (.int y :: .int x :: St)) X.here C.c_x rfl (hb C.c_by hd) rfl (feq (fun r => h (congrArg Int32.toInt r))).1 kt
theorem g_if_eq_f (q : Nat) (hq : pc + 3 = q) (C : Ctx p s m meth c Z own nm bytes ml rt) (X : Stand p l e R s m args below meth c T locs cells slots) {o : Int} {x : Int32} (hd : decode bytes pc = .ok (.ifCond .eq o, 3)) (h : ¬ x.toInt = 0) (k : Goes p e below E T m q Ls St) : Goes p e below E T m pc Ls (.int x :: St) := by
  subst hq
  exact k.back fun t kt => XS.ifNo (g := mkF m pc Ls (.int x :: St)) X.here C.c_x rfl (hb C.c_by hd) rfl ((if0 _ _).trans (feq (fun r => h (own_eq0.mp r))).1) kt
theorem g_icmp_ne_t (q : Nat) (C : Ctx p s m meth c Z own nm bytes ml rt) (X : Stand p l e R s m args below meth c T locs cells slots) {o : Int} {x y : Int32} (hd : decode bytes pc = .ok (.if_icmp .ne o, 3)) (ho : 0 ≤ (pc : Int) + o) (hp : ((pc : Int) + o).toNat = q) (h : ¬ x.toInt = y.toInt) (k : Goes p e below E T m q Ls St) : Goes p e below E T m pc Ls (.int y :: .int x :: St) :=
  k.back fun t kt => XS.icmpYes (g := mkF m pc Ls (.int y :: .int x :: St)) X.here C.c_x rfl (pc0 := pc) (pc' := q) rfl (hb C.c_by hd) rfl (feq (fun r => h (congrArg Int32.toInt r))).2 ho hp kt
theorem g_if_ne_t (q : Nat) (C : Ctx p s m meth c Z own nm bytes ml rt) (X : Stand p l e R s m args below meth c T locs cells slots) {o : Int} {x : Int32} (hd : decode bytes pc = .ok (.ifCond .ne o, 3)) (ho : 0 ≤ (pc : Int) + o) (hp : ((pc : Int) + o).toNat = q) (h : ¬ x.toInt = 0) (k : Goes p e below E T m q Ls St) : Goes p e below E T m pc Ls (.int x :: St) :=
  k.back fun t kt => XS.ifYes (g := mkF m pc Ls (.int x :: St)) X.here C.c_x rfl (pc0 := pc) (pc' := q) rfl (hb C.c_by hd) rfl ((if0 _ _).trans (feq (fun r => h (own_eq0.mp r))).2) ho hp kt
theorem g_icmp_ne_f (q : Nat) (hq : pc + 3 = q) (C : Ctx p s m meth c Z own nm bytes ml rt) (X : Stand p l e R s m args below meth c T locs cells slots) {o : Int} {x y : Int32} (hd : decode bytes pc = .ok (.if_icmp .ne o, 3)) (h : x.toInt = y.toInt) (k : Goes p e below E T m q Ls St) : Goes p e below E T m pc Ls (.int y :: .int x :: St) := by
  subst hq
  exact k.back fun t kt => XS.icmpNo (g := mkF m pc Ls (.int y :: .int x :: St)) X.here C.c_x rfl (hb C.c_by hd) rfl (teq (Int32.toInt_inj.mp h)).2 kt
theorem g_if_ne_f (q : Nat) (hq : pc + 3 = q) (C : Ctx p s m meth c Z own nm bytes ml rt) (X : Stand p l e R s m args below meth c T locs cells slots) {o : Int} {x : Int32} (hd : decode bytes pc = .ok (.ifCond .ne o, 3)) (h : x.toInt = 0) (k : Goes p e below E T m q Ls St) : Goes p e below E T m pc Ls (.int x :: St) := by
  subst hq
  exact k.back fun t kt => XS.ifNo (g := mkF m pc Ls (.int x :: St)) X.here C.c_x rfl (hb C.c_by hd) rfl ((if0 _ _).trans (teq (own_eq0.mpr h)).2) kt
theorem g_retW (C : Ctx p s m meth c Z own nm bytes ml rt) (X : Stand p l e R s m args below meth c T locs cells slots) {w : Value} {t : FieldType} {i : Instr} (hrt : rt = some t) (hn : narrow t w = w)
    (hi : (i = .ireturn ∧ (t = .int ∨ t = .boolean ∨ t = .byte ∨ t = .char ∨ t = .short) ∧ ∃ z, w = .int z) ∨ (i = .lreturn ∧ t = .long ∧ ∃ z, w = .long z) ∨ (i = .dreturn ∧ t = .double ∧ ∃ z, w = .double z) ∨ (i = .freturn ∧ t = .float ∧ ∃ z, w = .float z) ∨ (i = .areturn ∧ t.isReference = true ∧ w.isRef = true))
    (hd : decode bytes pc = .ok (i, 1)) (eT : T.heap = h) (hc : cells ≤ CC) (hs : slots ≤ SS) (hQ : Q (some w) h locs) : Goes p e below (EndN s Q CC SS) T m pc Ls (w :: St) := by
  obtain ⟨fs, hr, hrun, hended, hW, hsame⟩ := X.leave (v := some w) (fun r => by rw [C.c_rt, hrt] at r; cases r) C.c_lk
  subst eT
  exact ⟨_, _, retOut X C.c_x (C.c_rt.trans hrt) hn hi (hb C.c_by hd) hr, hrun, hended, _, _, rfl, hQ, ⟨_, rfl⟩, hW, hsame.mono hc hs⟩
theorem g_retI (C : Ctx p s m meth c Z own nm bytes ml rt) (X : Stand p l e R s m args below meth c T locs cells slots) {z : Int32} (hrt : rt = some .int) (hd : decode bytes pc = .ok (.ireturn, 1)) (eT : T.heap = h) (hc : cells ≤ CC) (hs : slots ≤ SS) (hQ : Q (some (.int z)) h locs) : Goes p e below (EndN s Q CC SS) T m pc Ls (.int z :: St) :=
  g_retW C X hrt rfl (Or.inl ⟨rfl, Or.inl rfl, z, rfl⟩) hd eT hc hs hQ
theorem g_retN (C : Ctx p s m meth c Z own nm bytes ml rt) (X : Stand p l e R s m args below meth c T locs cells slots) {z z' : Int32} {t : FieldType} (hrt : rt = some t) (ht : t = .boolean ∨ t = .byte ∨ t = .char ∨ t = .short) (hd : decode bytes pc = .ok (.ireturn, 1)) (eT : T.heap = h) (hc : cells ≤ CC) (hs : slots ≤ SS) (hz : nar t z = z') (hQ : Q (some (.int z')) h locs) : Goes p e below (EndN s Q CC SS) T m pc Ls (.int z :: St) := by
  obtain ⟨fs, hr, hrun, hended, hW, hsame⟩ := X.leave (v := some (.int (nar t z))) (fun r => by rw [C.c_rt, hrt] at r; cases r) C.c_lk
  subst eT
  subst hz
  exact ⟨_, _, retN X C.c_x (C.c_rt.trans hrt) ht (hb C.c_by hd) hr, hrun, hended, _, _, rfl, hQ, ⟨_, rfl⟩, hW, hsame.mono hc hs⟩
def Ba (Z : State) (h : Heap) (a : Addr) (ty : FieldType) (n : Nat) (f : Nat → Int32) : Prop := ∃ c : Cell, Arr Z h a c ty ∧ c.slots.size = n ∧ n < 2 ^ 31 ∧ (∀ k, k < n → c.slots[k]? = some (.int (f k)))
def upd (f : Nat → Int32) (j : Nat) (v : Int32) : Nat → Int32 := fun k => bif Nat.beq k j then v else f k
theorem upd_same {f : Nat → Int32} {j k : Nat} {v : Int32} (q : k = j) : upd f j v k = v := by subst q; simp [upd]
theorem upd_ne {f : Nat → Int32} {j k : Nat} {v : Int32} (q : k ≠ j) : upd f j v k = f k := by
  have : Nat.beq k j = false := by
    cases hb : Nat.beq k j with
    | false => rfl
    | true => exact absurd (Nat.eq_of_beq_eq_true hb) q
  show (bif Nat.beq k j then v else f k) = f k
  rw [this]; rfl
theorem upd_eq (f : Nat → Int32) (j k : Nat) (v : Int32) : upd f j v k = if k = j then v else f k := by
  split
  · rename_i q; exact upd_same q
  · rename_i q; exact upd_ne q
theorem Ba.lt {a : Addr} {ty : FieldType} {n : Nat} {f : Nat → Int32} (F : Ba Z h a ty n f) : a < h.size := by obtain ⟨c, A, -⟩ := F; exact A.lt
theorem Ba.ext {h' : Heap} {a : Addr} {ty : FieldType} {n : Nat} {f : Nat → Int32} (F : Ba Z h a ty n f) (E : Ext h h') : Ba Z h' a ty n f := by obtain ⟨c, A, r⟩ := F; exact ⟨c, A.ext E, r⟩
theorem Ba.other {h' : Heap} {a b : Addr} {ty : FieldType} {n sl : Nat} {v : Value} {f : Nat → Int32} (F : Ba Z h a ty n f) (W : Wr h h' b sl v) (q : a ≠ b) : Ba Z h' a ty n f := by obtain ⟨c, A, r⟩ := F; exact ⟨c, A.other W q, r⟩
theorem Ba.keep {h' : Heap} {a : Addr} {ty : FieldType} {n : Nat} {ws : List Addr} {f : Nat → Int32} (F : Ba Z h a ty n f) (K : Keep h h' ws) (q : a ∉ ws) : Ba Z h' a ty n f := by obtain ⟨c, A, r⟩ := F; exact ⟨c, ⟨K.2.1 a c A.1 q, A.2⟩, r⟩
theorem Ba.same {h' : Heap} {a : Addr} {ty : FieldType} {n j : Nat} {v : Int32} {f : Nat → Int32} (F : Ba Z h a ty n f) (W : Wr h h' a j (.int v)) : Ba Z h' a ty n (upd f j v) := by
  obtain ⟨c, A, hs, hn, hf⟩ := F
  refine ⟨_, A.same W, by simp [Cell.setSlot, hs], hn, fun k hk => ?_⟩
  rw [upd_eq]
  by_cases q : k = j
  · subst q; simp [Cell.setSlot, hs, hk]
  · rw [if_neg q]; simp only [Cell.setSlot]; rw [Array.getElem?_setIfInBounds_ne (Ne.symm q)]; exact hf k hk
theorem Ba.cong {a : Addr} {ty : FieldType} {n : Nat} {f f' : Nat → Int32} (F : Ba Z h a ty n f) (q : ∀ k, k < n → f k = f' k) : Ba Z h a ty n f' := by
  obtain ⟨c, A, hs, hn, hf⟩ := F
  exact ⟨c, A, hs, hn, fun k hk => by rw [← q k hk]; exact hf k hk⟩
theorem Ba.new {a : Addr} {cA : ClassId} {ty : FieldType} {z : Int32} {n : Nat} (A : Arr Z h a (newA cA ty z) ty) (hz : z.toInt = n) (hd : defaultValue ty = .int 0) : Ba Z h a ty n (fun _ => 0) := by
  have hr := rng32 z
  have hn : z.toNatClampNeg = n := by simp only [Int32.toNatClampNeg, hz]; rfl
  exact ⟨_, A, by rw [sz_new, hn], by omega, fun k hk => by simp [newA, hn, hk, hd]⟩
theorem own_clamp {j : Int32} {k : Nat} (hj : j.toInt = k) : j.toNatClampNeg = k ∧ ¬ j < 0 := by
  refine ⟨by simp only [Int32.toNatClampNeg, hj]; rfl, fun r => ?_⟩
  have := Int32.lt_iff_toInt_lt.mp r
  rw [hj, own_z0] at this; omega
theorem own_in {j : Int32} {k n : Nat} {c : Cell} (hs : c.slots.size = n) (hj : j.toInt = k) (hk : k < n) : ¬ (j < 0 ∨ c.slots.size ≤ j.toNatClampNeg) := by
  obtain ⟨h1, h2⟩ := own_clamp hj
  rw [h1, hs]; intro r; rcases r with r | r
  · exact h2 r
  · omega
theorem own_lenI {n : Nat} (hn : n < 2 ^ 31) : (n.toInt32).toInt = n := by
  have := len_toInt hn
  exact this
theorem g_newP (q : Nat) (hq : pc + 2 = q) (C : Ctx p s m meth c Z own nm bytes ml rt) (X : Stand p l e R s m args below meth c T locs cells slots) {aty : ArrayType} {z : Int32} (n : Nat) (hz : z.toInt = n) (cap : Nat) (hcap : n ≤ cap) (hb' : cap * 8 ≤ 536870912) (hdf : defaultValue (newarray.typeOf aty) = .int 0) (w : (Cond.arrayClass (newarray.typeOf aty)).before a0 Z = true) (eT : T.heap = h) (hd : decode bytes pc = .ok (.newarray aty, 2)) (hc : cells + 1 ≤ R.cells) (hl : slots + cap ≤ R.slots)
    (k : ∀ T' h' a, a = h.size → Stand p l e R s m args below meth c T' locs (cells + 1) (slots + cap) → T'.heap = h' → Ext h h' → Ba Z h' a (newarray.typeOf aty) n (fun _ => 0) → Goes p e below E T' m q Ls (.ref a :: St)) : Goes p e below E T m pc Ls (.int z :: St) := by
  subst hq
  obtain ⟨h1, h2⟩ := own_clamp hz
  obtain ⟨T', h', cA, X', e', E', A', st⟩ := newP X C.c_x C.c_z w eT (g := mkF m pc Ls (.int z :: St)) rfl (hb C.c_by hd) rfl h2 (cap := cap) (by rw [h1]; exact hcap) hb' hc hl
  exact (k T' h' _ rfl X' e' E' (Ba.new A' hz hdf)).back fun t kt => st t kt
theorem g_caload (q : Nat) (hq : pc + 1 = q) (C : Ctx p s m meth c Z own nm bytes ml rt) (X : Stand p l e R s m args below meth c T locs cells slots) {a : Addr} {n : Nat} {f : Nat → Int32} {j : Int32} (eT : T.heap = h) (F : Ba Z h a .char n f) (i : Nat) (hj : j.toInt = i) (hi : i < n) (v : Int32) (hv : f i = v) (hd : decode bytes pc = .ok (.caload, 1)) (k : Goes p e below E T m q Ls (.int v :: St)) : Goes p e below E T m pc Ls (.int j :: .ref a :: St) := by
  subst hq
  obtain ⟨c0, A, hs, hn, hf⟩ := F
  exact k.back fun t kt => X.caload C.c_x (j := j) (v := .int v) (by rw [eT]; exact A.1) (State.isArrayOf_alike C.c_z.alike A.2.1) A.2.2 (own_in hs hj hi) (by rw [(own_clamp hj).1, ← hv]; exact hf i hi) (g := mkF m pc Ls (.int j :: .ref a :: St)) rfl rfl (hb C.c_by hd) t kt
theorem g_iaload (q : Nat) (hq : pc + 1 = q) (C : Ctx p s m meth c Z own nm bytes ml rt) (X : Stand p l e R s m args below meth c T locs cells slots) {a : Addr} {n : Nat} {f : Nat → Int32} {j : Int32} (eT : T.heap = h) (F : Ba Z h a .int n f) (i : Nat) (hj : j.toInt = i) (hi : i < n) (v : Int32) (hv : f i = v) (hd : decode bytes pc = .ok (.iaload, 1)) (k : Goes p e below E T m q Ls (.int v :: St)) : Goes p e below E T m pc Ls (.int j :: .ref a :: St) := by
  subst hq
  obtain ⟨c0, A, hs, hn, hf⟩ := F
  exact k.back fun t kt => X.iaload C.c_x (j := j) (v := .int v) (by rw [eT]; exact A.1) (State.isArrayOf_alike C.c_z.alike A.2.1) A.2.2 (own_in hs hj hi) (by rw [(own_clamp hj).1, ← hv]; exact hf i hi) (g := mkF m pc Ls (.int j :: .ref a :: St)) rfl rfl (hb C.c_by hd) t kt
theorem g_castore (q : Nat) (hq : pc + 1 = q) (C : Ctx p s m meth c Z own nm bytes ml rt) (X : Stand p l e R s m args below meth c T locs cells slots) {a : Addr} {n : Nat} {f : Nat → Int32} {j x : Int32} (eT : T.heap = h) (F : Ba Z h a .char n f) (i : Nat) (hj : j.toInt = i) (hi : i < n) (v : Int32) (hv : x.toUInt32.toUInt16.toUInt32.toInt32 = v) (hd : decode bytes pc = .ok (.castore, 1)) {n0 : Nat} (N : Fr n0 locs) (hn0 : n0 ≤ a)
    (k : ∀ T' h' locs', Stand p l e R s m args below meth c T' locs' cells slots → T'.heap = h' → Wr h h' a i (.int v) → Ba Z h' a .char n (upd f i v) → Fr n0 locs' → Goes p e below E T' m q Ls St) : Goes p e below E T m pc Ls (.int x :: .int j :: .ref a :: St) := by
  subst hq hv
  have F0 := F
  obtain ⟨c0, A, hs, hn, hf⟩ := F
  obtain ⟨T', h', X', e', W', st⟩ := stC X C.c_x C.c_z eT A (j := j) (own_in hs hj hi) (g := mkF m pc Ls (.int x :: .int j :: .ref a :: St)) rfl rfl (hb C.c_by hd)
  rw [(own_clamp hj).1] at W' X'
  exact (k T' h' _ X' e' W' (F0.same W') (Fr.snoc X' N hn0)).back fun t kt => st t kt
theorem g_iastore (q : Nat) (hq : pc + 1 = q) (C : Ctx p s m meth c Z own nm bytes ml rt) (X : Stand p l e R s m args below meth c T locs cells slots) {a : Addr} {n : Nat} {f : Nat → Int32} {j x : Int32} (eT : T.heap = h) (F : Ba Z h a .int n f) (i : Nat) (hj : j.toInt = i) (hi : i < n) (v : Int32) (hv : x = v) (hd : decode bytes pc = .ok (.iastore, 1)) {n0 : Nat} (N : Fr n0 locs) (hn0 : n0 ≤ a)
    (k : ∀ T' h' locs', Stand p l e R s m args below meth c T' locs' cells slots → T'.heap = h' → Wr h h' a i (.int v) → Ba Z h' a .int n (upd f i v) → Fr n0 locs' → Goes p e below E T' m q Ls St) : Goes p e below E T m pc Ls (.int x :: .int j :: .ref a :: St) := by
  subst hq hv
  have F0 := F
  obtain ⟨c0, A, hs, hn, hf⟩ := F
  obtain ⟨T', h', X', e', W', st⟩ := stI X C.c_x C.c_z eT A (j := j) (own_in hs hj hi) (g := mkF m pc Ls (.int x :: .int j :: .ref a :: St)) rfl rfl (hb C.c_by hd)
  rw [(own_clamp hj).1] at W' X'
  exact (k T' h' _ X' e' W' (F0.same W') (Fr.snoc X' N hn0)).back fun t kt => st t kt
theorem own_narByte {b : Int32} (h0 : -128 ≤ b.toInt) (h1 : b.toInt < 128) : b.toInt8.toInt32 = b := by
  have := c_i2b b
  exact Int32.toInt_inj.mp (by omega)
theorem own_fitB {x : Int32} (h0 : -128 ≤ x.toInt) (h1 : x.toInt < 128) : fits .byte (.int x) = true := by
  have e := own_narByte h0 h1
  rw [← e]; exact fits_nar_byte x

theorem g_callS (q : Nat) (hq : pc + 3 = q) (C : Ctx p s m meth c Z own nm bytes ml rt) (X : Stand p l e R s m args below meth c T locs cells slots) {y : MethodName} {bytes' : ByteArray} {maxL' : Nat} {ret' : Option FieldType} {rm : Room} {Q' : Option Value → Heap → List Loc → Prop} {i W : Nat} {argsL : List Value} (w1 : (Cond.methodLink own i y).before a0 Z = true) (w2 : (Cond.static y).before a0 Z = true) (wc : (Cond.code y bytes' maxL' ret').before a0 Z = true) (wz : (Cond.initialized y.cls).before a0 Z = true) (eT : T.heap = h) (M : MetFree l y (head1 [Cond.code y bytes' maxL' ret'] rm) (fun a' U => a' = argsL.toArray ∧ Z.Warmed39 U.vm ∧ U.heap = h) (fun _ _ _ _ _ => True) (fun _ U o U' => ∃ v L, o = .returned v ∧ Q' v U'.heap L ∧ FrameEnd U o U' L rm.cells rm.slots)) (hlen : ∀ sig, parseMethodDescriptor y.desc = some sig → argsL.length = sig.parameters.length) (hf : rm.frames + 1 ≤ R.frames) (hl : W + (maxL' + 11) + rm.locals ≤ R.locals) (hc : cells + rm.cells ≤ R.cells) (hsl : slots + rm.slots ≤ R.slots) (hsz : Ls.size = ml) (hW : (St.map fun v => v.category).sum ≤ W) (hy : y.cls ≠ "java/lang/invoke/MethodHandle" ∧ y.cls ≠ "java/lang/invoke/VarHandle") (hd : decode bytes pc = .ok (.invokestatic i, 3)) {St0 : List Value} (hst : St0 = argsL.reverse ++ St)
    (k : ∀ v T' L, Stand p l e R s m args below meth c T' (locs ++ L) (cells + rm.cells) (slots + rm.slots) → Q' v T'.heap L → Goes p e below E T' m q Ls (v.toList ++ St)) : Goes p e below E T m pc Ls St0 := by
  subst hq hst
  obtain ⟨v, _, ⟨T', L', k', n'⟩, -, X', ⟨Lc, hQ', l', y', z'⟩, st⟩ := Jvm.LawKit.callS X C.c_x (y := y) C.c_own (mvT C.c_z w1) (mvT C.c_z w2) (mvT C.c_z wz) (mvT C.c_z wc) hy (backOf (W := W) M C.c_z wc wz hf hl) (g := mkF m pc Ls (argsL.reverse ++ St)) rfl (hsz.trans C.c_ml.symm) (argsL := argsL) (rest := St) hlen rfl (by show 2 * 0 + _ ≤ _; omega) (hb C.c_by hd) (fun _ _ => ⟨rfl, eT, hc, hsl⟩)
  dsimp only [Pt.U, Pt.locs, Pt.cells, Pt.slots] at X' l' y' z' st hQ'
  subst l' y' z'
  exact (k v T' Lc X' hQ').back fun t kt => st t kt
end Own
section OwnArith
theorem own_mulc (x y : Int32) (k : Int) (hk : y.toInt = k) : ((x * y).toInt - x.toInt * k) % 4294967296 = 0 := hk ▸ c_imul x y
theorem own_mulc' (x y : Int32) (k : Int) (hk : x.toInt = k) : ((x * y).toInt - k * y.toInt) % 4294967296 = 0 := hk ▸ c_imul x y
theorem own_lmulc (x y : Int64) (k : Int) (hk : y.toInt = k) : ((x * y).toInt - x.toInt * k) % 18446744073709551616 = 0 := hk ▸ c_lmul x y
theorem own_lmulc' (x y : Int64) (k : Int) (hk : x.toInt = k) : ((x * y).toInt - k * y.toInt) % 18446744073709551616 = 0 := hk ▸ c_lmul x y
theorem own_bvor (x y : BitVec 32) : (x ||| y) + (x &&& y) = x + y := by
  have h1 : x = (x &&& y) + (x &&& ~~~y) := by
    rw [BitVec.add_eq_or_of_and_eq_zero]
    · ext i; simp; cases x[i] <;> cases y[i] <;> rfl
    · ext i; simp; cases x[i] <;> cases y[i] <;> simp
  have h2 : x ||| y = y + (x &&& ~~~y) := by
    rw [BitVec.add_eq_or_of_and_eq_zero]
    · ext i; simp; cases x[i] <;> cases y[i] <;> rfl
    · ext i; simp; cases x[i] <;> cases y[i] <;> simp
  rw [h2]
  conv => rhs; rw [h1]
  ac_rfl
theorem own_or0 (x y : Int32) : (x ||| y) + (x &&& y) = x + y := Int32.toBitVec_inj.mp (by simpa using own_bvor x.toBitVec y.toBitVec)
theorem own_or (x y : Int32) : ((x ||| y).toInt + (x &&& y).toInt - (x.toInt + y.toInt)) % 4294967296 = 0 := by
  have h1 := c_iadd (x ||| y) (x &&& y)
  have h2 := c_iadd x y
  rw [own_or0] at h1; omega
theorem own_bvblk (x m a b : BitVec 32) (h1 : m ||| a = b) (h2 : m &&& a = 0#32) : (x &&& m) + (x &&& a) = x &&& b := by
  rw [BitVec.add_eq_or_of_and_eq_zero, ← h1]
  · ext i; simp; cases x[i] <;> simp
  · have : (x &&& m) &&& (x &&& a) = x &&& (m &&& a) := by ext i; simp; cases x[i] <;> simp
    rw [this, h2]; simp
theorem own_blk (x m a b : Int32) (h1 : m ||| a = b) (h2 : m &&& a = 0) : ((x &&& m).toInt + (x &&& a).toInt - (x &&& b).toInt) % 4294967296 = 0 := by
  have e : (x &&& m) + (x &&& a) = x &&& b := Int32.toBitVec_inj.mp (by
    have q1 := congrArg Int32.toBitVec h1
    have q2 := congrArg Int32.toBitVec h2
    simpa using own_bvblk x.toBitVec m.toBitVec a.toBitVec b.toBitVec (by simpa using q1) (by simpa using q2))
  have := c_iadd (x &&& m) (x &&& a)
  rw [e] at this; omega
theorem own_andM1 (x : Int32) : x &&& (-1) = x := Int32.toBitVec_inj.mp (by ext i; simp)
theorem own_narZ {b : Int32} (hb : b.toInt = 0 ∨ b.toInt = 1) : nar .boolean b = b := by
  have : b = 0 ∨ b = 1 := by
    rcases hb with q | q
    · exact Or.inl (Int32.toInt_inj.mp q)
    · exact Or.inr (Int32.toInt_inj.mp q)
  rcases this with rfl | rfl <;> decide
theorem own_narC {b : Int32} (h0 : 0 ≤ b.toInt) (h1 : b.toInt < 65536) : nar .char b = b := by
  have := c_i2c b
  exact Int32.toInt_inj.mp (by show b.toUInt32.toUInt16.toUInt32.toInt32.toInt = _; omega)
theorem own_narB {b : Int32} (h0 : -128 ≤ b.toInt) (h1 : b.toInt < 128) : nar .byte b = b := by
  have := c_i2b b
  exact Int32.toInt_inj.mp (by show b.toInt8.toInt32.toInt = _; omega)
theorem own_eq {x y : Int32} (q : x.toInt = y.toInt) : x = y := Int32.toInt_inj.mp q
theorem own_eqL {x y : Int64} (q : x.toInt = y.toInt) : x = y := Int64.toInt_inj.mp q
end OwnArith


theorem own_k0 (P0 P1 P2 P3 u T1 T2 e r : Int) (h1 : ((T1 = 1 ∧ (P0 = P1)) ∨ (¬ (P0 = P1) ∧ T1 = 0))) (h2 : ((T2 = 2 ∧ (P0 = P1 ∧ P1 = P2)) ∨ (¬ (P0 = P1 ∧ P1 = P2) ∧ ((T2 = 1 ∧ (P0 = P2)) ∨ (¬ (P0 = P2) ∧ T2 = 0))))) (hL : ((e = 1 ∧ (P0 = u)) ∨ (¬ (P0 = u) ∧ e = 0))) (hE : ((P0 = u ∧ r = 1) ∨ (¬ P0 = u ∧ r = 0))) : r = e := by omega
theorem own_k1 (P0 P1 P2 P3 u T1 T2 e r : Int) (h1 : ((T1 = 1 ∧ (P0 = P1)) ∨ (¬ (P0 = P1) ∧ T1 = 0))) (h2 : ((T2 = 2 ∧ (P0 = P1 ∧ P1 = P2)) ∨ (¬ (P0 = P1 ∧ P1 = P2) ∧ ((T2 = 1 ∧ (P0 = P2)) ∨ (¬ (P0 = P2) ∧ T2 = 0))))) (hL : ((e = 2 ∧ (P0 = P0 ∧ P1 = u)) ∨ (¬ (P0 = P0 ∧ P1 = u) ∧ ((e = 1 ∧ (P0 = u)) ∨ (¬ (P0 = u) ∧ e = 0))))) (hE : ((P1 = u ∧ r = 2) ∨ (¬ P1 = u ∧ ((P0 = u ∧ r = 1) ∨ (¬ P0 = u ∧ r = 0))))) : r = e := by omega
theorem own_k2 (P0 P1 P2 P3 u T1 T2 e r : Int) (h1 : ((T1 = 1 ∧ (P0 = P1)) ∨ (¬ (P0 = P1) ∧ T1 = 0))) (h2 : ((T2 = 2 ∧ (P0 = P1 ∧ P1 = P2)) ∨ (¬ (P0 = P1 ∧ P1 = P2) ∧ ((T2 = 1 ∧ (P0 = P2)) ∨ (¬ (P0 = P2) ∧ T2 = 0))))) (hL : ((e = 3 ∧ (P0 = P0 ∧ P1 = P1 ∧ P2 = u)) ∨ (¬ (P0 = P0 ∧ P1 = P1 ∧ P2 = u) ∧ ((e = 2 ∧ (P0 = P1 ∧ P1 = u)) ∨ (¬ (P0 = P1 ∧ P1 = u) ∧ ((e = 1 ∧ (P0 = u)) ∨ (¬ (P0 = u) ∧ e = 0))))))) (hE : ((P2 = u ∧ r = 3) ∨ (¬ P2 = u ∧ ((T1 = 0 ∧ ((P0 = u ∧ r = 1) ∨ (¬ P0 = u ∧ r = 0))) ∨ (T1 = 1 ∧ ((P1 = u ∧ r = 2) ∨ (¬ P1 = u ∧ ((P0 = u ∧ r = 1) ∨ (¬ P0 = u ∧ r = 0))))))))) : r = e := by omega
theorem own_k3 (P0 P1 P2 P3 u T1 T2 e r : Int) (h1 : ((T1 = 1 ∧ (P0 = P1)) ∨ (¬ (P0 = P1) ∧ T1 = 0))) (h2 : ((T2 = 2 ∧ (P0 = P1 ∧ P1 = P2)) ∨ (¬ (P0 = P1 ∧ P1 = P2) ∧ ((T2 = 1 ∧ (P0 = P2)) ∨ (¬ (P0 = P2) ∧ T2 = 0))))) (hL : ((e = 4 ∧ (P0 = P0 ∧ P1 = P1 ∧ P2 = P2 ∧ P3 = u)) ∨ (¬ (P0 = P0 ∧ P1 = P1 ∧ P2 = P2 ∧ P3 = u) ∧ ((e = 3 ∧ (P0 = P1 ∧ P1 = P2 ∧ P2 = u)) ∨ (¬ (P0 = P1 ∧ P1 = P2 ∧ P2 = u) ∧ ((e = 2 ∧ (P0 = P2 ∧ P1 = u)) ∨ (¬ (P0 = P2 ∧ P1 = u) ∧ ((e = 1 ∧ (P0 = u)) ∨ (¬ (P0 = u) ∧ e = 0))))))))) (hE : ((P3 = u ∧ r = 4) ∨ (¬ P3 = u ∧ ((T2 = 0 ∧ ((P0 = u ∧ r = 1) ∨ (¬ P0 = u ∧ r = 0))) ∨ (T2 = 1 ∧ ((P1 = u ∧ r = 2) ∨ (¬ P1 = u ∧ ((P0 = u ∧ r = 1) ∨ (¬ P0 = u ∧ r = 0))))) ∨ (T2 = 2 ∧ ((P2 = u ∧ r = 3) ∨ (¬ P2 = u ∧ ((T1 = 0 ∧ ((P0 = u ∧ r = 1) ∨ (¬ P0 = u ∧ r = 0))) ∨ (T1 = 1 ∧ ((P1 = u ∧ r = 2) ∨ (¬ P1 = u ∧ ((P0 = u ∧ r = 1) ∨ (¬ P0 = u ∧ r = 0))))))))))))) : r = e := by omega
theorem d1_0 : decode method_3_code 0 = .ok (.iload_n 0, 1) := by decide +kernel
theorem d1_1 : decode method_3_code 1 = .ok (.ifCond .ne 5, 3) := by decide +kernel
theorem d1_4 : decode method_3_code 4 = .ok (.iload_n 1, 1) := by decide +kernel
theorem d1_5 : decode method_3_code 5 = .ok (.ireturn, 1) := by decide +kernel
theorem d1_6 : decode method_3_code 6 = .ok (.iload_n 0, 1) := by decide +kernel
theorem d1_7 : decode method_3_code 7 = .ok (.iconst 1, 1) := by decide +kernel
theorem d1_8 : decode method_3_code 8 = .ok (.if_icmp .ne 5, 3) := by decide +kernel
theorem d1_11 : decode method_3_code 11 = .ok (.iload_n 2, 1) := by decide +kernel
theorem d1_12 : decode method_3_code 12 = .ok (.ireturn, 1) := by decide +kernel
theorem d1_13 : decode method_3_code 13 = .ok (.iload_n 0, 1) := by decide +kernel
theorem d1_14 : decode method_3_code 14 = .ok (.iconst 2, 1) := by decide +kernel
theorem d1_15 : decode method_3_code 15 = .ok (.if_icmp .ne 5, 3) := by decide +kernel
theorem d1_18 : decode method_3_code 18 = .ok (.iload_n 3, 1) := by decide +kernel
theorem d1_19 : decode method_3_code 19 = .ok (.ireturn, 1) := by decide +kernel
theorem d1_20 : decode method_3_code 20 = .ok (.iload 4, 2) := by decide +kernel
theorem d1_22 : decode method_3_code 22 = .ok (.ireturn, 1) := by decide +kernel
theorem pn_11909899 : plainName "com/example/otsing/otsing/algorithm/PartialMatchTableExtendPinLaw" = true := by first | (simp [plainName, overriddenIn]; done) | decide +kernel
theorem ef_1 (m : MethodId) (p0 : Int32) (p1 : Int32) (p2 : Int32) (p3 : Int32) (p4 : Int32) : entryFrame m #[(.int p0), (.int p1), (.int p2), (.int p3), (.int p4)] 5 = mkF m 0 #[.val (.int p0), .val (.int p1), .val (.int p2), .val (.int p3), .val (.int p4)] [] := by first | (simp [entryFrame, mkF, argsToLocals, Value.category]; done) | rfl
def Q1 (Z : State) (p0 : Int32) (p1 : Int32) (p2 : Int32) (p3 : Int32) (p4 : Int32) (h0 : Heap) (n0 : Nat) (v : Option Value) (h : Heap) (L : List Loc) : Prop := ∃ r : Int32, v = some (.int r) ∧ (0 ≤ r.toInt ∧ r.toInt < 65536) ∧ Fr n0 L ∧ h = h0
set_option maxRecDepth 65536 in
set_option maxHeartbeats 40000000 in
theorem rm1 (l : Launch) (Z : State) (a0 : Array Value) (hw : ∀ d ∈ tables_1, d.before a0 Z = true) (ws : List Jvm.Cond) (p0 : Int32) (p1 : Int32) (p2 : Int32) (p3 : Int32) (p4 : Int32) (h0 : Heap) (n0 : Nat) (Z0 : n0 ≤ h0.size) (hr1 : 0 ≤ p1.toInt ∧ p1.toInt < 65536) (hr2 : 0 ≤ p2.toInt ∧ p2.toInt < 65536) (hr3 : 0 ≤ p3.toInt ∧ p3.toInt < 65536) (hr4 : 0 ≤ p4.toInt ∧ p4.toInt < 65536) :
    MetFree l (⟨"com/example/otsing/otsing/algorithm/PartialMatchTableExtendPinLaw", "pick", "(ICCCC)C"⟩ : MethodName) (head1 (Jvm.Cond.code (⟨"com/example/otsing/otsing/algorithm/PartialMatchTableExtendPinLaw", "pick", "(ICCCC)C"⟩ : MethodName) method_3_code 5 (some .char) :: ws) ({ frames := 0, cells := 0, slots := 0, locals := 0 } : Room)) (fun a U => a = #[(.int p0), (.int p1), (.int p2), (.int p3), (.int p4)] ∧ Z.Warmed39 U.vm ∧ U.heap = h0) (fun _ _ _ _ _ => True) (fun _ U o U' => ∃ v L, o = .returned v ∧ Q1 Z p0 p1 p2 p3 p4 h0 n0 v U'.heap L ∧ FrameEnd U o U' L ({ frames := 0, cells := 0, slots := 0, locals := 0 } : Room).cells ({ frames := 0, cells := 0, slots := 0, locals := 0 } : Room).slots) := by
  refine MetFree.of_bodySF (plainFor_of_name pn_11909899) hisR ?_
  intro p e s m args below meth c s₁ Bd hml0 hP hK
  obtain ⟨rfl, hZ, hh⟩ := hP
  have C : Ctx p s m meth c Z "com/example/otsing/otsing/algorithm/PartialMatchTableExtendPinLaw" "pick" method_3_code 5 (some .char) := Ctx.of Bd hml0 hZ
  have X0 : Stand p l e ({ frames := 0, cells := 0, slots := 0, locals := 0 } : Room) s m #[(.int p0), (.int p1), (.int p2), (.int p3), (.int p4)] below meth c s₁ [] 0 0 := Stand.of_body Bd
  have e0 : s₁.heap = h0 := by rw [← hh, Bd.state]; rfl
  have N0 := Fr.nil n0
  refine Goes.enter (ef_1 m p0 p1 p2 p3 p4) ?_
  clear hK hml0 hh
  refine g_iloadN 1 rfl C X0 d1_0 rfl ?_
  by_cases hb1 : p0.toInt = 0
  · skip
    refine g_if_ne_f 4 rfl C X0 d1_1 hb1 ?_
    refine g_iloadN 5 rfl C X0 d1_4 rfl ?_
    have fr2 := rng32 p0
    have fr3 := rng32 p1
    have hn4 : nar .char p1 = p1 := own_narC (by omega) (by omega)
    exact g_retN C X0 (z' := p1) rfl (Or.inr (Or.inr (Or.inl rfl))) d1_5 e0 (by decide) (by decide) hn4 ⟨_, rfl, by omega, N0, rfl⟩
  · skip
    refine g_if_ne_t 6 C X0 d1_1 (by decide) (by decide) hb1 ?_
    refine g_iloadN 7 rfl C X0 d1_6 rfl ?_
    refine g_iconst 8 rfl C X0 (1 : Int32) d1_7 rfl ?_
    by_cases hb5 : p0.toInt = (1 : Int32).toInt
    · skip
      refine g_icmp_ne_f 11 rfl C X0 d1_8 hb5 ?_
      refine g_iloadN 12 rfl C X0 d1_11 rfl ?_
      have fr6 := rng32 p0
      have fc7 : (1 : Int32).toInt = 1 := rfl
      have fr8 := rng32 p2
      have hn9 : nar .char p2 = p2 := own_narC (by omega) (by omega)
      exact g_retN C X0 (z' := p2) rfl (Or.inr (Or.inr (Or.inl rfl))) d1_12 e0 (by decide) (by decide) hn9 ⟨_, rfl, by omega, N0, rfl⟩
    · skip
      refine g_icmp_ne_t 13 C X0 d1_8 (by decide) (by decide) hb5 ?_
      refine g_iloadN 14 rfl C X0 d1_13 rfl ?_
      refine g_iconst 15 rfl C X0 (2 : Int32) d1_14 rfl ?_
      by_cases hb10 : p0.toInt = (2 : Int32).toInt
      · skip
        refine g_icmp_ne_f 18 rfl C X0 d1_15 hb10 ?_
        refine g_iloadN 19 rfl C X0 d1_18 rfl ?_
        have fr11 := rng32 p0
        have fc12 : (1 : Int32).toInt = 1 := rfl
        have fc13 : (2 : Int32).toInt = 2 := rfl
        have fr14 := rng32 p3
        have hn15 : nar .char p3 = p3 := own_narC (by omega) (by omega)
        exact g_retN C X0 (z' := p3) rfl (Or.inr (Or.inr (Or.inl rfl))) d1_19 e0 (by decide) (by decide) hn15 ⟨_, rfl, by omega, N0, rfl⟩
      · skip
        refine g_icmp_ne_t 20 C X0 d1_15 (by decide) (by decide) hb10 ?_
        refine g_iload 22 rfl C X0 d1_20 rfl ?_
        have fr16 := rng32 p0
        have fc17 : (1 : Int32).toInt = 1 := rfl
        have fc18 : (2 : Int32).toInt = 2 := rfl
        have fr19 := rng32 p4
        have hn20 : nar .char p4 = p4 := own_narC (by omega) (by omega)
        exact g_retN C X0 (z' := p4) rfl (Or.inr (Or.inr (Or.inl rfl))) d1_22 e0 (by decide) (by decide) hn20 ⟨_, rfl, by omega, N0, rfl⟩
theorem d2_0 : decode method_5_code 0 = .ok (.iload_n 3, 1) := by decide +kernel
theorem d2_1 : decode method_5_code 1 = .ok (.iconst 4, 1) := by decide +kernel
theorem d2_2 : decode method_5_code 2 = .ok (.if_icmp .lt 15, 3) := by decide +kernel
theorem d2_17 : decode method_5_code 17 = .ok (.iload_n 3, 1) := by decide +kernel
theorem d2_18 : decode method_5_code 18 = .ok (.iconst 3, 1) := by decide +kernel
theorem d2_19 : decode method_5_code 19 = .ok (.if_icmp .lt 15, 3) := by decide +kernel
theorem d2_34 : decode method_5_code 34 = .ok (.iload_n 3, 1) := by decide +kernel
theorem d2_35 : decode method_5_code 35 = .ok (.iconst 2, 1) := by decide +kernel
theorem d2_36 : decode method_5_code 36 = .ok (.if_icmp .lt 15, 3) := by decide +kernel
theorem d2_51 : decode method_5_code 51 = .ok (.iload_n 3, 1) := by decide +kernel
theorem d2_52 : decode method_5_code 52 = .ok (.iconst 1, 1) := by decide +kernel
theorem d2_53 : decode method_5_code 53 = .ok (.if_icmp .lt 15, 3) := by decide +kernel
theorem d2_68 : decode method_5_code 68 = .ok (.iconst 0, 1) := by decide +kernel
theorem d2_69 : decode method_5_code 69 = .ok (.ireturn, 1) := by decide +kernel
theorem ef_2_1_0 (m : MethodId) (b0 : Addr) (b1 : Addr) : entryFrame m #[(.ref b0), (.ref b1), (.int (1 : Int32)), (.int (0 : Int32))] 4 = mkF m 0 #[.val (.ref b0), .val (.ref b1), .val (.int (1 : Int32)), .val (.int (0 : Int32))] [] := by first | (simp [entryFrame, mkF, argsToLocals, Value.category]; done) | rfl
def Q2_1_0 (Z : State) (b0 : Addr) (b1 : Addr) (f : Nat → Int32) (g : Nat → Int32) (P0 : Int32) (P1 : Int32) (P2 : Int32) (P3 : Int32) (S0 : Int32) (S1 : Int32) (S2 : Int32) (S3 : Int32) (h0 : Heap) (n0 : Nat) (v : Option Value) (h : Heap) (L : List Loc) : Prop := ∃ r : Int32, v = some (.int r) ∧ (r.toInt = 0) ∧ Fr n0 L ∧ h = h0
set_option maxRecDepth 65536 in
set_option maxHeartbeats 40000000 in
theorem rm2_1_0 (l : Launch) (Z : State) (a0 : Array Value) (hw : ∀ d ∈ tables_1, d.before a0 Z = true) (ws : List Jvm.Cond) (b0 : Addr) (b1 : Addr) (f : Nat → Int32) (g : Nat → Int32) (P0 : Int32) (P1 : Int32) (P2 : Int32) (P3 : Int32) (S0 : Int32) (S1 : Int32) (S2 : Int32) (S3 : Int32) (h0 : Heap) (n0 : Nat) (Z0 : n0 ≤ h0.size) (B_b0 : Ba Z h0 b0 .char 4 f) (B_b1 : Ba Z h0 b1 .char 4 g) (hP0 : f 0 = P0) (hP1 : f 1 = P1) (hP2 : f 2 = P2) (hP3 : f 3 = P3) (hS0 : g 0 = S0) (hS1 : g 1 = S1) (hS2 : g 2 = S2) (hS3 : g 3 = S3) :
    MetFree l (⟨"com/example/otsing/otsing/algorithm/PartialMatchTableExtendPinLaw", "longest", "([C[CII)I"⟩ : MethodName) (head1 (Jvm.Cond.code (⟨"com/example/otsing/otsing/algorithm/PartialMatchTableExtendPinLaw", "longest", "([C[CII)I"⟩ : MethodName) method_5_code 4 (some .int) :: ws) ({ frames := 0, cells := 0, slots := 0, locals := 0 } : Room)) (fun a U => a = #[(.ref b0), (.ref b1), (.int (1 : Int32)), (.int (0 : Int32))] ∧ Z.Warmed39 U.vm ∧ U.heap = h0) (fun _ _ _ _ _ => True) (fun _ U o U' => ∃ v L, o = .returned v ∧ Q2_1_0 Z b0 b1 f g P0 P1 P2 P3 S0 S1 S2 S3 h0 n0 v U'.heap L ∧ FrameEnd U o U' L ({ frames := 0, cells := 0, slots := 0, locals := 0 } : Room).cells ({ frames := 0, cells := 0, slots := 0, locals := 0 } : Room).slots) := by
  refine MetFree.of_bodySF (plainFor_of_name pn_11909899) hisR ?_
  intro p e s m args below meth c s₁ Bd hml0 hP hK
  obtain ⟨rfl, hZ, hh⟩ := hP
  have C : Ctx p s m meth c Z "com/example/otsing/otsing/algorithm/PartialMatchTableExtendPinLaw" "longest" method_5_code 4 (some .int) := Ctx.of Bd hml0 hZ
  have X0 : Stand p l e ({ frames := 0, cells := 0, slots := 0, locals := 0 } : Room) s m #[(.ref b0), (.ref b1), (.int (1 : Int32)), (.int (0 : Int32))] below meth c s₁ [] 0 0 := Stand.of_body Bd
  have e0 : s₁.heap = h0 := by rw [← hh, Bd.state]; rfl
  have N0 := Fr.nil n0
  refine Goes.enter (ef_2_1_0 m b0 b1) ?_
  clear hK hml0 hh
  refine g_iloadN 1 rfl C X0 d2_0 rfl ?_
  refine g_iconst 2 rfl C X0 (4 : Int32) d2_1 rfl ?_
  refine g_icmp_lt_t 17 C X0 d2_2 (by decide) (by decide) (by decide) ?_
  refine g_iloadN 18 rfl C X0 d2_17 rfl ?_
  refine g_iconst 19 rfl C X0 (3 : Int32) d2_18 rfl ?_
  refine g_icmp_lt_t 34 C X0 d2_19 (by decide) (by decide) (by decide) ?_
  refine g_iloadN 35 rfl C X0 d2_34 rfl ?_
  refine g_iconst 36 rfl C X0 (2 : Int32) d2_35 rfl ?_
  refine g_icmp_lt_t 51 C X0 d2_36 (by decide) (by decide) (by decide) ?_
  refine g_iloadN 52 rfl C X0 d2_51 rfl ?_
  refine g_iconst 53 rfl C X0 (1 : Int32) d2_52 rfl ?_
  refine g_icmp_lt_t 68 C X0 d2_53 (by decide) (by decide) (by decide) ?_
  refine g_iconst 69 rfl C X0 (0 : Int32) d2_68 rfl ?_
  have fc1 : (0 : Int32).toInt = 0 := rfl
  have fc2 : (4 : Int32).toInt = 4 := rfl
  have fc3 : (3 : Int32).toInt = 3 := rfl
  have fc4 : (2 : Int32).toInt = 2 := rfl
  have fc5 : (1 : Int32).toInt = 1 := rfl
  exact g_retI C X0 rfl d2_69 e0 (by decide) (by decide) ⟨_, rfl, by omega, N0, rfl⟩
theorem d3_0 : decode method_4_code 0 = .ok (.iload_n 2, 1) := by decide +kernel
theorem d3_1 : decode method_4_code 1 = .ok (.iload_n 3, 1) := by decide +kernel
theorem d3_2 : decode method_4_code 2 = .ok (.isub, 1) := by decide +kernel
theorem d3_3 : decode method_4_code 3 = .ok (.istore 4, 2) := by decide +kernel
theorem d3_5 : decode method_4_code 5 = .ok (.iconst 1, 1) := by decide +kernel
theorem d3_6 : decode method_4_code 6 = .ok (.istore 5, 2) := by decide +kernel
theorem d3_8 : decode method_4_code 8 = .ok (.iload_n 3, 1) := by decide +kernel
theorem d3_9 : decode method_4_code 9 = .ok (.ifCond .le 16, 3) := by decide +kernel
theorem d3_12 : decode method_4_code 12 = .ok (.aload_n 0, 1) := by decide +kernel
theorem d3_13 : decode method_4_code 13 = .ok (.iconst 0, 1) := by decide +kernel
theorem d3_14 : decode method_4_code 14 = .ok (.caload, 1) := by decide +kernel
theorem d3_15 : decode method_4_code 15 = .ok (.aload_n 1, 1) := by decide +kernel
theorem d3_16 : decode method_4_code 16 = .ok (.iload 4, 2) := by decide +kernel
theorem d3_18 : decode method_4_code 18 = .ok (.caload, 1) := by decide +kernel
theorem d3_19 : decode method_4_code 19 = .ok (.if_icmp .eq 6, 3) := by decide +kernel
theorem d3_25 : decode method_4_code 25 = .ok (.iload_n 3, 1) := by decide +kernel
theorem d3_26 : decode method_4_code 26 = .ok (.iconst 1, 1) := by decide +kernel
theorem d3_27 : decode method_4_code 27 = .ok (.if_icmp .le 18, 3) := by decide +kernel
theorem d3_45 : decode method_4_code 45 = .ok (.iload_n 3, 1) := by decide +kernel
theorem d3_46 : decode method_4_code 46 = .ok (.iconst 2, 1) := by decide +kernel
theorem d3_47 : decode method_4_code 47 = .ok (.if_icmp .le 18, 3) := by decide +kernel
theorem d3_65 : decode method_4_code 65 = .ok (.iload_n 3, 1) := by decide +kernel
theorem d3_66 : decode method_4_code 66 = .ok (.iconst 3, 1) := by decide +kernel
theorem d3_67 : decode method_4_code 67 = .ok (.if_icmp .le 18, 3) := by decide +kernel
theorem d3_85 : decode method_4_code 85 = .ok (.iload 5, 2) := by decide +kernel
theorem d3_87 : decode method_4_code 87 = .ok (.ireturn, 1) := by decide +kernel
theorem d3_22 : decode method_4_code 22 = .ok (.iconst 0, 1) := by decide +kernel
theorem d3_23 : decode method_4_code 23 = .ok (.istore 5, 2) := by decide +kernel
theorem ef_3_2_1 (m : MethodId) (b0 : Addr) (b1 : Addr) : entryFrame m #[(.ref b0), (.ref b1), (.int (2 : Int32)), (.int (1 : Int32))] 6 = mkF m 0 #[.val (.ref b0), .val (.ref b1), .val (.int (2 : Int32)), .val (.int (1 : Int32)), .unset, .unset] [] := by first | (simp [entryFrame, mkF, argsToLocals, Value.category]; done) | rfl
def Q3_2_1 (Z : State) (b0 : Addr) (b1 : Addr) (f : Nat → Int32) (g : Nat → Int32) (P0 : Int32) (P1 : Int32) (P2 : Int32) (P3 : Int32) (S0 : Int32) (S1 : Int32) (S2 : Int32) (S3 : Int32) (h0 : Heap) (n0 : Nat) (v : Option Value) (h : Heap) (L : List Loc) : Prop := ∃ r : Int32, v = some (.int r) ∧ ((r.toInt = 1 ∧ (P0.toInt = S1.toInt)) ∨ (r.toInt = 0 ∧ ¬ (P0.toInt = S1.toInt))) ∧ Fr n0 L ∧ h = h0
set_option maxRecDepth 65536 in
set_option maxHeartbeats 40000000 in
theorem rm3_2_1 (l : Launch) (Z : State) (a0 : Array Value) (hw : ∀ d ∈ tables_1, d.before a0 Z = true) (ws : List Jvm.Cond) (b0 : Addr) (b1 : Addr) (f : Nat → Int32) (g : Nat → Int32) (P0 : Int32) (P1 : Int32) (P2 : Int32) (P3 : Int32) (S0 : Int32) (S1 : Int32) (S2 : Int32) (S3 : Int32) (h0 : Heap) (n0 : Nat) (Z0 : n0 ≤ h0.size) (B_b0 : Ba Z h0 b0 .char 4 f) (B_b1 : Ba Z h0 b1 .char 4 g) (hP0 : f 0 = P0) (hP1 : f 1 = P1) (hP2 : f 2 = P2) (hP3 : f 3 = P3) (hS0 : g 0 = S0) (hS1 : g 1 = S1) (hS2 : g 2 = S2) (hS3 : g 3 = S3) :
    MetFree l (⟨"com/example/otsing/otsing/algorithm/PartialMatchTableExtendPinLaw", "matches", "([C[CII)Z"⟩ : MethodName) (head1 (Jvm.Cond.code (⟨"com/example/otsing/otsing/algorithm/PartialMatchTableExtendPinLaw", "matches", "([C[CII)Z"⟩ : MethodName) method_4_code 6 (some .boolean) :: ws) ({ frames := 0, cells := 0, slots := 0, locals := 0 } : Room)) (fun a U => a = #[(.ref b0), (.ref b1), (.int (2 : Int32)), (.int (1 : Int32))] ∧ Z.Warmed39 U.vm ∧ U.heap = h0) (fun _ _ _ _ _ => True) (fun _ U o U' => ∃ v L, o = .returned v ∧ Q3_2_1 Z b0 b1 f g P0 P1 P2 P3 S0 S1 S2 S3 h0 n0 v U'.heap L ∧ FrameEnd U o U' L ({ frames := 0, cells := 0, slots := 0, locals := 0 } : Room).cells ({ frames := 0, cells := 0, slots := 0, locals := 0 } : Room).slots) := by
  refine MetFree.of_bodySF (plainFor_of_name pn_11909899) hisR ?_
  intro p e s m args below meth c s₁ Bd hml0 hP hK
  obtain ⟨rfl, hZ, hh⟩ := hP
  have C : Ctx p s m meth c Z "com/example/otsing/otsing/algorithm/PartialMatchTableExtendPinLaw" "matches" method_4_code 6 (some .boolean) := Ctx.of Bd hml0 hZ
  have X0 : Stand p l e ({ frames := 0, cells := 0, slots := 0, locals := 0 } : Room) s m #[(.ref b0), (.ref b1), (.int (2 : Int32)), (.int (1 : Int32))] below meth c s₁ [] 0 0 := Stand.of_body Bd
  have e0 : s₁.heap = h0 := by rw [← hh, Bd.state]; rfl
  have N0 := Fr.nil n0
  refine Goes.enter (ef_3_2_1 m b0 b1) ?_
  clear hK hml0 hh
  refine g_iloadN 1 rfl C X0 d3_0 rfl ?_
  refine g_iloadN 2 rfl C X0 d3_1 rfl ?_
  refine g_isub 3 rfl C X0 d3_2 ?_
  refine g_istore 5 rfl C X0 (1 : Int32) (by decide) #[.val (.ref b0), .val (.ref b1), .val (.int (2 : Int32)), .val (.int (1 : Int32)), .val (.int (1 : Int32)), .unset] d3_3 rfl ?_
  refine g_iconst 6 rfl C X0 (1 : Int32) d3_5 rfl ?_
  refine g_istore 8 rfl C X0 (1 : Int32) rfl #[.val (.ref b0), .val (.ref b1), .val (.int (2 : Int32)), .val (.int (1 : Int32)), .val (.int (1 : Int32)), .val (.int (1 : Int32))] d3_6 rfl ?_
  refine g_iloadN 9 rfl C X0 d3_8 rfl ?_
  refine g_if_le_f 12 rfl C X0 d3_9 (by decide) ?_
  refine g_aloadN 13 rfl C X0 d3_12 rfl rfl ?_
  refine g_iconst 14 rfl C X0 (0 : Int32) d3_13 rfl ?_
  refine g_caload 15 rfl C X0 e0 B_b0 0 (by decide) (by decide) P0 hP0 d3_14 ?_
  refine g_aloadN 16 rfl C X0 d3_15 rfl rfl ?_
  refine g_iload 18 rfl C X0 d3_16 rfl ?_
  refine g_caload 19 rfl C X0 e0 B_b1 1 (by decide) (by decide) S1 hS1 d3_18 ?_
  by_cases hb1 : P0.toInt = S1.toInt
  · skip
    refine g_icmp_eq_t 25 C X0 d3_19 (by decide) (by decide) hb1 ?_
    refine g_iloadN 26 rfl C X0 d3_25 rfl ?_
    refine g_iconst 27 rfl C X0 (1 : Int32) d3_26 rfl ?_
    refine g_icmp_le_t 45 C X0 d3_27 (by decide) (by decide) (by decide) ?_
    refine g_iloadN 46 rfl C X0 d3_45 rfl ?_
    refine g_iconst 47 rfl C X0 (2 : Int32) d3_46 rfl ?_
    refine g_icmp_le_t 65 C X0 d3_47 (by decide) (by decide) (by decide) ?_
    refine g_iloadN 66 rfl C X0 d3_65 rfl ?_
    refine g_iconst 67 rfl C X0 (3 : Int32) d3_66 rfl ?_
    refine g_icmp_le_t 85 C X0 d3_67 (by decide) (by decide) (by decide) ?_
    refine g_iload 87 rfl C X0 d3_85 rfl ?_
    have fc2 : (1 : Int32).toInt = 1 := rfl
    have fr3 := rng32 P0
    have fr4 := rng32 S1
    have fc5 : (2 : Int32).toInt = 2 := rfl
    have fc6 : (3 : Int32).toInt = 3 := rfl
    exact g_retN C X0 (z' := (1 : Int32)) rfl (Or.inl rfl) d3_87 e0 (by decide) (by decide) rfl ⟨_, rfl, by omega, N0, rfl⟩
  · skip
    refine g_icmp_eq_f 22 rfl C X0 d3_19 hb1 ?_
    refine g_iconst 23 rfl C X0 (0 : Int32) d3_22 rfl ?_
    refine g_istore 25 rfl C X0 (0 : Int32) rfl #[.val (.ref b0), .val (.ref b1), .val (.int (2 : Int32)), .val (.int (1 : Int32)), .val (.int (1 : Int32)), .val (.int (0 : Int32))] d3_23 rfl ?_
    refine g_iloadN 26 rfl C X0 d3_25 rfl ?_
    refine g_iconst 27 rfl C X0 (1 : Int32) d3_26 rfl ?_
    refine g_icmp_le_t 45 C X0 d3_27 (by decide) (by decide) (by decide) ?_
    refine g_iloadN 46 rfl C X0 d3_45 rfl ?_
    refine g_iconst 47 rfl C X0 (2 : Int32) d3_46 rfl ?_
    refine g_icmp_le_t 65 C X0 d3_47 (by decide) (by decide) (by decide) ?_
    refine g_iloadN 66 rfl C X0 d3_65 rfl ?_
    refine g_iconst 67 rfl C X0 (3 : Int32) d3_66 rfl ?_
    refine g_icmp_le_t 85 C X0 d3_67 (by decide) (by decide) (by decide) ?_
    refine g_iload 87 rfl C X0 d3_85 rfl ?_
    have fc7 : (1 : Int32).toInt = 1 := rfl
    have fr8 := rng32 P0
    have fr9 := rng32 S1
    have fc10 : (2 : Int32).toInt = 2 := rfl
    have fc11 : (3 : Int32).toInt = 3 := rfl
    have fc12 : (0 : Int32).toInt = 0 := rfl
    exact g_retN C X0 (z' := (0 : Int32)) rfl (Or.inl rfl) d3_87 e0 (by decide) (by decide) rfl ⟨_, rfl, by omega, N0, rfl⟩
theorem d2_56 : decode method_5_code 56 = .ok (.aload_n 0, 1) := by decide +kernel
theorem d2_57 : decode method_5_code 57 = .ok (.aload_n 1, 1) := by decide +kernel
theorem d2_58 : decode method_5_code 58 = .ok (.iload_n 2, 1) := by decide +kernel
theorem d2_59 : decode method_5_code 59 = .ok (.iconst 1, 1) := by decide +kernel
theorem d2_60 : decode method_5_code 60 = .ok (.invokestatic 23, 3) := by decide +kernel
theorem pd_50052798 : parseMethodDescriptor "([C[CII)Z" = some ⟨[(.array .char), (.array .char), .int, .int], some .boolean⟩ := by decide +kernel
theorem d2_63 : decode method_5_code 63 = .ok (.ifCond .eq 5, 3) := by decide +kernel
theorem d2_66 : decode method_5_code 66 = .ok (.iconst 1, 1) := by decide +kernel
theorem d2_67 : decode method_5_code 67 = .ok (.ireturn, 1) := by decide +kernel
theorem ef_2_2_1 (m : MethodId) (b0 : Addr) (b1 : Addr) : entryFrame m #[(.ref b0), (.ref b1), (.int (2 : Int32)), (.int (1 : Int32))] 4 = mkF m 0 #[.val (.ref b0), .val (.ref b1), .val (.int (2 : Int32)), .val (.int (1 : Int32))] [] := by first | (simp [entryFrame, mkF, argsToLocals, Value.category]; done) | rfl
def Q2_2_1 (Z : State) (b0 : Addr) (b1 : Addr) (f : Nat → Int32) (g : Nat → Int32) (P0 : Int32) (P1 : Int32) (P2 : Int32) (P3 : Int32) (S0 : Int32) (S1 : Int32) (S2 : Int32) (S3 : Int32) (h0 : Heap) (n0 : Nat) (v : Option Value) (h : Heap) (L : List Loc) : Prop := ∃ r : Int32, v = some (.int r) ∧ (((r.toInt = 1 ∧ (P0.toInt = S1.toInt)) ∨ (¬ (P0.toInt = S1.toInt) ∧ r.toInt = 0))) ∧ Fr n0 L ∧ h = h0
set_option maxRecDepth 65536 in
set_option maxHeartbeats 40000000 in
theorem rm2_2_1 (l : Launch) (Z : State) (a0 : Array Value) (hw : ∀ d ∈ tables_1, d.before a0 Z = true) (ws : List Jvm.Cond) (b0 : Addr) (b1 : Addr) (f : Nat → Int32) (g : Nat → Int32) (P0 : Int32) (P1 : Int32) (P2 : Int32) (P3 : Int32) (S0 : Int32) (S1 : Int32) (S2 : Int32) (S3 : Int32) (h0 : Heap) (n0 : Nat) (Z0 : n0 ≤ h0.size) (B_b0 : Ba Z h0 b0 .char 4 f) (B_b1 : Ba Z h0 b1 .char 4 g) (hP0 : f 0 = P0) (hP1 : f 1 = P1) (hP2 : f 2 = P2) (hP3 : f 3 = P3) (hS0 : g 0 = S0) (hS1 : g 1 = S1) (hS2 : g 2 = S2) (hS3 : g 3 = S3) :
    MetFree l (⟨"com/example/otsing/otsing/algorithm/PartialMatchTableExtendPinLaw", "longest", "([C[CII)I"⟩ : MethodName) (head1 (Jvm.Cond.code (⟨"com/example/otsing/otsing/algorithm/PartialMatchTableExtendPinLaw", "longest", "([C[CII)I"⟩ : MethodName) method_5_code 4 (some .int) :: ws) ({ frames := 1, cells := 0, slots := 0, locals := 17 } : Room)) (fun a U => a = #[(.ref b0), (.ref b1), (.int (2 : Int32)), (.int (1 : Int32))] ∧ Z.Warmed39 U.vm ∧ U.heap = h0) (fun _ _ _ _ _ => True) (fun _ U o U' => ∃ v L, o = .returned v ∧ Q2_2_1 Z b0 b1 f g P0 P1 P2 P3 S0 S1 S2 S3 h0 n0 v U'.heap L ∧ FrameEnd U o U' L ({ frames := 1, cells := 0, slots := 0, locals := 17 } : Room).cells ({ frames := 1, cells := 0, slots := 0, locals := 17 } : Room).slots) := by
  refine MetFree.of_bodySF (plainFor_of_name pn_11909899) hisR ?_
  intro p e s m args below meth c s₁ Bd hml0 hP hK
  obtain ⟨rfl, hZ, hh⟩ := hP
  have C : Ctx p s m meth c Z "com/example/otsing/otsing/algorithm/PartialMatchTableExtendPinLaw" "longest" method_5_code 4 (some .int) := Ctx.of Bd hml0 hZ
  have X0 : Stand p l e ({ frames := 1, cells := 0, slots := 0, locals := 17 } : Room) s m #[(.ref b0), (.ref b1), (.int (2 : Int32)), (.int (1 : Int32))] below meth c s₁ [] 0 0 := Stand.of_body Bd
  have e0 : s₁.heap = h0 := by rw [← hh, Bd.state]; rfl
  have N0 := Fr.nil n0
  refine Goes.enter (ef_2_2_1 m b0 b1) ?_
  clear hK hml0 hh
  refine g_iloadN 1 rfl C X0 d2_0 rfl ?_
  refine g_iconst 2 rfl C X0 (4 : Int32) d2_1 rfl ?_
  refine g_icmp_lt_t 17 C X0 d2_2 (by decide) (by decide) (by decide) ?_
  refine g_iloadN 18 rfl C X0 d2_17 rfl ?_
  refine g_iconst 19 rfl C X0 (3 : Int32) d2_18 rfl ?_
  refine g_icmp_lt_t 34 C X0 d2_19 (by decide) (by decide) (by decide) ?_
  refine g_iloadN 35 rfl C X0 d2_34 rfl ?_
  refine g_iconst 36 rfl C X0 (2 : Int32) d2_35 rfl ?_
  refine g_icmp_lt_t 51 C X0 d2_36 (by decide) (by decide) (by decide) ?_
  refine g_iloadN 52 rfl C X0 d2_51 rfl ?_
  refine g_iconst 53 rfl C X0 (1 : Int32) d2_52 rfl ?_
  refine g_icmp_lt_f 56 rfl C X0 d2_53 (by decide) ?_
  refine g_aloadN 57 rfl C X0 d2_56 rfl rfl ?_
  refine g_aloadN 58 rfl C X0 d2_57 rfl rfl ?_
  refine g_iloadN 59 rfl C X0 d2_58 rfl ?_
  refine g_iconst 60 rfl C X0 (1 : Int32) d2_59 rfl ?_
  refine g_callS 63 rfl C X0 (argsL := [(.ref b0), (.ref b1), (.int (2 : Int32)), (.int (1 : Int32))]) (hw _ (List.mem_of_getElem? (i := 9) rfl)) (hw _ (List.mem_of_getElem? (i := 10) rfl)) (hw _ (List.mem_of_getElem? (i := 11) rfl)) (hw _ (List.mem_of_getElem? (i := 3) rfl)) e0 (rm3_2_1 l Z a0 hw [] b0 b1 f g P0 P1 P2 P3 S0 S1 S2 S3 h0 n0 Z0 B_b0 B_b1 hP0 hP1 hP2 hP3 hS0 hS1 hS2 hS3) (lenOf pd_50052798 rfl) (by decide) (by decide) (by decide) (by decide) rfl (W := 0) (Nat.le_of_eq rfl) (by decide) d2_60 rfl fun r1 T2 Lc3 X4 hQ5 => ?_
  obtain ⟨r6, rfl, hs7, Nq8, eh9⟩ := hQ5
  have N10 := Fr.app N0 Nq8
  show Goes _ _ _ _ _ _ 63 _ [(.int r6)]
  by_cases hb11 : r6.toInt = 0
  · skip
    refine g_if_eq_t 68 C X4 d2_63 (by decide) (by decide) hb11 ?_
    refine g_iconst 69 rfl C X4 (0 : Int32) d2_68 rfl ?_
    have fc12 : (1 : Int32).toInt = 1 := rfl
    have fc13 : (4 : Int32).toInt = 4 := rfl
    have fc14 : (3 : Int32).toInt = 3 := rfl
    have fc15 : (2 : Int32).toInt = 2 := rfl
    have fr16 := rng32 r6
    have fc17 : (0 : Int32).toInt = 0 := rfl
    exact g_retI C X4 rfl d2_69 eh9 (by decide) (by decide) ⟨_, rfl, by omega, N10, rfl⟩
  · skip
    refine g_if_eq_f 66 rfl C X4 d2_63 hb11 ?_
    refine g_iconst 67 rfl C X4 (1 : Int32) d2_66 rfl ?_
    have fc18 : (1 : Int32).toInt = 1 := rfl
    have fc19 : (4 : Int32).toInt = 4 := rfl
    have fc20 : (3 : Int32).toInt = 3 := rfl
    have fc21 : (2 : Int32).toInt = 2 := rfl
    have fr22 := rng32 r6
    exact g_retI C X4 rfl d2_67 eh9 (by decide) (by decide) ⟨_, rfl, by omega, N10, rfl⟩
theorem ef_3_3_1 (m : MethodId) (b0 : Addr) (b1 : Addr) : entryFrame m #[(.ref b0), (.ref b1), (.int (3 : Int32)), (.int (1 : Int32))] 6 = mkF m 0 #[.val (.ref b0), .val (.ref b1), .val (.int (3 : Int32)), .val (.int (1 : Int32)), .unset, .unset] [] := by first | (simp [entryFrame, mkF, argsToLocals, Value.category]; done) | rfl
def Q3_3_1 (Z : State) (b0 : Addr) (b1 : Addr) (f : Nat → Int32) (g : Nat → Int32) (P0 : Int32) (P1 : Int32) (P2 : Int32) (P3 : Int32) (S0 : Int32) (S1 : Int32) (S2 : Int32) (S3 : Int32) (h0 : Heap) (n0 : Nat) (v : Option Value) (h : Heap) (L : List Loc) : Prop := ∃ r : Int32, v = some (.int r) ∧ ((r.toInt = 1 ∧ (P0.toInt = S2.toInt)) ∨ (r.toInt = 0 ∧ ¬ (P0.toInt = S2.toInt))) ∧ Fr n0 L ∧ h = h0
set_option maxRecDepth 65536 in
set_option maxHeartbeats 40000000 in
theorem rm3_3_1 (l : Launch) (Z : State) (a0 : Array Value) (hw : ∀ d ∈ tables_1, d.before a0 Z = true) (ws : List Jvm.Cond) (b0 : Addr) (b1 : Addr) (f : Nat → Int32) (g : Nat → Int32) (P0 : Int32) (P1 : Int32) (P2 : Int32) (P3 : Int32) (S0 : Int32) (S1 : Int32) (S2 : Int32) (S3 : Int32) (h0 : Heap) (n0 : Nat) (Z0 : n0 ≤ h0.size) (B_b0 : Ba Z h0 b0 .char 4 f) (B_b1 : Ba Z h0 b1 .char 4 g) (hP0 : f 0 = P0) (hP1 : f 1 = P1) (hP2 : f 2 = P2) (hP3 : f 3 = P3) (hS0 : g 0 = S0) (hS1 : g 1 = S1) (hS2 : g 2 = S2) (hS3 : g 3 = S3) :
    MetFree l (⟨"com/example/otsing/otsing/algorithm/PartialMatchTableExtendPinLaw", "matches", "([C[CII)Z"⟩ : MethodName) (head1 (Jvm.Cond.code (⟨"com/example/otsing/otsing/algorithm/PartialMatchTableExtendPinLaw", "matches", "([C[CII)Z"⟩ : MethodName) method_4_code 6 (some .boolean) :: ws) ({ frames := 0, cells := 0, slots := 0, locals := 0 } : Room)) (fun a U => a = #[(.ref b0), (.ref b1), (.int (3 : Int32)), (.int (1 : Int32))] ∧ Z.Warmed39 U.vm ∧ U.heap = h0) (fun _ _ _ _ _ => True) (fun _ U o U' => ∃ v L, o = .returned v ∧ Q3_3_1 Z b0 b1 f g P0 P1 P2 P3 S0 S1 S2 S3 h0 n0 v U'.heap L ∧ FrameEnd U o U' L ({ frames := 0, cells := 0, slots := 0, locals := 0 } : Room).cells ({ frames := 0, cells := 0, slots := 0, locals := 0 } : Room).slots) := by
  refine MetFree.of_bodySF (plainFor_of_name pn_11909899) hisR ?_
  intro p e s m args below meth c s₁ Bd hml0 hP hK
  obtain ⟨rfl, hZ, hh⟩ := hP
  have C : Ctx p s m meth c Z "com/example/otsing/otsing/algorithm/PartialMatchTableExtendPinLaw" "matches" method_4_code 6 (some .boolean) := Ctx.of Bd hml0 hZ
  have X0 : Stand p l e ({ frames := 0, cells := 0, slots := 0, locals := 0 } : Room) s m #[(.ref b0), (.ref b1), (.int (3 : Int32)), (.int (1 : Int32))] below meth c s₁ [] 0 0 := Stand.of_body Bd
  have e0 : s₁.heap = h0 := by rw [← hh, Bd.state]; rfl
  have N0 := Fr.nil n0
  refine Goes.enter (ef_3_3_1 m b0 b1) ?_
  clear hK hml0 hh
  refine g_iloadN 1 rfl C X0 d3_0 rfl ?_
  refine g_iloadN 2 rfl C X0 d3_1 rfl ?_
  refine g_isub 3 rfl C X0 d3_2 ?_
  refine g_istore 5 rfl C X0 (2 : Int32) (by decide) #[.val (.ref b0), .val (.ref b1), .val (.int (3 : Int32)), .val (.int (1 : Int32)), .val (.int (2 : Int32)), .unset] d3_3 rfl ?_
  refine g_iconst 6 rfl C X0 (1 : Int32) d3_5 rfl ?_
  refine g_istore 8 rfl C X0 (1 : Int32) rfl #[.val (.ref b0), .val (.ref b1), .val (.int (3 : Int32)), .val (.int (1 : Int32)), .val (.int (2 : Int32)), .val (.int (1 : Int32))] d3_6 rfl ?_
  refine g_iloadN 9 rfl C X0 d3_8 rfl ?_
  refine g_if_le_f 12 rfl C X0 d3_9 (by decide) ?_
  refine g_aloadN 13 rfl C X0 d3_12 rfl rfl ?_
  refine g_iconst 14 rfl C X0 (0 : Int32) d3_13 rfl ?_
  refine g_caload 15 rfl C X0 e0 B_b0 0 (by decide) (by decide) P0 hP0 d3_14 ?_
  refine g_aloadN 16 rfl C X0 d3_15 rfl rfl ?_
  refine g_iload 18 rfl C X0 d3_16 rfl ?_
  refine g_caload 19 rfl C X0 e0 B_b1 2 (by decide) (by decide) S2 hS2 d3_18 ?_
  by_cases hb1 : P0.toInt = S2.toInt
  · skip
    refine g_icmp_eq_t 25 C X0 d3_19 (by decide) (by decide) hb1 ?_
    refine g_iloadN 26 rfl C X0 d3_25 rfl ?_
    refine g_iconst 27 rfl C X0 (1 : Int32) d3_26 rfl ?_
    refine g_icmp_le_t 45 C X0 d3_27 (by decide) (by decide) (by decide) ?_
    refine g_iloadN 46 rfl C X0 d3_45 rfl ?_
    refine g_iconst 47 rfl C X0 (2 : Int32) d3_46 rfl ?_
    refine g_icmp_le_t 65 C X0 d3_47 (by decide) (by decide) (by decide) ?_
    refine g_iloadN 66 rfl C X0 d3_65 rfl ?_
    refine g_iconst 67 rfl C X0 (3 : Int32) d3_66 rfl ?_
    refine g_icmp_le_t 85 C X0 d3_67 (by decide) (by decide) (by decide) ?_
    refine g_iload 87 rfl C X0 d3_85 rfl ?_
    have fc2 : (1 : Int32).toInt = 1 := rfl
    have fr3 := rng32 P0
    have fr4 := rng32 S2
    have fc5 : (2 : Int32).toInt = 2 := rfl
    have fc6 : (3 : Int32).toInt = 3 := rfl
    exact g_retN C X0 (z' := (1 : Int32)) rfl (Or.inl rfl) d3_87 e0 (by decide) (by decide) rfl ⟨_, rfl, by omega, N0, rfl⟩
  · skip
    refine g_icmp_eq_f 22 rfl C X0 d3_19 hb1 ?_
    refine g_iconst 23 rfl C X0 (0 : Int32) d3_22 rfl ?_
    refine g_istore 25 rfl C X0 (0 : Int32) rfl #[.val (.ref b0), .val (.ref b1), .val (.int (3 : Int32)), .val (.int (1 : Int32)), .val (.int (2 : Int32)), .val (.int (0 : Int32))] d3_23 rfl ?_
    refine g_iloadN 26 rfl C X0 d3_25 rfl ?_
    refine g_iconst 27 rfl C X0 (1 : Int32) d3_26 rfl ?_
    refine g_icmp_le_t 45 C X0 d3_27 (by decide) (by decide) (by decide) ?_
    refine g_iloadN 46 rfl C X0 d3_45 rfl ?_
    refine g_iconst 47 rfl C X0 (2 : Int32) d3_46 rfl ?_
    refine g_icmp_le_t 65 C X0 d3_47 (by decide) (by decide) (by decide) ?_
    refine g_iloadN 66 rfl C X0 d3_65 rfl ?_
    refine g_iconst 67 rfl C X0 (3 : Int32) d3_66 rfl ?_
    refine g_icmp_le_t 85 C X0 d3_67 (by decide) (by decide) (by decide) ?_
    refine g_iload 87 rfl C X0 d3_85 rfl ?_
    have fc7 : (1 : Int32).toInt = 1 := rfl
    have fr8 := rng32 P0
    have fr9 := rng32 S2
    have fc10 : (2 : Int32).toInt = 2 := rfl
    have fc11 : (3 : Int32).toInt = 3 := rfl
    have fc12 : (0 : Int32).toInt = 0 := rfl
    exact g_retN C X0 (z' := (0 : Int32)) rfl (Or.inl rfl) d3_87 e0 (by decide) (by decide) rfl ⟨_, rfl, by omega, N0, rfl⟩
theorem d3_30 : decode method_4_code 30 = .ok (.aload_n 0, 1) := by decide +kernel
theorem d3_31 : decode method_4_code 31 = .ok (.iconst 1, 1) := by decide +kernel
theorem d3_32 : decode method_4_code 32 = .ok (.caload, 1) := by decide +kernel
theorem d3_33 : decode method_4_code 33 = .ok (.aload_n 1, 1) := by decide +kernel
theorem d3_34 : decode method_4_code 34 = .ok (.iload 4, 2) := by decide +kernel
theorem d3_36 : decode method_4_code 36 = .ok (.iconst 1, 1) := by decide +kernel
theorem d3_37 : decode method_4_code 37 = .ok (.iadd, 1) := by decide +kernel
theorem d3_38 : decode method_4_code 38 = .ok (.caload, 1) := by decide +kernel
theorem d3_39 : decode method_4_code 39 = .ok (.if_icmp .eq 6, 3) := by decide +kernel
theorem d3_42 : decode method_4_code 42 = .ok (.iconst 0, 1) := by decide +kernel
theorem d3_43 : decode method_4_code 43 = .ok (.istore 5, 2) := by decide +kernel
theorem ef_3_3_2 (m : MethodId) (b0 : Addr) (b1 : Addr) : entryFrame m #[(.ref b0), (.ref b1), (.int (3 : Int32)), (.int (2 : Int32))] 6 = mkF m 0 #[.val (.ref b0), .val (.ref b1), .val (.int (3 : Int32)), .val (.int (2 : Int32)), .unset, .unset] [] := by first | (simp [entryFrame, mkF, argsToLocals, Value.category]; done) | rfl
def Q3_3_2 (Z : State) (b0 : Addr) (b1 : Addr) (f : Nat → Int32) (g : Nat → Int32) (P0 : Int32) (P1 : Int32) (P2 : Int32) (P3 : Int32) (S0 : Int32) (S1 : Int32) (S2 : Int32) (S3 : Int32) (h0 : Heap) (n0 : Nat) (v : Option Value) (h : Heap) (L : List Loc) : Prop := ∃ r : Int32, v = some (.int r) ∧ ((r.toInt = 1 ∧ (P0.toInt = S1.toInt ∧ P1.toInt = S2.toInt)) ∨ (r.toInt = 0 ∧ ¬ (P0.toInt = S1.toInt ∧ P1.toInt = S2.toInt))) ∧ Fr n0 L ∧ h = h0
set_option maxRecDepth 65536 in
set_option maxHeartbeats 40000000 in
theorem rm3_3_2 (l : Launch) (Z : State) (a0 : Array Value) (hw : ∀ d ∈ tables_1, d.before a0 Z = true) (ws : List Jvm.Cond) (b0 : Addr) (b1 : Addr) (f : Nat → Int32) (g : Nat → Int32) (P0 : Int32) (P1 : Int32) (P2 : Int32) (P3 : Int32) (S0 : Int32) (S1 : Int32) (S2 : Int32) (S3 : Int32) (h0 : Heap) (n0 : Nat) (Z0 : n0 ≤ h0.size) (B_b0 : Ba Z h0 b0 .char 4 f) (B_b1 : Ba Z h0 b1 .char 4 g) (hP0 : f 0 = P0) (hP1 : f 1 = P1) (hP2 : f 2 = P2) (hP3 : f 3 = P3) (hS0 : g 0 = S0) (hS1 : g 1 = S1) (hS2 : g 2 = S2) (hS3 : g 3 = S3) :
    MetFree l (⟨"com/example/otsing/otsing/algorithm/PartialMatchTableExtendPinLaw", "matches", "([C[CII)Z"⟩ : MethodName) (head1 (Jvm.Cond.code (⟨"com/example/otsing/otsing/algorithm/PartialMatchTableExtendPinLaw", "matches", "([C[CII)Z"⟩ : MethodName) method_4_code 6 (some .boolean) :: ws) ({ frames := 0, cells := 0, slots := 0, locals := 0 } : Room)) (fun a U => a = #[(.ref b0), (.ref b1), (.int (3 : Int32)), (.int (2 : Int32))] ∧ Z.Warmed39 U.vm ∧ U.heap = h0) (fun _ _ _ _ _ => True) (fun _ U o U' => ∃ v L, o = .returned v ∧ Q3_3_2 Z b0 b1 f g P0 P1 P2 P3 S0 S1 S2 S3 h0 n0 v U'.heap L ∧ FrameEnd U o U' L ({ frames := 0, cells := 0, slots := 0, locals := 0 } : Room).cells ({ frames := 0, cells := 0, slots := 0, locals := 0 } : Room).slots) := by
  refine MetFree.of_bodySF (plainFor_of_name pn_11909899) hisR ?_
  intro p e s m args below meth c s₁ Bd hml0 hP hK
  obtain ⟨rfl, hZ, hh⟩ := hP
  have C : Ctx p s m meth c Z "com/example/otsing/otsing/algorithm/PartialMatchTableExtendPinLaw" "matches" method_4_code 6 (some .boolean) := Ctx.of Bd hml0 hZ
  have X0 : Stand p l e ({ frames := 0, cells := 0, slots := 0, locals := 0 } : Room) s m #[(.ref b0), (.ref b1), (.int (3 : Int32)), (.int (2 : Int32))] below meth c s₁ [] 0 0 := Stand.of_body Bd
  have e0 : s₁.heap = h0 := by rw [← hh, Bd.state]; rfl
  have N0 := Fr.nil n0
  refine Goes.enter (ef_3_3_2 m b0 b1) ?_
  clear hK hml0 hh
  refine g_iloadN 1 rfl C X0 d3_0 rfl ?_
  refine g_iloadN 2 rfl C X0 d3_1 rfl ?_
  refine g_isub 3 rfl C X0 d3_2 ?_
  refine g_istore 5 rfl C X0 (1 : Int32) (by decide) #[.val (.ref b0), .val (.ref b1), .val (.int (3 : Int32)), .val (.int (2 : Int32)), .val (.int (1 : Int32)), .unset] d3_3 rfl ?_
  refine g_iconst 6 rfl C X0 (1 : Int32) d3_5 rfl ?_
  refine g_istore 8 rfl C X0 (1 : Int32) rfl #[.val (.ref b0), .val (.ref b1), .val (.int (3 : Int32)), .val (.int (2 : Int32)), .val (.int (1 : Int32)), .val (.int (1 : Int32))] d3_6 rfl ?_
  refine g_iloadN 9 rfl C X0 d3_8 rfl ?_
  refine g_if_le_f 12 rfl C X0 d3_9 (by decide) ?_
  refine g_aloadN 13 rfl C X0 d3_12 rfl rfl ?_
  refine g_iconst 14 rfl C X0 (0 : Int32) d3_13 rfl ?_
  refine g_caload 15 rfl C X0 e0 B_b0 0 (by decide) (by decide) P0 hP0 d3_14 ?_
  refine g_aloadN 16 rfl C X0 d3_15 rfl rfl ?_
  refine g_iload 18 rfl C X0 d3_16 rfl ?_
  refine g_caload 19 rfl C X0 e0 B_b1 1 (by decide) (by decide) S1 hS1 d3_18 ?_
  by_cases hb1 : P0.toInt = S1.toInt
  · skip
    refine g_icmp_eq_t 25 C X0 d3_19 (by decide) (by decide) hb1 ?_
    refine g_iloadN 26 rfl C X0 d3_25 rfl ?_
    refine g_iconst 27 rfl C X0 (1 : Int32) d3_26 rfl ?_
    refine g_icmp_le_f 30 rfl C X0 d3_27 (by decide) ?_
    refine g_aloadN 31 rfl C X0 d3_30 rfl rfl ?_
    refine g_iconst 32 rfl C X0 (1 : Int32) d3_31 rfl ?_
    refine g_caload 33 rfl C X0 e0 B_b0 1 (by decide) (by decide) P1 hP1 d3_32 ?_
    refine g_aloadN 34 rfl C X0 d3_33 rfl rfl ?_
    refine g_iload 36 rfl C X0 d3_34 rfl ?_
    refine g_iconst 37 rfl C X0 (1 : Int32) d3_36 rfl ?_
    refine g_iadd 38 rfl C X0 d3_37 ?_
    refine g_caload 39 rfl C X0 e0 B_b1 2 (by decide) (by decide) S2 hS2 d3_38 ?_
    by_cases hb2 : P1.toInt = S2.toInt
    · skip
      refine g_icmp_eq_t 45 C X0 d3_39 (by decide) (by decide) hb2 ?_
      refine g_iloadN 46 rfl C X0 d3_45 rfl ?_
      refine g_iconst 47 rfl C X0 (2 : Int32) d3_46 rfl ?_
      refine g_icmp_le_t 65 C X0 d3_47 (by decide) (by decide) (by decide) ?_
      refine g_iloadN 66 rfl C X0 d3_65 rfl ?_
      refine g_iconst 67 rfl C X0 (3 : Int32) d3_66 rfl ?_
      refine g_icmp_le_t 85 C X0 d3_67 (by decide) (by decide) (by decide) ?_
      refine g_iload 87 rfl C X0 d3_85 rfl ?_
      have fc3 : (2 : Int32).toInt = 2 := rfl
      have fr4 := rng32 P0
      have fr5 := rng32 S1
      have fc6 : (1 : Int32).toInt = 1 := rfl
      have fr7 := rng32 P1
      have fr8 := rng32 S2
      have fc9 : (3 : Int32).toInt = 3 := rfl
      exact g_retN C X0 (z' := (1 : Int32)) rfl (Or.inl rfl) d3_87 e0 (by decide) (by decide) rfl ⟨_, rfl, by omega, N0, rfl⟩
    · skip
      refine g_icmp_eq_f 42 rfl C X0 d3_39 hb2 ?_
      refine g_iconst 43 rfl C X0 (0 : Int32) d3_42 rfl ?_
      refine g_istore 45 rfl C X0 (0 : Int32) rfl #[.val (.ref b0), .val (.ref b1), .val (.int (3 : Int32)), .val (.int (2 : Int32)), .val (.int (1 : Int32)), .val (.int (0 : Int32))] d3_43 rfl ?_
      refine g_iloadN 46 rfl C X0 d3_45 rfl ?_
      refine g_iconst 47 rfl C X0 (2 : Int32) d3_46 rfl ?_
      refine g_icmp_le_t 65 C X0 d3_47 (by decide) (by decide) (by decide) ?_
      refine g_iloadN 66 rfl C X0 d3_65 rfl ?_
      refine g_iconst 67 rfl C X0 (3 : Int32) d3_66 rfl ?_
      refine g_icmp_le_t 85 C X0 d3_67 (by decide) (by decide) (by decide) ?_
      refine g_iload 87 rfl C X0 d3_85 rfl ?_
      have fc10 : (2 : Int32).toInt = 2 := rfl
      have fr11 := rng32 P0
      have fr12 := rng32 S1
      have fc13 : (1 : Int32).toInt = 1 := rfl
      have fr14 := rng32 P1
      have fr15 := rng32 S2
      have fc16 : (3 : Int32).toInt = 3 := rfl
      have fc17 : (0 : Int32).toInt = 0 := rfl
      exact g_retN C X0 (z' := (0 : Int32)) rfl (Or.inl rfl) d3_87 e0 (by decide) (by decide) rfl ⟨_, rfl, by omega, N0, rfl⟩
  · skip
    refine g_icmp_eq_f 22 rfl C X0 d3_19 hb1 ?_
    refine g_iconst 23 rfl C X0 (0 : Int32) d3_22 rfl ?_
    refine g_istore 25 rfl C X0 (0 : Int32) rfl #[.val (.ref b0), .val (.ref b1), .val (.int (3 : Int32)), .val (.int (2 : Int32)), .val (.int (1 : Int32)), .val (.int (0 : Int32))] d3_23 rfl ?_
    refine g_iloadN 26 rfl C X0 d3_25 rfl ?_
    refine g_iconst 27 rfl C X0 (1 : Int32) d3_26 rfl ?_
    refine g_icmp_le_f 30 rfl C X0 d3_27 (by decide) ?_
    refine g_aloadN 31 rfl C X0 d3_30 rfl rfl ?_
    refine g_iconst 32 rfl C X0 (1 : Int32) d3_31 rfl ?_
    refine g_caload 33 rfl C X0 e0 B_b0 1 (by decide) (by decide) P1 hP1 d3_32 ?_
    refine g_aloadN 34 rfl C X0 d3_33 rfl rfl ?_
    refine g_iload 36 rfl C X0 d3_34 rfl ?_
    refine g_iconst 37 rfl C X0 (1 : Int32) d3_36 rfl ?_
    refine g_iadd 38 rfl C X0 d3_37 ?_
    refine g_caload 39 rfl C X0 e0 B_b1 2 (by decide) (by decide) S2 hS2 d3_38 ?_
    by_cases hb18 : P1.toInt = S2.toInt
    · skip
      refine g_icmp_eq_t 45 C X0 d3_39 (by decide) (by decide) hb18 ?_
      refine g_iloadN 46 rfl C X0 d3_45 rfl ?_
      refine g_iconst 47 rfl C X0 (2 : Int32) d3_46 rfl ?_
      refine g_icmp_le_t 65 C X0 d3_47 (by decide) (by decide) (by decide) ?_
      refine g_iloadN 66 rfl C X0 d3_65 rfl ?_
      refine g_iconst 67 rfl C X0 (3 : Int32) d3_66 rfl ?_
      refine g_icmp_le_t 85 C X0 d3_67 (by decide) (by decide) (by decide) ?_
      refine g_iload 87 rfl C X0 d3_85 rfl ?_
      have fc19 : (2 : Int32).toInt = 2 := rfl
      have fr20 := rng32 P0
      have fr21 := rng32 S1
      have fc22 : (1 : Int32).toInt = 1 := rfl
      have fr23 := rng32 P1
      have fr24 := rng32 S2
      have fc25 : (3 : Int32).toInt = 3 := rfl
      have fc26 : (0 : Int32).toInt = 0 := rfl
      exact g_retN C X0 (z' := (0 : Int32)) rfl (Or.inl rfl) d3_87 e0 (by decide) (by decide) rfl ⟨_, rfl, by omega, N0, rfl⟩
    · skip
      refine g_icmp_eq_f 42 rfl C X0 d3_39 hb18 ?_
      refine g_iconst 43 rfl C X0 (0 : Int32) d3_42 rfl ?_
      refine g_istore 45 rfl C X0 (0 : Int32) rfl #[.val (.ref b0), .val (.ref b1), .val (.int (3 : Int32)), .val (.int (2 : Int32)), .val (.int (1 : Int32)), .val (.int (0 : Int32))] d3_43 rfl ?_
      refine g_iloadN 46 rfl C X0 d3_45 rfl ?_
      refine g_iconst 47 rfl C X0 (2 : Int32) d3_46 rfl ?_
      refine g_icmp_le_t 65 C X0 d3_47 (by decide) (by decide) (by decide) ?_
      refine g_iloadN 66 rfl C X0 d3_65 rfl ?_
      refine g_iconst 67 rfl C X0 (3 : Int32) d3_66 rfl ?_
      refine g_icmp_le_t 85 C X0 d3_67 (by decide) (by decide) (by decide) ?_
      refine g_iload 87 rfl C X0 d3_85 rfl ?_
      have fc27 : (2 : Int32).toInt = 2 := rfl
      have fr28 := rng32 P0
      have fr29 := rng32 S1
      have fc30 : (1 : Int32).toInt = 1 := rfl
      have fr31 := rng32 P1
      have fr32 := rng32 S2
      have fc33 : (3 : Int32).toInt = 3 := rfl
      have fc34 : (0 : Int32).toInt = 0 := rfl
      exact g_retN C X0 (z' := (0 : Int32)) rfl (Or.inl rfl) d3_87 e0 (by decide) (by decide) rfl ⟨_, rfl, by omega, N0, rfl⟩
theorem d2_39 : decode method_5_code 39 = .ok (.aload_n 0, 1) := by decide +kernel
theorem d2_40 : decode method_5_code 40 = .ok (.aload_n 1, 1) := by decide +kernel
theorem d2_41 : decode method_5_code 41 = .ok (.iload_n 2, 1) := by decide +kernel
theorem d2_42 : decode method_5_code 42 = .ok (.iconst 2, 1) := by decide +kernel
theorem d2_43 : decode method_5_code 43 = .ok (.invokestatic 23, 3) := by decide +kernel
theorem d2_46 : decode method_5_code 46 = .ok (.ifCond .eq 5, 3) := by decide +kernel
theorem d2_49 : decode method_5_code 49 = .ok (.iconst 2, 1) := by decide +kernel
theorem d2_50 : decode method_5_code 50 = .ok (.ireturn, 1) := by decide +kernel
theorem ef_2_3_2 (m : MethodId) (b0 : Addr) (b1 : Addr) : entryFrame m #[(.ref b0), (.ref b1), (.int (3 : Int32)), (.int (2 : Int32))] 4 = mkF m 0 #[.val (.ref b0), .val (.ref b1), .val (.int (3 : Int32)), .val (.int (2 : Int32))] [] := by first | (simp [entryFrame, mkF, argsToLocals, Value.category]; done) | rfl
def Q2_3_2 (Z : State) (b0 : Addr) (b1 : Addr) (f : Nat → Int32) (g : Nat → Int32) (P0 : Int32) (P1 : Int32) (P2 : Int32) (P3 : Int32) (S0 : Int32) (S1 : Int32) (S2 : Int32) (S3 : Int32) (h0 : Heap) (n0 : Nat) (v : Option Value) (h : Heap) (L : List Loc) : Prop := ∃ r : Int32, v = some (.int r) ∧ (((r.toInt = 2 ∧ (P0.toInt = S1.toInt ∧ P1.toInt = S2.toInt)) ∨ (¬ (P0.toInt = S1.toInt ∧ P1.toInt = S2.toInt) ∧ ((r.toInt = 1 ∧ (P0.toInt = S2.toInt)) ∨ (¬ (P0.toInt = S2.toInt) ∧ r.toInt = 0))))) ∧ Fr n0 L ∧ h = h0
set_option maxRecDepth 65536 in
set_option maxHeartbeats 40000000 in
theorem rm2_3_2 (l : Launch) (Z : State) (a0 : Array Value) (hw : ∀ d ∈ tables_1, d.before a0 Z = true) (ws : List Jvm.Cond) (b0 : Addr) (b1 : Addr) (f : Nat → Int32) (g : Nat → Int32) (P0 : Int32) (P1 : Int32) (P2 : Int32) (P3 : Int32) (S0 : Int32) (S1 : Int32) (S2 : Int32) (S3 : Int32) (h0 : Heap) (n0 : Nat) (Z0 : n0 ≤ h0.size) (B_b0 : Ba Z h0 b0 .char 4 f) (B_b1 : Ba Z h0 b1 .char 4 g) (hP0 : f 0 = P0) (hP1 : f 1 = P1) (hP2 : f 2 = P2) (hP3 : f 3 = P3) (hS0 : g 0 = S0) (hS1 : g 1 = S1) (hS2 : g 2 = S2) (hS3 : g 3 = S3) :
    MetFree l (⟨"com/example/otsing/otsing/algorithm/PartialMatchTableExtendPinLaw", "longest", "([C[CII)I"⟩ : MethodName) (head1 (Jvm.Cond.code (⟨"com/example/otsing/otsing/algorithm/PartialMatchTableExtendPinLaw", "longest", "([C[CII)I"⟩ : MethodName) method_5_code 4 (some .int) :: ws) ({ frames := 1, cells := 0, slots := 0, locals := 17 } : Room)) (fun a U => a = #[(.ref b0), (.ref b1), (.int (3 : Int32)), (.int (2 : Int32))] ∧ Z.Warmed39 U.vm ∧ U.heap = h0) (fun _ _ _ _ _ => True) (fun _ U o U' => ∃ v L, o = .returned v ∧ Q2_3_2 Z b0 b1 f g P0 P1 P2 P3 S0 S1 S2 S3 h0 n0 v U'.heap L ∧ FrameEnd U o U' L ({ frames := 1, cells := 0, slots := 0, locals := 17 } : Room).cells ({ frames := 1, cells := 0, slots := 0, locals := 17 } : Room).slots) := by
  refine MetFree.of_bodySF (plainFor_of_name pn_11909899) hisR ?_
  intro p e s m args below meth c s₁ Bd hml0 hP hK
  obtain ⟨rfl, hZ, hh⟩ := hP
  have C : Ctx p s m meth c Z "com/example/otsing/otsing/algorithm/PartialMatchTableExtendPinLaw" "longest" method_5_code 4 (some .int) := Ctx.of Bd hml0 hZ
  have X0 : Stand p l e ({ frames := 1, cells := 0, slots := 0, locals := 17 } : Room) s m #[(.ref b0), (.ref b1), (.int (3 : Int32)), (.int (2 : Int32))] below meth c s₁ [] 0 0 := Stand.of_body Bd
  have e0 : s₁.heap = h0 := by rw [← hh, Bd.state]; rfl
  have N0 := Fr.nil n0
  refine Goes.enter (ef_2_3_2 m b0 b1) ?_
  clear hK hml0 hh
  refine g_iloadN 1 rfl C X0 d2_0 rfl ?_
  refine g_iconst 2 rfl C X0 (4 : Int32) d2_1 rfl ?_
  refine g_icmp_lt_t 17 C X0 d2_2 (by decide) (by decide) (by decide) ?_
  refine g_iloadN 18 rfl C X0 d2_17 rfl ?_
  refine g_iconst 19 rfl C X0 (3 : Int32) d2_18 rfl ?_
  refine g_icmp_lt_t 34 C X0 d2_19 (by decide) (by decide) (by decide) ?_
  refine g_iloadN 35 rfl C X0 d2_34 rfl ?_
  refine g_iconst 36 rfl C X0 (2 : Int32) d2_35 rfl ?_
  refine g_icmp_lt_f 39 rfl C X0 d2_36 (by decide) ?_
  refine g_aloadN 40 rfl C X0 d2_39 rfl rfl ?_
  refine g_aloadN 41 rfl C X0 d2_40 rfl rfl ?_
  refine g_iloadN 42 rfl C X0 d2_41 rfl ?_
  refine g_iconst 43 rfl C X0 (2 : Int32) d2_42 rfl ?_
  refine g_callS 46 rfl C X0 (argsL := [(.ref b0), (.ref b1), (.int (3 : Int32)), (.int (2 : Int32))]) (hw _ (List.mem_of_getElem? (i := 9) rfl)) (hw _ (List.mem_of_getElem? (i := 10) rfl)) (hw _ (List.mem_of_getElem? (i := 11) rfl)) (hw _ (List.mem_of_getElem? (i := 3) rfl)) e0 (rm3_3_2 l Z a0 hw [] b0 b1 f g P0 P1 P2 P3 S0 S1 S2 S3 h0 n0 Z0 B_b0 B_b1 hP0 hP1 hP2 hP3 hS0 hS1 hS2 hS3) (lenOf pd_50052798 rfl) (by decide) (by decide) (by decide) (by decide) rfl (W := 0) (Nat.le_of_eq rfl) (by decide) d2_43 rfl fun r1 T2 Lc3 X4 hQ5 => ?_
  obtain ⟨r6, rfl, hs7, Nq8, eh9⟩ := hQ5
  have N10 := Fr.app N0 Nq8
  show Goes _ _ _ _ _ _ 46 _ [(.int r6)]
  by_cases hb11 : r6.toInt = 0
  · skip
    refine g_if_eq_t 51 C X4 d2_46 (by decide) (by decide) hb11 ?_
    refine g_iloadN 52 rfl C X4 d2_51 rfl ?_
    refine g_iconst 53 rfl C X4 (1 : Int32) d2_52 rfl ?_
    refine g_icmp_lt_f 56 rfl C X4 d2_53 (by decide) ?_
    refine g_aloadN 57 rfl C X4 d2_56 rfl rfl ?_
    refine g_aloadN 58 rfl C X4 d2_57 rfl rfl ?_
    refine g_iloadN 59 rfl C X4 d2_58 rfl ?_
    refine g_iconst 60 rfl C X4 (1 : Int32) d2_59 rfl ?_
    refine g_callS 63 rfl C X4 (argsL := [(.ref b0), (.ref b1), (.int (3 : Int32)), (.int (1 : Int32))]) (hw _ (List.mem_of_getElem? (i := 9) rfl)) (hw _ (List.mem_of_getElem? (i := 10) rfl)) (hw _ (List.mem_of_getElem? (i := 11) rfl)) (hw _ (List.mem_of_getElem? (i := 3) rfl)) eh9 (rm3_3_1 l Z a0 hw [] b0 b1 f g P0 P1 P2 P3 S0 S1 S2 S3 h0 n0 Z0 B_b0 B_b1 hP0 hP1 hP2 hP3 hS0 hS1 hS2 hS3) (lenOf pd_50052798 rfl) (by decide) (by decide) (by decide) (by decide) rfl (W := 0) (Nat.le_of_eq rfl) (by decide) d2_60 rfl fun r12 T13 Lc14 X15 hQ16 => ?_
    obtain ⟨r17, rfl, hs18, Nq19, eh20⟩ := hQ16
    have N21 := Fr.app N10 Nq19
    show Goes _ _ _ _ _ _ 63 _ [(.int r17)]
    by_cases hb22 : r17.toInt = 0
    · skip
      refine g_if_eq_t 68 C X15 d2_63 (by decide) (by decide) hb22 ?_
      refine g_iconst 69 rfl C X15 (0 : Int32) d2_68 rfl ?_
      have fc23 : (2 : Int32).toInt = 2 := rfl
      have fc24 : (4 : Int32).toInt = 4 := rfl
      have fc25 : (3 : Int32).toInt = 3 := rfl
      have fr26 := rng32 r6
      have fc27 : (1 : Int32).toInt = 1 := rfl
      have fr28 := rng32 r17
      have fc29 : (0 : Int32).toInt = 0 := rfl
      exact g_retI C X15 rfl d2_69 eh20 (by decide) (by decide) ⟨_, rfl, by omega, N21, rfl⟩
    · skip
      refine g_if_eq_f 66 rfl C X15 d2_63 hb22 ?_
      refine g_iconst 67 rfl C X15 (1 : Int32) d2_66 rfl ?_
      have fc30 : (2 : Int32).toInt = 2 := rfl
      have fc31 : (4 : Int32).toInt = 4 := rfl
      have fc32 : (3 : Int32).toInt = 3 := rfl
      have fr33 := rng32 r6
      have fc34 : (1 : Int32).toInt = 1 := rfl
      have fr35 := rng32 r17
      exact g_retI C X15 rfl d2_67 eh20 (by decide) (by decide) ⟨_, rfl, by omega, N21, rfl⟩
  · skip
    refine g_if_eq_f 49 rfl C X4 d2_46 hb11 ?_
    refine g_iconst 50 rfl C X4 (2 : Int32) d2_49 rfl ?_
    have fc36 : (2 : Int32).toInt = 2 := rfl
    have fc37 : (4 : Int32).toInt = 4 := rfl
    have fc38 : (3 : Int32).toInt = 3 := rfl
    have fr39 := rng32 r6
    exact g_retI C X4 rfl d2_50 eh9 (by decide) (by decide) ⟨_, rfl, by omega, N10, rfl⟩
theorem ef_3_4_1 (m : MethodId) (b0 : Addr) (b1 : Addr) : entryFrame m #[(.ref b0), (.ref b1), (.int (4 : Int32)), (.int (1 : Int32))] 6 = mkF m 0 #[.val (.ref b0), .val (.ref b1), .val (.int (4 : Int32)), .val (.int (1 : Int32)), .unset, .unset] [] := by first | (simp [entryFrame, mkF, argsToLocals, Value.category]; done) | rfl
def Q3_4_1 (Z : State) (b0 : Addr) (b1 : Addr) (f : Nat → Int32) (g : Nat → Int32) (P0 : Int32) (P1 : Int32) (P2 : Int32) (P3 : Int32) (S0 : Int32) (S1 : Int32) (S2 : Int32) (S3 : Int32) (h0 : Heap) (n0 : Nat) (v : Option Value) (h : Heap) (L : List Loc) : Prop := ∃ r : Int32, v = some (.int r) ∧ ((r.toInt = 1 ∧ (P0.toInt = S3.toInt)) ∨ (r.toInt = 0 ∧ ¬ (P0.toInt = S3.toInt))) ∧ Fr n0 L ∧ h = h0
set_option maxRecDepth 65536 in
set_option maxHeartbeats 40000000 in
theorem rm3_4_1 (l : Launch) (Z : State) (a0 : Array Value) (hw : ∀ d ∈ tables_1, d.before a0 Z = true) (ws : List Jvm.Cond) (b0 : Addr) (b1 : Addr) (f : Nat → Int32) (g : Nat → Int32) (P0 : Int32) (P1 : Int32) (P2 : Int32) (P3 : Int32) (S0 : Int32) (S1 : Int32) (S2 : Int32) (S3 : Int32) (h0 : Heap) (n0 : Nat) (Z0 : n0 ≤ h0.size) (B_b0 : Ba Z h0 b0 .char 4 f) (B_b1 : Ba Z h0 b1 .char 4 g) (hP0 : f 0 = P0) (hP1 : f 1 = P1) (hP2 : f 2 = P2) (hP3 : f 3 = P3) (hS0 : g 0 = S0) (hS1 : g 1 = S1) (hS2 : g 2 = S2) (hS3 : g 3 = S3) :
    MetFree l (⟨"com/example/otsing/otsing/algorithm/PartialMatchTableExtendPinLaw", "matches", "([C[CII)Z"⟩ : MethodName) (head1 (Jvm.Cond.code (⟨"com/example/otsing/otsing/algorithm/PartialMatchTableExtendPinLaw", "matches", "([C[CII)Z"⟩ : MethodName) method_4_code 6 (some .boolean) :: ws) ({ frames := 0, cells := 0, slots := 0, locals := 0 } : Room)) (fun a U => a = #[(.ref b0), (.ref b1), (.int (4 : Int32)), (.int (1 : Int32))] ∧ Z.Warmed39 U.vm ∧ U.heap = h0) (fun _ _ _ _ _ => True) (fun _ U o U' => ∃ v L, o = .returned v ∧ Q3_4_1 Z b0 b1 f g P0 P1 P2 P3 S0 S1 S2 S3 h0 n0 v U'.heap L ∧ FrameEnd U o U' L ({ frames := 0, cells := 0, slots := 0, locals := 0 } : Room).cells ({ frames := 0, cells := 0, slots := 0, locals := 0 } : Room).slots) := by
  refine MetFree.of_bodySF (plainFor_of_name pn_11909899) hisR ?_
  intro p e s m args below meth c s₁ Bd hml0 hP hK
  obtain ⟨rfl, hZ, hh⟩ := hP
  have C : Ctx p s m meth c Z "com/example/otsing/otsing/algorithm/PartialMatchTableExtendPinLaw" "matches" method_4_code 6 (some .boolean) := Ctx.of Bd hml0 hZ
  have X0 : Stand p l e ({ frames := 0, cells := 0, slots := 0, locals := 0 } : Room) s m #[(.ref b0), (.ref b1), (.int (4 : Int32)), (.int (1 : Int32))] below meth c s₁ [] 0 0 := Stand.of_body Bd
  have e0 : s₁.heap = h0 := by rw [← hh, Bd.state]; rfl
  have N0 := Fr.nil n0
  refine Goes.enter (ef_3_4_1 m b0 b1) ?_
  clear hK hml0 hh
  refine g_iloadN 1 rfl C X0 d3_0 rfl ?_
  refine g_iloadN 2 rfl C X0 d3_1 rfl ?_
  refine g_isub 3 rfl C X0 d3_2 ?_
  refine g_istore 5 rfl C X0 (3 : Int32) (by decide) #[.val (.ref b0), .val (.ref b1), .val (.int (4 : Int32)), .val (.int (1 : Int32)), .val (.int (3 : Int32)), .unset] d3_3 rfl ?_
  refine g_iconst 6 rfl C X0 (1 : Int32) d3_5 rfl ?_
  refine g_istore 8 rfl C X0 (1 : Int32) rfl #[.val (.ref b0), .val (.ref b1), .val (.int (4 : Int32)), .val (.int (1 : Int32)), .val (.int (3 : Int32)), .val (.int (1 : Int32))] d3_6 rfl ?_
  refine g_iloadN 9 rfl C X0 d3_8 rfl ?_
  refine g_if_le_f 12 rfl C X0 d3_9 (by decide) ?_
  refine g_aloadN 13 rfl C X0 d3_12 rfl rfl ?_
  refine g_iconst 14 rfl C X0 (0 : Int32) d3_13 rfl ?_
  refine g_caload 15 rfl C X0 e0 B_b0 0 (by decide) (by decide) P0 hP0 d3_14 ?_
  refine g_aloadN 16 rfl C X0 d3_15 rfl rfl ?_
  refine g_iload 18 rfl C X0 d3_16 rfl ?_
  refine g_caload 19 rfl C X0 e0 B_b1 3 (by decide) (by decide) S3 hS3 d3_18 ?_
  by_cases hb1 : P0.toInt = S3.toInt
  · skip
    refine g_icmp_eq_t 25 C X0 d3_19 (by decide) (by decide) hb1 ?_
    refine g_iloadN 26 rfl C X0 d3_25 rfl ?_
    refine g_iconst 27 rfl C X0 (1 : Int32) d3_26 rfl ?_
    refine g_icmp_le_t 45 C X0 d3_27 (by decide) (by decide) (by decide) ?_
    refine g_iloadN 46 rfl C X0 d3_45 rfl ?_
    refine g_iconst 47 rfl C X0 (2 : Int32) d3_46 rfl ?_
    refine g_icmp_le_t 65 C X0 d3_47 (by decide) (by decide) (by decide) ?_
    refine g_iloadN 66 rfl C X0 d3_65 rfl ?_
    refine g_iconst 67 rfl C X0 (3 : Int32) d3_66 rfl ?_
    refine g_icmp_le_t 85 C X0 d3_67 (by decide) (by decide) (by decide) ?_
    refine g_iload 87 rfl C X0 d3_85 rfl ?_
    have fc2 : (1 : Int32).toInt = 1 := rfl
    have fr3 := rng32 P0
    have fr4 := rng32 S3
    have fc5 : (2 : Int32).toInt = 2 := rfl
    have fc6 : (3 : Int32).toInt = 3 := rfl
    exact g_retN C X0 (z' := (1 : Int32)) rfl (Or.inl rfl) d3_87 e0 (by decide) (by decide) rfl ⟨_, rfl, by omega, N0, rfl⟩
  · skip
    refine g_icmp_eq_f 22 rfl C X0 d3_19 hb1 ?_
    refine g_iconst 23 rfl C X0 (0 : Int32) d3_22 rfl ?_
    refine g_istore 25 rfl C X0 (0 : Int32) rfl #[.val (.ref b0), .val (.ref b1), .val (.int (4 : Int32)), .val (.int (1 : Int32)), .val (.int (3 : Int32)), .val (.int (0 : Int32))] d3_23 rfl ?_
    refine g_iloadN 26 rfl C X0 d3_25 rfl ?_
    refine g_iconst 27 rfl C X0 (1 : Int32) d3_26 rfl ?_
    refine g_icmp_le_t 45 C X0 d3_27 (by decide) (by decide) (by decide) ?_
    refine g_iloadN 46 rfl C X0 d3_45 rfl ?_
    refine g_iconst 47 rfl C X0 (2 : Int32) d3_46 rfl ?_
    refine g_icmp_le_t 65 C X0 d3_47 (by decide) (by decide) (by decide) ?_
    refine g_iloadN 66 rfl C X0 d3_65 rfl ?_
    refine g_iconst 67 rfl C X0 (3 : Int32) d3_66 rfl ?_
    refine g_icmp_le_t 85 C X0 d3_67 (by decide) (by decide) (by decide) ?_
    refine g_iload 87 rfl C X0 d3_85 rfl ?_
    have fc7 : (1 : Int32).toInt = 1 := rfl
    have fr8 := rng32 P0
    have fr9 := rng32 S3
    have fc10 : (2 : Int32).toInt = 2 := rfl
    have fc11 : (3 : Int32).toInt = 3 := rfl
    have fc12 : (0 : Int32).toInt = 0 := rfl
    exact g_retN C X0 (z' := (0 : Int32)) rfl (Or.inl rfl) d3_87 e0 (by decide) (by decide) rfl ⟨_, rfl, by omega, N0, rfl⟩
theorem ef_3_4_2 (m : MethodId) (b0 : Addr) (b1 : Addr) : entryFrame m #[(.ref b0), (.ref b1), (.int (4 : Int32)), (.int (2 : Int32))] 6 = mkF m 0 #[.val (.ref b0), .val (.ref b1), .val (.int (4 : Int32)), .val (.int (2 : Int32)), .unset, .unset] [] := by first | (simp [entryFrame, mkF, argsToLocals, Value.category]; done) | rfl
def Q3_4_2 (Z : State) (b0 : Addr) (b1 : Addr) (f : Nat → Int32) (g : Nat → Int32) (P0 : Int32) (P1 : Int32) (P2 : Int32) (P3 : Int32) (S0 : Int32) (S1 : Int32) (S2 : Int32) (S3 : Int32) (h0 : Heap) (n0 : Nat) (v : Option Value) (h : Heap) (L : List Loc) : Prop := ∃ r : Int32, v = some (.int r) ∧ ((r.toInt = 1 ∧ (P0.toInt = S2.toInt ∧ P1.toInt = S3.toInt)) ∨ (r.toInt = 0 ∧ ¬ (P0.toInt = S2.toInt ∧ P1.toInt = S3.toInt))) ∧ Fr n0 L ∧ h = h0
set_option maxRecDepth 65536 in
set_option maxHeartbeats 40000000 in
theorem rm3_4_2 (l : Launch) (Z : State) (a0 : Array Value) (hw : ∀ d ∈ tables_1, d.before a0 Z = true) (ws : List Jvm.Cond) (b0 : Addr) (b1 : Addr) (f : Nat → Int32) (g : Nat → Int32) (P0 : Int32) (P1 : Int32) (P2 : Int32) (P3 : Int32) (S0 : Int32) (S1 : Int32) (S2 : Int32) (S3 : Int32) (h0 : Heap) (n0 : Nat) (Z0 : n0 ≤ h0.size) (B_b0 : Ba Z h0 b0 .char 4 f) (B_b1 : Ba Z h0 b1 .char 4 g) (hP0 : f 0 = P0) (hP1 : f 1 = P1) (hP2 : f 2 = P2) (hP3 : f 3 = P3) (hS0 : g 0 = S0) (hS1 : g 1 = S1) (hS2 : g 2 = S2) (hS3 : g 3 = S3) :
    MetFree l (⟨"com/example/otsing/otsing/algorithm/PartialMatchTableExtendPinLaw", "matches", "([C[CII)Z"⟩ : MethodName) (head1 (Jvm.Cond.code (⟨"com/example/otsing/otsing/algorithm/PartialMatchTableExtendPinLaw", "matches", "([C[CII)Z"⟩ : MethodName) method_4_code 6 (some .boolean) :: ws) ({ frames := 0, cells := 0, slots := 0, locals := 0 } : Room)) (fun a U => a = #[(.ref b0), (.ref b1), (.int (4 : Int32)), (.int (2 : Int32))] ∧ Z.Warmed39 U.vm ∧ U.heap = h0) (fun _ _ _ _ _ => True) (fun _ U o U' => ∃ v L, o = .returned v ∧ Q3_4_2 Z b0 b1 f g P0 P1 P2 P3 S0 S1 S2 S3 h0 n0 v U'.heap L ∧ FrameEnd U o U' L ({ frames := 0, cells := 0, slots := 0, locals := 0 } : Room).cells ({ frames := 0, cells := 0, slots := 0, locals := 0 } : Room).slots) := by
  refine MetFree.of_bodySF (plainFor_of_name pn_11909899) hisR ?_
  intro p e s m args below meth c s₁ Bd hml0 hP hK
  obtain ⟨rfl, hZ, hh⟩ := hP
  have C : Ctx p s m meth c Z "com/example/otsing/otsing/algorithm/PartialMatchTableExtendPinLaw" "matches" method_4_code 6 (some .boolean) := Ctx.of Bd hml0 hZ
  have X0 : Stand p l e ({ frames := 0, cells := 0, slots := 0, locals := 0 } : Room) s m #[(.ref b0), (.ref b1), (.int (4 : Int32)), (.int (2 : Int32))] below meth c s₁ [] 0 0 := Stand.of_body Bd
  have e0 : s₁.heap = h0 := by rw [← hh, Bd.state]; rfl
  have N0 := Fr.nil n0
  refine Goes.enter (ef_3_4_2 m b0 b1) ?_
  clear hK hml0 hh
  refine g_iloadN 1 rfl C X0 d3_0 rfl ?_
  refine g_iloadN 2 rfl C X0 d3_1 rfl ?_
  refine g_isub 3 rfl C X0 d3_2 ?_
  refine g_istore 5 rfl C X0 (2 : Int32) (by decide) #[.val (.ref b0), .val (.ref b1), .val (.int (4 : Int32)), .val (.int (2 : Int32)), .val (.int (2 : Int32)), .unset] d3_3 rfl ?_
  refine g_iconst 6 rfl C X0 (1 : Int32) d3_5 rfl ?_
  refine g_istore 8 rfl C X0 (1 : Int32) rfl #[.val (.ref b0), .val (.ref b1), .val (.int (4 : Int32)), .val (.int (2 : Int32)), .val (.int (2 : Int32)), .val (.int (1 : Int32))] d3_6 rfl ?_
  refine g_iloadN 9 rfl C X0 d3_8 rfl ?_
  refine g_if_le_f 12 rfl C X0 d3_9 (by decide) ?_
  refine g_aloadN 13 rfl C X0 d3_12 rfl rfl ?_
  refine g_iconst 14 rfl C X0 (0 : Int32) d3_13 rfl ?_
  refine g_caload 15 rfl C X0 e0 B_b0 0 (by decide) (by decide) P0 hP0 d3_14 ?_
  refine g_aloadN 16 rfl C X0 d3_15 rfl rfl ?_
  refine g_iload 18 rfl C X0 d3_16 rfl ?_
  refine g_caload 19 rfl C X0 e0 B_b1 2 (by decide) (by decide) S2 hS2 d3_18 ?_
  by_cases hb1 : P0.toInt = S2.toInt
  · skip
    refine g_icmp_eq_t 25 C X0 d3_19 (by decide) (by decide) hb1 ?_
    refine g_iloadN 26 rfl C X0 d3_25 rfl ?_
    refine g_iconst 27 rfl C X0 (1 : Int32) d3_26 rfl ?_
    refine g_icmp_le_f 30 rfl C X0 d3_27 (by decide) ?_
    refine g_aloadN 31 rfl C X0 d3_30 rfl rfl ?_
    refine g_iconst 32 rfl C X0 (1 : Int32) d3_31 rfl ?_
    refine g_caload 33 rfl C X0 e0 B_b0 1 (by decide) (by decide) P1 hP1 d3_32 ?_
    refine g_aloadN 34 rfl C X0 d3_33 rfl rfl ?_
    refine g_iload 36 rfl C X0 d3_34 rfl ?_
    refine g_iconst 37 rfl C X0 (1 : Int32) d3_36 rfl ?_
    refine g_iadd 38 rfl C X0 d3_37 ?_
    refine g_caload 39 rfl C X0 e0 B_b1 3 (by decide) (by decide) S3 hS3 d3_38 ?_
    by_cases hb2 : P1.toInt = S3.toInt
    · skip
      refine g_icmp_eq_t 45 C X0 d3_39 (by decide) (by decide) hb2 ?_
      refine g_iloadN 46 rfl C X0 d3_45 rfl ?_
      refine g_iconst 47 rfl C X0 (2 : Int32) d3_46 rfl ?_
      refine g_icmp_le_t 65 C X0 d3_47 (by decide) (by decide) (by decide) ?_
      refine g_iloadN 66 rfl C X0 d3_65 rfl ?_
      refine g_iconst 67 rfl C X0 (3 : Int32) d3_66 rfl ?_
      refine g_icmp_le_t 85 C X0 d3_67 (by decide) (by decide) (by decide) ?_
      refine g_iload 87 rfl C X0 d3_85 rfl ?_
      have fc3 : (2 : Int32).toInt = 2 := rfl
      have fr4 := rng32 P0
      have fr5 := rng32 S2
      have fc6 : (1 : Int32).toInt = 1 := rfl
      have fr7 := rng32 P1
      have fr8 := rng32 S3
      have fc9 : (3 : Int32).toInt = 3 := rfl
      exact g_retN C X0 (z' := (1 : Int32)) rfl (Or.inl rfl) d3_87 e0 (by decide) (by decide) rfl ⟨_, rfl, by omega, N0, rfl⟩
    · skip
      refine g_icmp_eq_f 42 rfl C X0 d3_39 hb2 ?_
      refine g_iconst 43 rfl C X0 (0 : Int32) d3_42 rfl ?_
      refine g_istore 45 rfl C X0 (0 : Int32) rfl #[.val (.ref b0), .val (.ref b1), .val (.int (4 : Int32)), .val (.int (2 : Int32)), .val (.int (2 : Int32)), .val (.int (0 : Int32))] d3_43 rfl ?_
      refine g_iloadN 46 rfl C X0 d3_45 rfl ?_
      refine g_iconst 47 rfl C X0 (2 : Int32) d3_46 rfl ?_
      refine g_icmp_le_t 65 C X0 d3_47 (by decide) (by decide) (by decide) ?_
      refine g_iloadN 66 rfl C X0 d3_65 rfl ?_
      refine g_iconst 67 rfl C X0 (3 : Int32) d3_66 rfl ?_
      refine g_icmp_le_t 85 C X0 d3_67 (by decide) (by decide) (by decide) ?_
      refine g_iload 87 rfl C X0 d3_85 rfl ?_
      have fc10 : (2 : Int32).toInt = 2 := rfl
      have fr11 := rng32 P0
      have fr12 := rng32 S2
      have fc13 : (1 : Int32).toInt = 1 := rfl
      have fr14 := rng32 P1
      have fr15 := rng32 S3
      have fc16 : (3 : Int32).toInt = 3 := rfl
      have fc17 : (0 : Int32).toInt = 0 := rfl
      exact g_retN C X0 (z' := (0 : Int32)) rfl (Or.inl rfl) d3_87 e0 (by decide) (by decide) rfl ⟨_, rfl, by omega, N0, rfl⟩
  · skip
    refine g_icmp_eq_f 22 rfl C X0 d3_19 hb1 ?_
    refine g_iconst 23 rfl C X0 (0 : Int32) d3_22 rfl ?_
    refine g_istore 25 rfl C X0 (0 : Int32) rfl #[.val (.ref b0), .val (.ref b1), .val (.int (4 : Int32)), .val (.int (2 : Int32)), .val (.int (2 : Int32)), .val (.int (0 : Int32))] d3_23 rfl ?_
    refine g_iloadN 26 rfl C X0 d3_25 rfl ?_
    refine g_iconst 27 rfl C X0 (1 : Int32) d3_26 rfl ?_
    refine g_icmp_le_f 30 rfl C X0 d3_27 (by decide) ?_
    refine g_aloadN 31 rfl C X0 d3_30 rfl rfl ?_
    refine g_iconst 32 rfl C X0 (1 : Int32) d3_31 rfl ?_
    refine g_caload 33 rfl C X0 e0 B_b0 1 (by decide) (by decide) P1 hP1 d3_32 ?_
    refine g_aloadN 34 rfl C X0 d3_33 rfl rfl ?_
    refine g_iload 36 rfl C X0 d3_34 rfl ?_
    refine g_iconst 37 rfl C X0 (1 : Int32) d3_36 rfl ?_
    refine g_iadd 38 rfl C X0 d3_37 ?_
    refine g_caload 39 rfl C X0 e0 B_b1 3 (by decide) (by decide) S3 hS3 d3_38 ?_
    by_cases hb18 : P1.toInt = S3.toInt
    · skip
      refine g_icmp_eq_t 45 C X0 d3_39 (by decide) (by decide) hb18 ?_
      refine g_iloadN 46 rfl C X0 d3_45 rfl ?_
      refine g_iconst 47 rfl C X0 (2 : Int32) d3_46 rfl ?_
      refine g_icmp_le_t 65 C X0 d3_47 (by decide) (by decide) (by decide) ?_
      refine g_iloadN 66 rfl C X0 d3_65 rfl ?_
      refine g_iconst 67 rfl C X0 (3 : Int32) d3_66 rfl ?_
      refine g_icmp_le_t 85 C X0 d3_67 (by decide) (by decide) (by decide) ?_
      refine g_iload 87 rfl C X0 d3_85 rfl ?_
      have fc19 : (2 : Int32).toInt = 2 := rfl
      have fr20 := rng32 P0
      have fr21 := rng32 S2
      have fc22 : (1 : Int32).toInt = 1 := rfl
      have fr23 := rng32 P1
      have fr24 := rng32 S3
      have fc25 : (3 : Int32).toInt = 3 := rfl
      have fc26 : (0 : Int32).toInt = 0 := rfl
      exact g_retN C X0 (z' := (0 : Int32)) rfl (Or.inl rfl) d3_87 e0 (by decide) (by decide) rfl ⟨_, rfl, by omega, N0, rfl⟩
    · skip
      refine g_icmp_eq_f 42 rfl C X0 d3_39 hb18 ?_
      refine g_iconst 43 rfl C X0 (0 : Int32) d3_42 rfl ?_
      refine g_istore 45 rfl C X0 (0 : Int32) rfl #[.val (.ref b0), .val (.ref b1), .val (.int (4 : Int32)), .val (.int (2 : Int32)), .val (.int (2 : Int32)), .val (.int (0 : Int32))] d3_43 rfl ?_
      refine g_iloadN 46 rfl C X0 d3_45 rfl ?_
      refine g_iconst 47 rfl C X0 (2 : Int32) d3_46 rfl ?_
      refine g_icmp_le_t 65 C X0 d3_47 (by decide) (by decide) (by decide) ?_
      refine g_iloadN 66 rfl C X0 d3_65 rfl ?_
      refine g_iconst 67 rfl C X0 (3 : Int32) d3_66 rfl ?_
      refine g_icmp_le_t 85 C X0 d3_67 (by decide) (by decide) (by decide) ?_
      refine g_iload 87 rfl C X0 d3_85 rfl ?_
      have fc27 : (2 : Int32).toInt = 2 := rfl
      have fr28 := rng32 P0
      have fr29 := rng32 S2
      have fc30 : (1 : Int32).toInt = 1 := rfl
      have fr31 := rng32 P1
      have fr32 := rng32 S3
      have fc33 : (3 : Int32).toInt = 3 := rfl
      have fc34 : (0 : Int32).toInt = 0 := rfl
      exact g_retN C X0 (z' := (0 : Int32)) rfl (Or.inl rfl) d3_87 e0 (by decide) (by decide) rfl ⟨_, rfl, by omega, N0, rfl⟩
theorem d3_50 : decode method_4_code 50 = .ok (.aload_n 0, 1) := by decide +kernel
theorem d3_51 : decode method_4_code 51 = .ok (.iconst 2, 1) := by decide +kernel
theorem d3_52 : decode method_4_code 52 = .ok (.caload, 1) := by decide +kernel
theorem d3_53 : decode method_4_code 53 = .ok (.aload_n 1, 1) := by decide +kernel
theorem d3_54 : decode method_4_code 54 = .ok (.iload 4, 2) := by decide +kernel
theorem d3_56 : decode method_4_code 56 = .ok (.iconst 2, 1) := by decide +kernel
theorem d3_57 : decode method_4_code 57 = .ok (.iadd, 1) := by decide +kernel
theorem d3_58 : decode method_4_code 58 = .ok (.caload, 1) := by decide +kernel
theorem d3_59 : decode method_4_code 59 = .ok (.if_icmp .eq 6, 3) := by decide +kernel
theorem d3_62 : decode method_4_code 62 = .ok (.iconst 0, 1) := by decide +kernel
theorem d3_63 : decode method_4_code 63 = .ok (.istore 5, 2) := by decide +kernel
theorem ef_3_4_3 (m : MethodId) (b0 : Addr) (b1 : Addr) : entryFrame m #[(.ref b0), (.ref b1), (.int (4 : Int32)), (.int (3 : Int32))] 6 = mkF m 0 #[.val (.ref b0), .val (.ref b1), .val (.int (4 : Int32)), .val (.int (3 : Int32)), .unset, .unset] [] := by first | (simp [entryFrame, mkF, argsToLocals, Value.category]; done) | rfl
def Q3_4_3 (Z : State) (b0 : Addr) (b1 : Addr) (f : Nat → Int32) (g : Nat → Int32) (P0 : Int32) (P1 : Int32) (P2 : Int32) (P3 : Int32) (S0 : Int32) (S1 : Int32) (S2 : Int32) (S3 : Int32) (h0 : Heap) (n0 : Nat) (v : Option Value) (h : Heap) (L : List Loc) : Prop := ∃ r : Int32, v = some (.int r) ∧ ((r.toInt = 1 ∧ (P0.toInt = S1.toInt ∧ P1.toInt = S2.toInt ∧ P2.toInt = S3.toInt)) ∨ (r.toInt = 0 ∧ ¬ (P0.toInt = S1.toInt ∧ P1.toInt = S2.toInt ∧ P2.toInt = S3.toInt))) ∧ Fr n0 L ∧ h = h0
set_option maxRecDepth 65536 in
set_option maxHeartbeats 40000000 in
theorem rm3_4_3 (l : Launch) (Z : State) (a0 : Array Value) (hw : ∀ d ∈ tables_1, d.before a0 Z = true) (ws : List Jvm.Cond) (b0 : Addr) (b1 : Addr) (f : Nat → Int32) (g : Nat → Int32) (P0 : Int32) (P1 : Int32) (P2 : Int32) (P3 : Int32) (S0 : Int32) (S1 : Int32) (S2 : Int32) (S3 : Int32) (h0 : Heap) (n0 : Nat) (Z0 : n0 ≤ h0.size) (B_b0 : Ba Z h0 b0 .char 4 f) (B_b1 : Ba Z h0 b1 .char 4 g) (hP0 : f 0 = P0) (hP1 : f 1 = P1) (hP2 : f 2 = P2) (hP3 : f 3 = P3) (hS0 : g 0 = S0) (hS1 : g 1 = S1) (hS2 : g 2 = S2) (hS3 : g 3 = S3) :
    MetFree l (⟨"com/example/otsing/otsing/algorithm/PartialMatchTableExtendPinLaw", "matches", "([C[CII)Z"⟩ : MethodName) (head1 (Jvm.Cond.code (⟨"com/example/otsing/otsing/algorithm/PartialMatchTableExtendPinLaw", "matches", "([C[CII)Z"⟩ : MethodName) method_4_code 6 (some .boolean) :: ws) ({ frames := 0, cells := 0, slots := 0, locals := 0 } : Room)) (fun a U => a = #[(.ref b0), (.ref b1), (.int (4 : Int32)), (.int (3 : Int32))] ∧ Z.Warmed39 U.vm ∧ U.heap = h0) (fun _ _ _ _ _ => True) (fun _ U o U' => ∃ v L, o = .returned v ∧ Q3_4_3 Z b0 b1 f g P0 P1 P2 P3 S0 S1 S2 S3 h0 n0 v U'.heap L ∧ FrameEnd U o U' L ({ frames := 0, cells := 0, slots := 0, locals := 0 } : Room).cells ({ frames := 0, cells := 0, slots := 0, locals := 0 } : Room).slots) := by
  refine MetFree.of_bodySF (plainFor_of_name pn_11909899) hisR ?_
  intro p e s m args below meth c s₁ Bd hml0 hP hK
  obtain ⟨rfl, hZ, hh⟩ := hP
  have C : Ctx p s m meth c Z "com/example/otsing/otsing/algorithm/PartialMatchTableExtendPinLaw" "matches" method_4_code 6 (some .boolean) := Ctx.of Bd hml0 hZ
  have X0 : Stand p l e ({ frames := 0, cells := 0, slots := 0, locals := 0 } : Room) s m #[(.ref b0), (.ref b1), (.int (4 : Int32)), (.int (3 : Int32))] below meth c s₁ [] 0 0 := Stand.of_body Bd
  have e0 : s₁.heap = h0 := by rw [← hh, Bd.state]; rfl
  have N0 := Fr.nil n0
  refine Goes.enter (ef_3_4_3 m b0 b1) ?_
  clear hK hml0 hh
  refine g_iloadN 1 rfl C X0 d3_0 rfl ?_
  refine g_iloadN 2 rfl C X0 d3_1 rfl ?_
  refine g_isub 3 rfl C X0 d3_2 ?_
  refine g_istore 5 rfl C X0 (1 : Int32) (by decide) #[.val (.ref b0), .val (.ref b1), .val (.int (4 : Int32)), .val (.int (3 : Int32)), .val (.int (1 : Int32)), .unset] d3_3 rfl ?_
  refine g_iconst 6 rfl C X0 (1 : Int32) d3_5 rfl ?_
  refine g_istore 8 rfl C X0 (1 : Int32) rfl #[.val (.ref b0), .val (.ref b1), .val (.int (4 : Int32)), .val (.int (3 : Int32)), .val (.int (1 : Int32)), .val (.int (1 : Int32))] d3_6 rfl ?_
  refine g_iloadN 9 rfl C X0 d3_8 rfl ?_
  refine g_if_le_f 12 rfl C X0 d3_9 (by decide) ?_
  refine g_aloadN 13 rfl C X0 d3_12 rfl rfl ?_
  refine g_iconst 14 rfl C X0 (0 : Int32) d3_13 rfl ?_
  refine g_caload 15 rfl C X0 e0 B_b0 0 (by decide) (by decide) P0 hP0 d3_14 ?_
  refine g_aloadN 16 rfl C X0 d3_15 rfl rfl ?_
  refine g_iload 18 rfl C X0 d3_16 rfl ?_
  refine g_caload 19 rfl C X0 e0 B_b1 1 (by decide) (by decide) S1 hS1 d3_18 ?_
  by_cases hb1 : P0.toInt = S1.toInt
  · skip
    refine g_icmp_eq_t 25 C X0 d3_19 (by decide) (by decide) hb1 ?_
    refine g_iloadN 26 rfl C X0 d3_25 rfl ?_
    refine g_iconst 27 rfl C X0 (1 : Int32) d3_26 rfl ?_
    refine g_icmp_le_f 30 rfl C X0 d3_27 (by decide) ?_
    refine g_aloadN 31 rfl C X0 d3_30 rfl rfl ?_
    refine g_iconst 32 rfl C X0 (1 : Int32) d3_31 rfl ?_
    refine g_caload 33 rfl C X0 e0 B_b0 1 (by decide) (by decide) P1 hP1 d3_32 ?_
    refine g_aloadN 34 rfl C X0 d3_33 rfl rfl ?_
    refine g_iload 36 rfl C X0 d3_34 rfl ?_
    refine g_iconst 37 rfl C X0 (1 : Int32) d3_36 rfl ?_
    refine g_iadd 38 rfl C X0 d3_37 ?_
    refine g_caload 39 rfl C X0 e0 B_b1 2 (by decide) (by decide) S2 hS2 d3_38 ?_
    by_cases hb2 : P1.toInt = S2.toInt
    · skip
      refine g_icmp_eq_t 45 C X0 d3_39 (by decide) (by decide) hb2 ?_
      refine g_iloadN 46 rfl C X0 d3_45 rfl ?_
      refine g_iconst 47 rfl C X0 (2 : Int32) d3_46 rfl ?_
      refine g_icmp_le_f 50 rfl C X0 d3_47 (by decide) ?_
      refine g_aloadN 51 rfl C X0 d3_50 rfl rfl ?_
      refine g_iconst 52 rfl C X0 (2 : Int32) d3_51 rfl ?_
      refine g_caload 53 rfl C X0 e0 B_b0 2 (by decide) (by decide) P2 hP2 d3_52 ?_
      refine g_aloadN 54 rfl C X0 d3_53 rfl rfl ?_
      refine g_iload 56 rfl C X0 d3_54 rfl ?_
      refine g_iconst 57 rfl C X0 (2 : Int32) d3_56 rfl ?_
      refine g_iadd 58 rfl C X0 d3_57 ?_
      refine g_caload 59 rfl C X0 e0 B_b1 3 (by decide) (by decide) S3 hS3 d3_58 ?_
      by_cases hb3 : P2.toInt = S3.toInt
      · skip
        refine g_icmp_eq_t 65 C X0 d3_59 (by decide) (by decide) hb3 ?_
        refine g_iloadN 66 rfl C X0 d3_65 rfl ?_
        refine g_iconst 67 rfl C X0 (3 : Int32) d3_66 rfl ?_
        refine g_icmp_le_t 85 C X0 d3_67 (by decide) (by decide) (by decide) ?_
        refine g_iload 87 rfl C X0 d3_85 rfl ?_
        have fc4 : (3 : Int32).toInt = 3 := rfl
        have fr5 := rng32 P0
        have fr6 := rng32 S1
        have fc7 : (1 : Int32).toInt = 1 := rfl
        have fr8 := rng32 P1
        have fr9 := rng32 S2
        have fc10 : (2 : Int32).toInt = 2 := rfl
        have fr11 := rng32 P2
        have fr12 := rng32 S3
        exact g_retN C X0 (z' := (1 : Int32)) rfl (Or.inl rfl) d3_87 e0 (by decide) (by decide) rfl ⟨_, rfl, by omega, N0, rfl⟩
      · skip
        refine g_icmp_eq_f 62 rfl C X0 d3_59 hb3 ?_
        refine g_iconst 63 rfl C X0 (0 : Int32) d3_62 rfl ?_
        refine g_istore 65 rfl C X0 (0 : Int32) rfl #[.val (.ref b0), .val (.ref b1), .val (.int (4 : Int32)), .val (.int (3 : Int32)), .val (.int (1 : Int32)), .val (.int (0 : Int32))] d3_63 rfl ?_
        refine g_iloadN 66 rfl C X0 d3_65 rfl ?_
        refine g_iconst 67 rfl C X0 (3 : Int32) d3_66 rfl ?_
        refine g_icmp_le_t 85 C X0 d3_67 (by decide) (by decide) (by decide) ?_
        refine g_iload 87 rfl C X0 d3_85 rfl ?_
        have fc13 : (3 : Int32).toInt = 3 := rfl
        have fr14 := rng32 P0
        have fr15 := rng32 S1
        have fc16 : (1 : Int32).toInt = 1 := rfl
        have fr17 := rng32 P1
        have fr18 := rng32 S2
        have fc19 : (2 : Int32).toInt = 2 := rfl
        have fr20 := rng32 P2
        have fr21 := rng32 S3
        have fc22 : (0 : Int32).toInt = 0 := rfl
        exact g_retN C X0 (z' := (0 : Int32)) rfl (Or.inl rfl) d3_87 e0 (by decide) (by decide) rfl ⟨_, rfl, by omega, N0, rfl⟩
    · skip
      refine g_icmp_eq_f 42 rfl C X0 d3_39 hb2 ?_
      refine g_iconst 43 rfl C X0 (0 : Int32) d3_42 rfl ?_
      refine g_istore 45 rfl C X0 (0 : Int32) rfl #[.val (.ref b0), .val (.ref b1), .val (.int (4 : Int32)), .val (.int (3 : Int32)), .val (.int (1 : Int32)), .val (.int (0 : Int32))] d3_43 rfl ?_
      refine g_iloadN 46 rfl C X0 d3_45 rfl ?_
      refine g_iconst 47 rfl C X0 (2 : Int32) d3_46 rfl ?_
      refine g_icmp_le_f 50 rfl C X0 d3_47 (by decide) ?_
      refine g_aloadN 51 rfl C X0 d3_50 rfl rfl ?_
      refine g_iconst 52 rfl C X0 (2 : Int32) d3_51 rfl ?_
      refine g_caload 53 rfl C X0 e0 B_b0 2 (by decide) (by decide) P2 hP2 d3_52 ?_
      refine g_aloadN 54 rfl C X0 d3_53 rfl rfl ?_
      refine g_iload 56 rfl C X0 d3_54 rfl ?_
      refine g_iconst 57 rfl C X0 (2 : Int32) d3_56 rfl ?_
      refine g_iadd 58 rfl C X0 d3_57 ?_
      refine g_caload 59 rfl C X0 e0 B_b1 3 (by decide) (by decide) S3 hS3 d3_58 ?_
      by_cases hb23 : P2.toInt = S3.toInt
      · skip
        refine g_icmp_eq_t 65 C X0 d3_59 (by decide) (by decide) hb23 ?_
        refine g_iloadN 66 rfl C X0 d3_65 rfl ?_
        refine g_iconst 67 rfl C X0 (3 : Int32) d3_66 rfl ?_
        refine g_icmp_le_t 85 C X0 d3_67 (by decide) (by decide) (by decide) ?_
        refine g_iload 87 rfl C X0 d3_85 rfl ?_
        have fc24 : (3 : Int32).toInt = 3 := rfl
        have fr25 := rng32 P0
        have fr26 := rng32 S1
        have fc27 : (1 : Int32).toInt = 1 := rfl
        have fr28 := rng32 P1
        have fr29 := rng32 S2
        have fc30 : (2 : Int32).toInt = 2 := rfl
        have fr31 := rng32 P2
        have fr32 := rng32 S3
        have fc33 : (0 : Int32).toInt = 0 := rfl
        exact g_retN C X0 (z' := (0 : Int32)) rfl (Or.inl rfl) d3_87 e0 (by decide) (by decide) rfl ⟨_, rfl, by omega, N0, rfl⟩
      · skip
        refine g_icmp_eq_f 62 rfl C X0 d3_59 hb23 ?_
        refine g_iconst 63 rfl C X0 (0 : Int32) d3_62 rfl ?_
        refine g_istore 65 rfl C X0 (0 : Int32) rfl #[.val (.ref b0), .val (.ref b1), .val (.int (4 : Int32)), .val (.int (3 : Int32)), .val (.int (1 : Int32)), .val (.int (0 : Int32))] d3_63 rfl ?_
        refine g_iloadN 66 rfl C X0 d3_65 rfl ?_
        refine g_iconst 67 rfl C X0 (3 : Int32) d3_66 rfl ?_
        refine g_icmp_le_t 85 C X0 d3_67 (by decide) (by decide) (by decide) ?_
        refine g_iload 87 rfl C X0 d3_85 rfl ?_
        have fc34 : (3 : Int32).toInt = 3 := rfl
        have fr35 := rng32 P0
        have fr36 := rng32 S1
        have fc37 : (1 : Int32).toInt = 1 := rfl
        have fr38 := rng32 P1
        have fr39 := rng32 S2
        have fc40 : (2 : Int32).toInt = 2 := rfl
        have fr41 := rng32 P2
        have fr42 := rng32 S3
        have fc43 : (0 : Int32).toInt = 0 := rfl
        exact g_retN C X0 (z' := (0 : Int32)) rfl (Or.inl rfl) d3_87 e0 (by decide) (by decide) rfl ⟨_, rfl, by omega, N0, rfl⟩
  · skip
    refine g_icmp_eq_f 22 rfl C X0 d3_19 hb1 ?_
    refine g_iconst 23 rfl C X0 (0 : Int32) d3_22 rfl ?_
    refine g_istore 25 rfl C X0 (0 : Int32) rfl #[.val (.ref b0), .val (.ref b1), .val (.int (4 : Int32)), .val (.int (3 : Int32)), .val (.int (1 : Int32)), .val (.int (0 : Int32))] d3_23 rfl ?_
    refine g_iloadN 26 rfl C X0 d3_25 rfl ?_
    refine g_iconst 27 rfl C X0 (1 : Int32) d3_26 rfl ?_
    refine g_icmp_le_f 30 rfl C X0 d3_27 (by decide) ?_
    refine g_aloadN 31 rfl C X0 d3_30 rfl rfl ?_
    refine g_iconst 32 rfl C X0 (1 : Int32) d3_31 rfl ?_
    refine g_caload 33 rfl C X0 e0 B_b0 1 (by decide) (by decide) P1 hP1 d3_32 ?_
    refine g_aloadN 34 rfl C X0 d3_33 rfl rfl ?_
    refine g_iload 36 rfl C X0 d3_34 rfl ?_
    refine g_iconst 37 rfl C X0 (1 : Int32) d3_36 rfl ?_
    refine g_iadd 38 rfl C X0 d3_37 ?_
    refine g_caload 39 rfl C X0 e0 B_b1 2 (by decide) (by decide) S2 hS2 d3_38 ?_
    by_cases hb44 : P1.toInt = S2.toInt
    · skip
      refine g_icmp_eq_t 45 C X0 d3_39 (by decide) (by decide) hb44 ?_
      refine g_iloadN 46 rfl C X0 d3_45 rfl ?_
      refine g_iconst 47 rfl C X0 (2 : Int32) d3_46 rfl ?_
      refine g_icmp_le_f 50 rfl C X0 d3_47 (by decide) ?_
      refine g_aloadN 51 rfl C X0 d3_50 rfl rfl ?_
      refine g_iconst 52 rfl C X0 (2 : Int32) d3_51 rfl ?_
      refine g_caload 53 rfl C X0 e0 B_b0 2 (by decide) (by decide) P2 hP2 d3_52 ?_
      refine g_aloadN 54 rfl C X0 d3_53 rfl rfl ?_
      refine g_iload 56 rfl C X0 d3_54 rfl ?_
      refine g_iconst 57 rfl C X0 (2 : Int32) d3_56 rfl ?_
      refine g_iadd 58 rfl C X0 d3_57 ?_
      refine g_caload 59 rfl C X0 e0 B_b1 3 (by decide) (by decide) S3 hS3 d3_58 ?_
      by_cases hb45 : P2.toInt = S3.toInt
      · skip
        refine g_icmp_eq_t 65 C X0 d3_59 (by decide) (by decide) hb45 ?_
        refine g_iloadN 66 rfl C X0 d3_65 rfl ?_
        refine g_iconst 67 rfl C X0 (3 : Int32) d3_66 rfl ?_
        refine g_icmp_le_t 85 C X0 d3_67 (by decide) (by decide) (by decide) ?_
        refine g_iload 87 rfl C X0 d3_85 rfl ?_
        have fc46 : (3 : Int32).toInt = 3 := rfl
        have fr47 := rng32 P0
        have fr48 := rng32 S1
        have fc49 : (1 : Int32).toInt = 1 := rfl
        have fr50 := rng32 P1
        have fr51 := rng32 S2
        have fc52 : (2 : Int32).toInt = 2 := rfl
        have fr53 := rng32 P2
        have fr54 := rng32 S3
        have fc55 : (0 : Int32).toInt = 0 := rfl
        exact g_retN C X0 (z' := (0 : Int32)) rfl (Or.inl rfl) d3_87 e0 (by decide) (by decide) rfl ⟨_, rfl, by omega, N0, rfl⟩
      · skip
        refine g_icmp_eq_f 62 rfl C X0 d3_59 hb45 ?_
        refine g_iconst 63 rfl C X0 (0 : Int32) d3_62 rfl ?_
        refine g_istore 65 rfl C X0 (0 : Int32) rfl #[.val (.ref b0), .val (.ref b1), .val (.int (4 : Int32)), .val (.int (3 : Int32)), .val (.int (1 : Int32)), .val (.int (0 : Int32))] d3_63 rfl ?_
        refine g_iloadN 66 rfl C X0 d3_65 rfl ?_
        refine g_iconst 67 rfl C X0 (3 : Int32) d3_66 rfl ?_
        refine g_icmp_le_t 85 C X0 d3_67 (by decide) (by decide) (by decide) ?_
        refine g_iload 87 rfl C X0 d3_85 rfl ?_
        have fc56 : (3 : Int32).toInt = 3 := rfl
        have fr57 := rng32 P0
        have fr58 := rng32 S1
        have fc59 : (1 : Int32).toInt = 1 := rfl
        have fr60 := rng32 P1
        have fr61 := rng32 S2
        have fc62 : (2 : Int32).toInt = 2 := rfl
        have fr63 := rng32 P2
        have fr64 := rng32 S3
        have fc65 : (0 : Int32).toInt = 0 := rfl
        exact g_retN C X0 (z' := (0 : Int32)) rfl (Or.inl rfl) d3_87 e0 (by decide) (by decide) rfl ⟨_, rfl, by omega, N0, rfl⟩
    · skip
      refine g_icmp_eq_f 42 rfl C X0 d3_39 hb44 ?_
      refine g_iconst 43 rfl C X0 (0 : Int32) d3_42 rfl ?_
      refine g_istore 45 rfl C X0 (0 : Int32) rfl #[.val (.ref b0), .val (.ref b1), .val (.int (4 : Int32)), .val (.int (3 : Int32)), .val (.int (1 : Int32)), .val (.int (0 : Int32))] d3_43 rfl ?_
      refine g_iloadN 46 rfl C X0 d3_45 rfl ?_
      refine g_iconst 47 rfl C X0 (2 : Int32) d3_46 rfl ?_
      refine g_icmp_le_f 50 rfl C X0 d3_47 (by decide) ?_
      refine g_aloadN 51 rfl C X0 d3_50 rfl rfl ?_
      refine g_iconst 52 rfl C X0 (2 : Int32) d3_51 rfl ?_
      refine g_caload 53 rfl C X0 e0 B_b0 2 (by decide) (by decide) P2 hP2 d3_52 ?_
      refine g_aloadN 54 rfl C X0 d3_53 rfl rfl ?_
      refine g_iload 56 rfl C X0 d3_54 rfl ?_
      refine g_iconst 57 rfl C X0 (2 : Int32) d3_56 rfl ?_
      refine g_iadd 58 rfl C X0 d3_57 ?_
      refine g_caload 59 rfl C X0 e0 B_b1 3 (by decide) (by decide) S3 hS3 d3_58 ?_
      by_cases hb66 : P2.toInt = S3.toInt
      · skip
        refine g_icmp_eq_t 65 C X0 d3_59 (by decide) (by decide) hb66 ?_
        refine g_iloadN 66 rfl C X0 d3_65 rfl ?_
        refine g_iconst 67 rfl C X0 (3 : Int32) d3_66 rfl ?_
        refine g_icmp_le_t 85 C X0 d3_67 (by decide) (by decide) (by decide) ?_
        refine g_iload 87 rfl C X0 d3_85 rfl ?_
        have fc67 : (3 : Int32).toInt = 3 := rfl
        have fr68 := rng32 P0
        have fr69 := rng32 S1
        have fc70 : (1 : Int32).toInt = 1 := rfl
        have fr71 := rng32 P1
        have fr72 := rng32 S2
        have fc73 : (2 : Int32).toInt = 2 := rfl
        have fr74 := rng32 P2
        have fr75 := rng32 S3
        have fc76 : (0 : Int32).toInt = 0 := rfl
        exact g_retN C X0 (z' := (0 : Int32)) rfl (Or.inl rfl) d3_87 e0 (by decide) (by decide) rfl ⟨_, rfl, by omega, N0, rfl⟩
      · skip
        refine g_icmp_eq_f 62 rfl C X0 d3_59 hb66 ?_
        refine g_iconst 63 rfl C X0 (0 : Int32) d3_62 rfl ?_
        refine g_istore 65 rfl C X0 (0 : Int32) rfl #[.val (.ref b0), .val (.ref b1), .val (.int (4 : Int32)), .val (.int (3 : Int32)), .val (.int (1 : Int32)), .val (.int (0 : Int32))] d3_63 rfl ?_
        refine g_iloadN 66 rfl C X0 d3_65 rfl ?_
        refine g_iconst 67 rfl C X0 (3 : Int32) d3_66 rfl ?_
        refine g_icmp_le_t 85 C X0 d3_67 (by decide) (by decide) (by decide) ?_
        refine g_iload 87 rfl C X0 d3_85 rfl ?_
        have fc77 : (3 : Int32).toInt = 3 := rfl
        have fr78 := rng32 P0
        have fr79 := rng32 S1
        have fc80 : (1 : Int32).toInt = 1 := rfl
        have fr81 := rng32 P1
        have fr82 := rng32 S2
        have fc83 : (2 : Int32).toInt = 2 := rfl
        have fr84 := rng32 P2
        have fr85 := rng32 S3
        have fc86 : (0 : Int32).toInt = 0 := rfl
        exact g_retN C X0 (z' := (0 : Int32)) rfl (Or.inl rfl) d3_87 e0 (by decide) (by decide) rfl ⟨_, rfl, by omega, N0, rfl⟩
theorem d2_22 : decode method_5_code 22 = .ok (.aload_n 0, 1) := by decide +kernel
theorem d2_23 : decode method_5_code 23 = .ok (.aload_n 1, 1) := by decide +kernel
theorem d2_24 : decode method_5_code 24 = .ok (.iload_n 2, 1) := by decide +kernel
theorem d2_25 : decode method_5_code 25 = .ok (.iconst 3, 1) := by decide +kernel
theorem d2_26 : decode method_5_code 26 = .ok (.invokestatic 23, 3) := by decide +kernel
theorem d2_29 : decode method_5_code 29 = .ok (.ifCond .eq 5, 3) := by decide +kernel
theorem d2_32 : decode method_5_code 32 = .ok (.iconst 3, 1) := by decide +kernel
theorem d2_33 : decode method_5_code 33 = .ok (.ireturn, 1) := by decide +kernel
theorem ef_2_4_3 (m : MethodId) (b0 : Addr) (b1 : Addr) : entryFrame m #[(.ref b0), (.ref b1), (.int (4 : Int32)), (.int (3 : Int32))] 4 = mkF m 0 #[.val (.ref b0), .val (.ref b1), .val (.int (4 : Int32)), .val (.int (3 : Int32))] [] := by first | (simp [entryFrame, mkF, argsToLocals, Value.category]; done) | rfl
def Q2_4_3 (Z : State) (b0 : Addr) (b1 : Addr) (f : Nat → Int32) (g : Nat → Int32) (P0 : Int32) (P1 : Int32) (P2 : Int32) (P3 : Int32) (S0 : Int32) (S1 : Int32) (S2 : Int32) (S3 : Int32) (h0 : Heap) (n0 : Nat) (v : Option Value) (h : Heap) (L : List Loc) : Prop := ∃ r : Int32, v = some (.int r) ∧ (((r.toInt = 3 ∧ (P0.toInt = S1.toInt ∧ P1.toInt = S2.toInt ∧ P2.toInt = S3.toInt)) ∨ (¬ (P0.toInt = S1.toInt ∧ P1.toInt = S2.toInt ∧ P2.toInt = S3.toInt) ∧ ((r.toInt = 2 ∧ (P0.toInt = S2.toInt ∧ P1.toInt = S3.toInt)) ∨ (¬ (P0.toInt = S2.toInt ∧ P1.toInt = S3.toInt) ∧ ((r.toInt = 1 ∧ (P0.toInt = S3.toInt)) ∨ (¬ (P0.toInt = S3.toInt) ∧ r.toInt = 0))))))) ∧ Fr n0 L ∧ h = h0
set_option maxRecDepth 65536 in
set_option maxHeartbeats 40000000 in
theorem rm2_4_3 (l : Launch) (Z : State) (a0 : Array Value) (hw : ∀ d ∈ tables_1, d.before a0 Z = true) (ws : List Jvm.Cond) (b0 : Addr) (b1 : Addr) (f : Nat → Int32) (g : Nat → Int32) (P0 : Int32) (P1 : Int32) (P2 : Int32) (P3 : Int32) (S0 : Int32) (S1 : Int32) (S2 : Int32) (S3 : Int32) (h0 : Heap) (n0 : Nat) (Z0 : n0 ≤ h0.size) (B_b0 : Ba Z h0 b0 .char 4 f) (B_b1 : Ba Z h0 b1 .char 4 g) (hP0 : f 0 = P0) (hP1 : f 1 = P1) (hP2 : f 2 = P2) (hP3 : f 3 = P3) (hS0 : g 0 = S0) (hS1 : g 1 = S1) (hS2 : g 2 = S2) (hS3 : g 3 = S3) :
    MetFree l (⟨"com/example/otsing/otsing/algorithm/PartialMatchTableExtendPinLaw", "longest", "([C[CII)I"⟩ : MethodName) (head1 (Jvm.Cond.code (⟨"com/example/otsing/otsing/algorithm/PartialMatchTableExtendPinLaw", "longest", "([C[CII)I"⟩ : MethodName) method_5_code 4 (some .int) :: ws) ({ frames := 1, cells := 0, slots := 0, locals := 17 } : Room)) (fun a U => a = #[(.ref b0), (.ref b1), (.int (4 : Int32)), (.int (3 : Int32))] ∧ Z.Warmed39 U.vm ∧ U.heap = h0) (fun _ _ _ _ _ => True) (fun _ U o U' => ∃ v L, o = .returned v ∧ Q2_4_3 Z b0 b1 f g P0 P1 P2 P3 S0 S1 S2 S3 h0 n0 v U'.heap L ∧ FrameEnd U o U' L ({ frames := 1, cells := 0, slots := 0, locals := 17 } : Room).cells ({ frames := 1, cells := 0, slots := 0, locals := 17 } : Room).slots) := by
  refine MetFree.of_bodySF (plainFor_of_name pn_11909899) hisR ?_
  intro p e s m args below meth c s₁ Bd hml0 hP hK
  obtain ⟨rfl, hZ, hh⟩ := hP
  have C : Ctx p s m meth c Z "com/example/otsing/otsing/algorithm/PartialMatchTableExtendPinLaw" "longest" method_5_code 4 (some .int) := Ctx.of Bd hml0 hZ
  have X0 : Stand p l e ({ frames := 1, cells := 0, slots := 0, locals := 17 } : Room) s m #[(.ref b0), (.ref b1), (.int (4 : Int32)), (.int (3 : Int32))] below meth c s₁ [] 0 0 := Stand.of_body Bd
  have e0 : s₁.heap = h0 := by rw [← hh, Bd.state]; rfl
  have N0 := Fr.nil n0
  refine Goes.enter (ef_2_4_3 m b0 b1) ?_
  clear hK hml0 hh
  refine g_iloadN 1 rfl C X0 d2_0 rfl ?_
  refine g_iconst 2 rfl C X0 (4 : Int32) d2_1 rfl ?_
  refine g_icmp_lt_t 17 C X0 d2_2 (by decide) (by decide) (by decide) ?_
  refine g_iloadN 18 rfl C X0 d2_17 rfl ?_
  refine g_iconst 19 rfl C X0 (3 : Int32) d2_18 rfl ?_
  refine g_icmp_lt_f 22 rfl C X0 d2_19 (by decide) ?_
  refine g_aloadN 23 rfl C X0 d2_22 rfl rfl ?_
  refine g_aloadN 24 rfl C X0 d2_23 rfl rfl ?_
  refine g_iloadN 25 rfl C X0 d2_24 rfl ?_
  refine g_iconst 26 rfl C X0 (3 : Int32) d2_25 rfl ?_
  refine g_callS 29 rfl C X0 (argsL := [(.ref b0), (.ref b1), (.int (4 : Int32)), (.int (3 : Int32))]) (hw _ (List.mem_of_getElem? (i := 9) rfl)) (hw _ (List.mem_of_getElem? (i := 10) rfl)) (hw _ (List.mem_of_getElem? (i := 11) rfl)) (hw _ (List.mem_of_getElem? (i := 3) rfl)) e0 (rm3_4_3 l Z a0 hw [] b0 b1 f g P0 P1 P2 P3 S0 S1 S2 S3 h0 n0 Z0 B_b0 B_b1 hP0 hP1 hP2 hP3 hS0 hS1 hS2 hS3) (lenOf pd_50052798 rfl) (by decide) (by decide) (by decide) (by decide) rfl (W := 0) (Nat.le_of_eq rfl) (by decide) d2_26 rfl fun r1 T2 Lc3 X4 hQ5 => ?_
  obtain ⟨r6, rfl, hs7, Nq8, eh9⟩ := hQ5
  have N10 := Fr.app N0 Nq8
  show Goes _ _ _ _ _ _ 29 _ [(.int r6)]
  by_cases hb11 : r6.toInt = 0
  · skip
    refine g_if_eq_t 34 C X4 d2_29 (by decide) (by decide) hb11 ?_
    refine g_iloadN 35 rfl C X4 d2_34 rfl ?_
    refine g_iconst 36 rfl C X4 (2 : Int32) d2_35 rfl ?_
    refine g_icmp_lt_f 39 rfl C X4 d2_36 (by decide) ?_
    refine g_aloadN 40 rfl C X4 d2_39 rfl rfl ?_
    refine g_aloadN 41 rfl C X4 d2_40 rfl rfl ?_
    refine g_iloadN 42 rfl C X4 d2_41 rfl ?_
    refine g_iconst 43 rfl C X4 (2 : Int32) d2_42 rfl ?_
    refine g_callS 46 rfl C X4 (argsL := [(.ref b0), (.ref b1), (.int (4 : Int32)), (.int (2 : Int32))]) (hw _ (List.mem_of_getElem? (i := 9) rfl)) (hw _ (List.mem_of_getElem? (i := 10) rfl)) (hw _ (List.mem_of_getElem? (i := 11) rfl)) (hw _ (List.mem_of_getElem? (i := 3) rfl)) eh9 (rm3_4_2 l Z a0 hw [] b0 b1 f g P0 P1 P2 P3 S0 S1 S2 S3 h0 n0 Z0 B_b0 B_b1 hP0 hP1 hP2 hP3 hS0 hS1 hS2 hS3) (lenOf pd_50052798 rfl) (by decide) (by decide) (by decide) (by decide) rfl (W := 0) (Nat.le_of_eq rfl) (by decide) d2_43 rfl fun r12 T13 Lc14 X15 hQ16 => ?_
    obtain ⟨r17, rfl, hs18, Nq19, eh20⟩ := hQ16
    have N21 := Fr.app N10 Nq19
    show Goes _ _ _ _ _ _ 46 _ [(.int r17)]
    by_cases hb22 : r17.toInt = 0
    · skip
      refine g_if_eq_t 51 C X15 d2_46 (by decide) (by decide) hb22 ?_
      refine g_iloadN 52 rfl C X15 d2_51 rfl ?_
      refine g_iconst 53 rfl C X15 (1 : Int32) d2_52 rfl ?_
      refine g_icmp_lt_f 56 rfl C X15 d2_53 (by decide) ?_
      refine g_aloadN 57 rfl C X15 d2_56 rfl rfl ?_
      refine g_aloadN 58 rfl C X15 d2_57 rfl rfl ?_
      refine g_iloadN 59 rfl C X15 d2_58 rfl ?_
      refine g_iconst 60 rfl C X15 (1 : Int32) d2_59 rfl ?_
      refine g_callS 63 rfl C X15 (argsL := [(.ref b0), (.ref b1), (.int (4 : Int32)), (.int (1 : Int32))]) (hw _ (List.mem_of_getElem? (i := 9) rfl)) (hw _ (List.mem_of_getElem? (i := 10) rfl)) (hw _ (List.mem_of_getElem? (i := 11) rfl)) (hw _ (List.mem_of_getElem? (i := 3) rfl)) eh20 (rm3_4_1 l Z a0 hw [] b0 b1 f g P0 P1 P2 P3 S0 S1 S2 S3 h0 n0 Z0 B_b0 B_b1 hP0 hP1 hP2 hP3 hS0 hS1 hS2 hS3) (lenOf pd_50052798 rfl) (by decide) (by decide) (by decide) (by decide) rfl (W := 0) (Nat.le_of_eq rfl) (by decide) d2_60 rfl fun r23 T24 Lc25 X26 hQ27 => ?_
      obtain ⟨r28, rfl, hs29, Nq30, eh31⟩ := hQ27
      have N32 := Fr.app N21 Nq30
      show Goes _ _ _ _ _ _ 63 _ [(.int r28)]
      by_cases hb33 : r28.toInt = 0
      · skip
        refine g_if_eq_t 68 C X26 d2_63 (by decide) (by decide) hb33 ?_
        refine g_iconst 69 rfl C X26 (0 : Int32) d2_68 rfl ?_
        have fc34 : (3 : Int32).toInt = 3 := rfl
        have fc35 : (4 : Int32).toInt = 4 := rfl
        have fr36 := rng32 r6
        have fc37 : (2 : Int32).toInt = 2 := rfl
        have fr38 := rng32 r17
        have fc39 : (1 : Int32).toInt = 1 := rfl
        have fr40 := rng32 r28
        have fc41 : (0 : Int32).toInt = 0 := rfl
        exact g_retI C X26 rfl d2_69 eh31 (by decide) (by decide) ⟨_, rfl, by omega, N32, rfl⟩
      · skip
        refine g_if_eq_f 66 rfl C X26 d2_63 hb33 ?_
        refine g_iconst 67 rfl C X26 (1 : Int32) d2_66 rfl ?_
        have fc42 : (3 : Int32).toInt = 3 := rfl
        have fc43 : (4 : Int32).toInt = 4 := rfl
        have fr44 := rng32 r6
        have fc45 : (2 : Int32).toInt = 2 := rfl
        have fr46 := rng32 r17
        have fc47 : (1 : Int32).toInt = 1 := rfl
        have fr48 := rng32 r28
        exact g_retI C X26 rfl d2_67 eh31 (by decide) (by decide) ⟨_, rfl, by omega, N32, rfl⟩
    · skip
      refine g_if_eq_f 49 rfl C X15 d2_46 hb22 ?_
      refine g_iconst 50 rfl C X15 (2 : Int32) d2_49 rfl ?_
      have fc49 : (3 : Int32).toInt = 3 := rfl
      have fc50 : (4 : Int32).toInt = 4 := rfl
      have fr51 := rng32 r6
      have fc52 : (2 : Int32).toInt = 2 := rfl
      have fr53 := rng32 r17
      exact g_retI C X15 rfl d2_50 eh20 (by decide) (by decide) ⟨_, rfl, by omega, N21, rfl⟩
  · skip
    refine g_if_eq_f 32 rfl C X4 d2_29 hb11 ?_
    refine g_iconst 33 rfl C X4 (3 : Int32) d2_32 rfl ?_
    have fc54 : (3 : Int32).toInt = 3 := rfl
    have fc55 : (4 : Int32).toInt = 4 := rfl
    have fr56 := rng32 r6
    exact g_retI C X4 rfl d2_33 eh9 (by decide) (by decide) ⟨_, rfl, by omega, N10, rfl⟩
theorem ef_3_1_1 (m : MethodId) (b0 : Addr) (b1 : Addr) : entryFrame m #[(.ref b0), (.ref b1), (.int (1 : Int32)), (.int (1 : Int32))] 6 = mkF m 0 #[.val (.ref b0), .val (.ref b1), .val (.int (1 : Int32)), .val (.int (1 : Int32)), .unset, .unset] [] := by first | (simp [entryFrame, mkF, argsToLocals, Value.category]; done) | rfl
def Q3_1_1 (Z : State) (b0 : Addr) (b1 : Addr) (f : Nat → Int32) (g : Nat → Int32) (P0 : Int32) (P1 : Int32) (P2 : Int32) (P3 : Int32) (S0 : Int32) (S1 : Int32) (S2 : Int32) (S3 : Int32) (h0 : Heap) (n0 : Nat) (v : Option Value) (h : Heap) (L : List Loc) : Prop := ∃ r : Int32, v = some (.int r) ∧ ((r.toInt = 1 ∧ (P0.toInt = S0.toInt)) ∨ (r.toInt = 0 ∧ ¬ (P0.toInt = S0.toInt))) ∧ Fr n0 L ∧ h = h0
set_option maxRecDepth 65536 in
set_option maxHeartbeats 40000000 in
theorem rm3_1_1 (l : Launch) (Z : State) (a0 : Array Value) (hw : ∀ d ∈ tables_1, d.before a0 Z = true) (ws : List Jvm.Cond) (b0 : Addr) (b1 : Addr) (f : Nat → Int32) (g : Nat → Int32) (P0 : Int32) (P1 : Int32) (P2 : Int32) (P3 : Int32) (S0 : Int32) (S1 : Int32) (S2 : Int32) (S3 : Int32) (h0 : Heap) (n0 : Nat) (Z0 : n0 ≤ h0.size) (B_b0 : Ba Z h0 b0 .char 4 f) (B_b1 : Ba Z h0 b1 .char 4 g) (hP0 : f 0 = P0) (hP1 : f 1 = P1) (hP2 : f 2 = P2) (hP3 : f 3 = P3) (hS0 : g 0 = S0) (hS1 : g 1 = S1) (hS2 : g 2 = S2) (hS3 : g 3 = S3) :
    MetFree l (⟨"com/example/otsing/otsing/algorithm/PartialMatchTableExtendPinLaw", "matches", "([C[CII)Z"⟩ : MethodName) (head1 (Jvm.Cond.code (⟨"com/example/otsing/otsing/algorithm/PartialMatchTableExtendPinLaw", "matches", "([C[CII)Z"⟩ : MethodName) method_4_code 6 (some .boolean) :: ws) ({ frames := 0, cells := 0, slots := 0, locals := 0 } : Room)) (fun a U => a = #[(.ref b0), (.ref b1), (.int (1 : Int32)), (.int (1 : Int32))] ∧ Z.Warmed39 U.vm ∧ U.heap = h0) (fun _ _ _ _ _ => True) (fun _ U o U' => ∃ v L, o = .returned v ∧ Q3_1_1 Z b0 b1 f g P0 P1 P2 P3 S0 S1 S2 S3 h0 n0 v U'.heap L ∧ FrameEnd U o U' L ({ frames := 0, cells := 0, slots := 0, locals := 0 } : Room).cells ({ frames := 0, cells := 0, slots := 0, locals := 0 } : Room).slots) := by
  refine MetFree.of_bodySF (plainFor_of_name pn_11909899) hisR ?_
  intro p e s m args below meth c s₁ Bd hml0 hP hK
  obtain ⟨rfl, hZ, hh⟩ := hP
  have C : Ctx p s m meth c Z "com/example/otsing/otsing/algorithm/PartialMatchTableExtendPinLaw" "matches" method_4_code 6 (some .boolean) := Ctx.of Bd hml0 hZ
  have X0 : Stand p l e ({ frames := 0, cells := 0, slots := 0, locals := 0 } : Room) s m #[(.ref b0), (.ref b1), (.int (1 : Int32)), (.int (1 : Int32))] below meth c s₁ [] 0 0 := Stand.of_body Bd
  have e0 : s₁.heap = h0 := by rw [← hh, Bd.state]; rfl
  have N0 := Fr.nil n0
  refine Goes.enter (ef_3_1_1 m b0 b1) ?_
  clear hK hml0 hh
  refine g_iloadN 1 rfl C X0 d3_0 rfl ?_
  refine g_iloadN 2 rfl C X0 d3_1 rfl ?_
  refine g_isub 3 rfl C X0 d3_2 ?_
  refine g_istore 5 rfl C X0 (0 : Int32) (by decide) #[.val (.ref b0), .val (.ref b1), .val (.int (1 : Int32)), .val (.int (1 : Int32)), .val (.int (0 : Int32)), .unset] d3_3 rfl ?_
  refine g_iconst 6 rfl C X0 (1 : Int32) d3_5 rfl ?_
  refine g_istore 8 rfl C X0 (1 : Int32) rfl #[.val (.ref b0), .val (.ref b1), .val (.int (1 : Int32)), .val (.int (1 : Int32)), .val (.int (0 : Int32)), .val (.int (1 : Int32))] d3_6 rfl ?_
  refine g_iloadN 9 rfl C X0 d3_8 rfl ?_
  refine g_if_le_f 12 rfl C X0 d3_9 (by decide) ?_
  refine g_aloadN 13 rfl C X0 d3_12 rfl rfl ?_
  refine g_iconst 14 rfl C X0 (0 : Int32) d3_13 rfl ?_
  refine g_caload 15 rfl C X0 e0 B_b0 0 (by decide) (by decide) P0 hP0 d3_14 ?_
  refine g_aloadN 16 rfl C X0 d3_15 rfl rfl ?_
  refine g_iload 18 rfl C X0 d3_16 rfl ?_
  refine g_caload 19 rfl C X0 e0 B_b1 0 (by decide) (by decide) S0 hS0 d3_18 ?_
  by_cases hb1 : P0.toInt = S0.toInt
  · skip
    refine g_icmp_eq_t 25 C X0 d3_19 (by decide) (by decide) hb1 ?_
    refine g_iloadN 26 rfl C X0 d3_25 rfl ?_
    refine g_iconst 27 rfl C X0 (1 : Int32) d3_26 rfl ?_
    refine g_icmp_le_t 45 C X0 d3_27 (by decide) (by decide) (by decide) ?_
    refine g_iloadN 46 rfl C X0 d3_45 rfl ?_
    refine g_iconst 47 rfl C X0 (2 : Int32) d3_46 rfl ?_
    refine g_icmp_le_t 65 C X0 d3_47 (by decide) (by decide) (by decide) ?_
    refine g_iloadN 66 rfl C X0 d3_65 rfl ?_
    refine g_iconst 67 rfl C X0 (3 : Int32) d3_66 rfl ?_
    refine g_icmp_le_t 85 C X0 d3_67 (by decide) (by decide) (by decide) ?_
    refine g_iload 87 rfl C X0 d3_85 rfl ?_
    have fc2 : (1 : Int32).toInt = 1 := rfl
    have fr3 := rng32 P0
    have fr4 := rng32 S0
    have fc5 : (2 : Int32).toInt = 2 := rfl
    have fc6 : (3 : Int32).toInt = 3 := rfl
    exact g_retN C X0 (z' := (1 : Int32)) rfl (Or.inl rfl) d3_87 e0 (by decide) (by decide) rfl ⟨_, rfl, by omega, N0, rfl⟩
  · skip
    refine g_icmp_eq_f 22 rfl C X0 d3_19 hb1 ?_
    refine g_iconst 23 rfl C X0 (0 : Int32) d3_22 rfl ?_
    refine g_istore 25 rfl C X0 (0 : Int32) rfl #[.val (.ref b0), .val (.ref b1), .val (.int (1 : Int32)), .val (.int (1 : Int32)), .val (.int (0 : Int32)), .val (.int (0 : Int32))] d3_23 rfl ?_
    refine g_iloadN 26 rfl C X0 d3_25 rfl ?_
    refine g_iconst 27 rfl C X0 (1 : Int32) d3_26 rfl ?_
    refine g_icmp_le_t 45 C X0 d3_27 (by decide) (by decide) (by decide) ?_
    refine g_iloadN 46 rfl C X0 d3_45 rfl ?_
    refine g_iconst 47 rfl C X0 (2 : Int32) d3_46 rfl ?_
    refine g_icmp_le_t 65 C X0 d3_47 (by decide) (by decide) (by decide) ?_
    refine g_iloadN 66 rfl C X0 d3_65 rfl ?_
    refine g_iconst 67 rfl C X0 (3 : Int32) d3_66 rfl ?_
    refine g_icmp_le_t 85 C X0 d3_67 (by decide) (by decide) (by decide) ?_
    refine g_iload 87 rfl C X0 d3_85 rfl ?_
    have fc7 : (1 : Int32).toInt = 1 := rfl
    have fr8 := rng32 P0
    have fr9 := rng32 S0
    have fc10 : (2 : Int32).toInt = 2 := rfl
    have fc11 : (3 : Int32).toInt = 3 := rfl
    have fc12 : (0 : Int32).toInt = 0 := rfl
    exact g_retN C X0 (z' := (0 : Int32)) rfl (Or.inl rfl) d3_87 e0 (by decide) (by decide) rfl ⟨_, rfl, by omega, N0, rfl⟩
theorem ef_2_1_1 (m : MethodId) (b0 : Addr) (b1 : Addr) : entryFrame m #[(.ref b0), (.ref b1), (.int (1 : Int32)), (.int (1 : Int32))] 4 = mkF m 0 #[.val (.ref b0), .val (.ref b1), .val (.int (1 : Int32)), .val (.int (1 : Int32))] [] := by first | (simp [entryFrame, mkF, argsToLocals, Value.category]; done) | rfl
def Q2_1_1 (Z : State) (b0 : Addr) (b1 : Addr) (f : Nat → Int32) (g : Nat → Int32) (P0 : Int32) (P1 : Int32) (P2 : Int32) (P3 : Int32) (S0 : Int32) (S1 : Int32) (S2 : Int32) (S3 : Int32) (h0 : Heap) (n0 : Nat) (v : Option Value) (h : Heap) (L : List Loc) : Prop := ∃ r : Int32, v = some (.int r) ∧ (((r.toInt = 1 ∧ (P0.toInt = S0.toInt)) ∨ (¬ (P0.toInt = S0.toInt) ∧ r.toInt = 0))) ∧ Fr n0 L ∧ h = h0
set_option maxRecDepth 65536 in
set_option maxHeartbeats 40000000 in
theorem rm2_1_1 (l : Launch) (Z : State) (a0 : Array Value) (hw : ∀ d ∈ tables_1, d.before a0 Z = true) (ws : List Jvm.Cond) (b0 : Addr) (b1 : Addr) (f : Nat → Int32) (g : Nat → Int32) (P0 : Int32) (P1 : Int32) (P2 : Int32) (P3 : Int32) (S0 : Int32) (S1 : Int32) (S2 : Int32) (S3 : Int32) (h0 : Heap) (n0 : Nat) (Z0 : n0 ≤ h0.size) (B_b0 : Ba Z h0 b0 .char 4 f) (B_b1 : Ba Z h0 b1 .char 4 g) (hP0 : f 0 = P0) (hP1 : f 1 = P1) (hP2 : f 2 = P2) (hP3 : f 3 = P3) (hS0 : g 0 = S0) (hS1 : g 1 = S1) (hS2 : g 2 = S2) (hS3 : g 3 = S3) :
    MetFree l (⟨"com/example/otsing/otsing/algorithm/PartialMatchTableExtendPinLaw", "longest", "([C[CII)I"⟩ : MethodName) (head1 (Jvm.Cond.code (⟨"com/example/otsing/otsing/algorithm/PartialMatchTableExtendPinLaw", "longest", "([C[CII)I"⟩ : MethodName) method_5_code 4 (some .int) :: ws) ({ frames := 1, cells := 0, slots := 0, locals := 17 } : Room)) (fun a U => a = #[(.ref b0), (.ref b1), (.int (1 : Int32)), (.int (1 : Int32))] ∧ Z.Warmed39 U.vm ∧ U.heap = h0) (fun _ _ _ _ _ => True) (fun _ U o U' => ∃ v L, o = .returned v ∧ Q2_1_1 Z b0 b1 f g P0 P1 P2 P3 S0 S1 S2 S3 h0 n0 v U'.heap L ∧ FrameEnd U o U' L ({ frames := 1, cells := 0, slots := 0, locals := 17 } : Room).cells ({ frames := 1, cells := 0, slots := 0, locals := 17 } : Room).slots) := by
  refine MetFree.of_bodySF (plainFor_of_name pn_11909899) hisR ?_
  intro p e s m args below meth c s₁ Bd hml0 hP hK
  obtain ⟨rfl, hZ, hh⟩ := hP
  have C : Ctx p s m meth c Z "com/example/otsing/otsing/algorithm/PartialMatchTableExtendPinLaw" "longest" method_5_code 4 (some .int) := Ctx.of Bd hml0 hZ
  have X0 : Stand p l e ({ frames := 1, cells := 0, slots := 0, locals := 17 } : Room) s m #[(.ref b0), (.ref b1), (.int (1 : Int32)), (.int (1 : Int32))] below meth c s₁ [] 0 0 := Stand.of_body Bd
  have e0 : s₁.heap = h0 := by rw [← hh, Bd.state]; rfl
  have N0 := Fr.nil n0
  refine Goes.enter (ef_2_1_1 m b0 b1) ?_
  clear hK hml0 hh
  refine g_iloadN 1 rfl C X0 d2_0 rfl ?_
  refine g_iconst 2 rfl C X0 (4 : Int32) d2_1 rfl ?_
  refine g_icmp_lt_t 17 C X0 d2_2 (by decide) (by decide) (by decide) ?_
  refine g_iloadN 18 rfl C X0 d2_17 rfl ?_
  refine g_iconst 19 rfl C X0 (3 : Int32) d2_18 rfl ?_
  refine g_icmp_lt_t 34 C X0 d2_19 (by decide) (by decide) (by decide) ?_
  refine g_iloadN 35 rfl C X0 d2_34 rfl ?_
  refine g_iconst 36 rfl C X0 (2 : Int32) d2_35 rfl ?_
  refine g_icmp_lt_t 51 C X0 d2_36 (by decide) (by decide) (by decide) ?_
  refine g_iloadN 52 rfl C X0 d2_51 rfl ?_
  refine g_iconst 53 rfl C X0 (1 : Int32) d2_52 rfl ?_
  refine g_icmp_lt_f 56 rfl C X0 d2_53 (by decide) ?_
  refine g_aloadN 57 rfl C X0 d2_56 rfl rfl ?_
  refine g_aloadN 58 rfl C X0 d2_57 rfl rfl ?_
  refine g_iloadN 59 rfl C X0 d2_58 rfl ?_
  refine g_iconst 60 rfl C X0 (1 : Int32) d2_59 rfl ?_
  refine g_callS 63 rfl C X0 (argsL := [(.ref b0), (.ref b1), (.int (1 : Int32)), (.int (1 : Int32))]) (hw _ (List.mem_of_getElem? (i := 9) rfl)) (hw _ (List.mem_of_getElem? (i := 10) rfl)) (hw _ (List.mem_of_getElem? (i := 11) rfl)) (hw _ (List.mem_of_getElem? (i := 3) rfl)) e0 (rm3_1_1 l Z a0 hw [] b0 b1 f g P0 P1 P2 P3 S0 S1 S2 S3 h0 n0 Z0 B_b0 B_b1 hP0 hP1 hP2 hP3 hS0 hS1 hS2 hS3) (lenOf pd_50052798 rfl) (by decide) (by decide) (by decide) (by decide) rfl (W := 0) (Nat.le_of_eq rfl) (by decide) d2_60 rfl fun r1 T2 Lc3 X4 hQ5 => ?_
  obtain ⟨r6, rfl, hs7, Nq8, eh9⟩ := hQ5
  have N10 := Fr.app N0 Nq8
  show Goes _ _ _ _ _ _ 63 _ [(.int r6)]
  by_cases hb11 : r6.toInt = 0
  · skip
    refine g_if_eq_t 68 C X4 d2_63 (by decide) (by decide) hb11 ?_
    refine g_iconst 69 rfl C X4 (0 : Int32) d2_68 rfl ?_
    have fc12 : (1 : Int32).toInt = 1 := rfl
    have fc13 : (4 : Int32).toInt = 4 := rfl
    have fc14 : (3 : Int32).toInt = 3 := rfl
    have fc15 : (2 : Int32).toInt = 2 := rfl
    have fr16 := rng32 r6
    have fc17 : (0 : Int32).toInt = 0 := rfl
    exact g_retI C X4 rfl d2_69 eh9 (by decide) (by decide) ⟨_, rfl, by omega, N10, rfl⟩
  · skip
    refine g_if_eq_f 66 rfl C X4 d2_63 hb11 ?_
    refine g_iconst 67 rfl C X4 (1 : Int32) d2_66 rfl ?_
    have fc18 : (1 : Int32).toInt = 1 := rfl
    have fc19 : (4 : Int32).toInt = 4 := rfl
    have fc20 : (3 : Int32).toInt = 3 := rfl
    have fc21 : (2 : Int32).toInt = 2 := rfl
    have fr22 := rng32 r6
    exact g_retI C X4 rfl d2_67 eh9 (by decide) (by decide) ⟨_, rfl, by omega, N10, rfl⟩
theorem ef_3_2_2 (m : MethodId) (b0 : Addr) (b1 : Addr) : entryFrame m #[(.ref b0), (.ref b1), (.int (2 : Int32)), (.int (2 : Int32))] 6 = mkF m 0 #[.val (.ref b0), .val (.ref b1), .val (.int (2 : Int32)), .val (.int (2 : Int32)), .unset, .unset] [] := by first | (simp [entryFrame, mkF, argsToLocals, Value.category]; done) | rfl
def Q3_2_2 (Z : State) (b0 : Addr) (b1 : Addr) (f : Nat → Int32) (g : Nat → Int32) (P0 : Int32) (P1 : Int32) (P2 : Int32) (P3 : Int32) (S0 : Int32) (S1 : Int32) (S2 : Int32) (S3 : Int32) (h0 : Heap) (n0 : Nat) (v : Option Value) (h : Heap) (L : List Loc) : Prop := ∃ r : Int32, v = some (.int r) ∧ ((r.toInt = 1 ∧ (P0.toInt = S0.toInt ∧ P1.toInt = S1.toInt)) ∨ (r.toInt = 0 ∧ ¬ (P0.toInt = S0.toInt ∧ P1.toInt = S1.toInt))) ∧ Fr n0 L ∧ h = h0
set_option maxRecDepth 65536 in
set_option maxHeartbeats 40000000 in
theorem rm3_2_2 (l : Launch) (Z : State) (a0 : Array Value) (hw : ∀ d ∈ tables_1, d.before a0 Z = true) (ws : List Jvm.Cond) (b0 : Addr) (b1 : Addr) (f : Nat → Int32) (g : Nat → Int32) (P0 : Int32) (P1 : Int32) (P2 : Int32) (P3 : Int32) (S0 : Int32) (S1 : Int32) (S2 : Int32) (S3 : Int32) (h0 : Heap) (n0 : Nat) (Z0 : n0 ≤ h0.size) (B_b0 : Ba Z h0 b0 .char 4 f) (B_b1 : Ba Z h0 b1 .char 4 g) (hP0 : f 0 = P0) (hP1 : f 1 = P1) (hP2 : f 2 = P2) (hP3 : f 3 = P3) (hS0 : g 0 = S0) (hS1 : g 1 = S1) (hS2 : g 2 = S2) (hS3 : g 3 = S3) :
    MetFree l (⟨"com/example/otsing/otsing/algorithm/PartialMatchTableExtendPinLaw", "matches", "([C[CII)Z"⟩ : MethodName) (head1 (Jvm.Cond.code (⟨"com/example/otsing/otsing/algorithm/PartialMatchTableExtendPinLaw", "matches", "([C[CII)Z"⟩ : MethodName) method_4_code 6 (some .boolean) :: ws) ({ frames := 0, cells := 0, slots := 0, locals := 0 } : Room)) (fun a U => a = #[(.ref b0), (.ref b1), (.int (2 : Int32)), (.int (2 : Int32))] ∧ Z.Warmed39 U.vm ∧ U.heap = h0) (fun _ _ _ _ _ => True) (fun _ U o U' => ∃ v L, o = .returned v ∧ Q3_2_2 Z b0 b1 f g P0 P1 P2 P3 S0 S1 S2 S3 h0 n0 v U'.heap L ∧ FrameEnd U o U' L ({ frames := 0, cells := 0, slots := 0, locals := 0 } : Room).cells ({ frames := 0, cells := 0, slots := 0, locals := 0 } : Room).slots) := by
  refine MetFree.of_bodySF (plainFor_of_name pn_11909899) hisR ?_
  intro p e s m args below meth c s₁ Bd hml0 hP hK
  obtain ⟨rfl, hZ, hh⟩ := hP
  have C : Ctx p s m meth c Z "com/example/otsing/otsing/algorithm/PartialMatchTableExtendPinLaw" "matches" method_4_code 6 (some .boolean) := Ctx.of Bd hml0 hZ
  have X0 : Stand p l e ({ frames := 0, cells := 0, slots := 0, locals := 0 } : Room) s m #[(.ref b0), (.ref b1), (.int (2 : Int32)), (.int (2 : Int32))] below meth c s₁ [] 0 0 := Stand.of_body Bd
  have e0 : s₁.heap = h0 := by rw [← hh, Bd.state]; rfl
  have N0 := Fr.nil n0
  refine Goes.enter (ef_3_2_2 m b0 b1) ?_
  clear hK hml0 hh
  refine g_iloadN 1 rfl C X0 d3_0 rfl ?_
  refine g_iloadN 2 rfl C X0 d3_1 rfl ?_
  refine g_isub 3 rfl C X0 d3_2 ?_
  refine g_istore 5 rfl C X0 (0 : Int32) (by decide) #[.val (.ref b0), .val (.ref b1), .val (.int (2 : Int32)), .val (.int (2 : Int32)), .val (.int (0 : Int32)), .unset] d3_3 rfl ?_
  refine g_iconst 6 rfl C X0 (1 : Int32) d3_5 rfl ?_
  refine g_istore 8 rfl C X0 (1 : Int32) rfl #[.val (.ref b0), .val (.ref b1), .val (.int (2 : Int32)), .val (.int (2 : Int32)), .val (.int (0 : Int32)), .val (.int (1 : Int32))] d3_6 rfl ?_
  refine g_iloadN 9 rfl C X0 d3_8 rfl ?_
  refine g_if_le_f 12 rfl C X0 d3_9 (by decide) ?_
  refine g_aloadN 13 rfl C X0 d3_12 rfl rfl ?_
  refine g_iconst 14 rfl C X0 (0 : Int32) d3_13 rfl ?_
  refine g_caload 15 rfl C X0 e0 B_b0 0 (by decide) (by decide) P0 hP0 d3_14 ?_
  refine g_aloadN 16 rfl C X0 d3_15 rfl rfl ?_
  refine g_iload 18 rfl C X0 d3_16 rfl ?_
  refine g_caload 19 rfl C X0 e0 B_b1 0 (by decide) (by decide) S0 hS0 d3_18 ?_
  by_cases hb1 : P0.toInt = S0.toInt
  · skip
    refine g_icmp_eq_t 25 C X0 d3_19 (by decide) (by decide) hb1 ?_
    refine g_iloadN 26 rfl C X0 d3_25 rfl ?_
    refine g_iconst 27 rfl C X0 (1 : Int32) d3_26 rfl ?_
    refine g_icmp_le_f 30 rfl C X0 d3_27 (by decide) ?_
    refine g_aloadN 31 rfl C X0 d3_30 rfl rfl ?_
    refine g_iconst 32 rfl C X0 (1 : Int32) d3_31 rfl ?_
    refine g_caload 33 rfl C X0 e0 B_b0 1 (by decide) (by decide) P1 hP1 d3_32 ?_
    refine g_aloadN 34 rfl C X0 d3_33 rfl rfl ?_
    refine g_iload 36 rfl C X0 d3_34 rfl ?_
    refine g_iconst 37 rfl C X0 (1 : Int32) d3_36 rfl ?_
    refine g_iadd 38 rfl C X0 d3_37 ?_
    refine g_caload 39 rfl C X0 e0 B_b1 1 (by decide) (by decide) S1 hS1 d3_38 ?_
    by_cases hb2 : P1.toInt = S1.toInt
    · skip
      refine g_icmp_eq_t 45 C X0 d3_39 (by decide) (by decide) hb2 ?_
      refine g_iloadN 46 rfl C X0 d3_45 rfl ?_
      refine g_iconst 47 rfl C X0 (2 : Int32) d3_46 rfl ?_
      refine g_icmp_le_t 65 C X0 d3_47 (by decide) (by decide) (by decide) ?_
      refine g_iloadN 66 rfl C X0 d3_65 rfl ?_
      refine g_iconst 67 rfl C X0 (3 : Int32) d3_66 rfl ?_
      refine g_icmp_le_t 85 C X0 d3_67 (by decide) (by decide) (by decide) ?_
      refine g_iload 87 rfl C X0 d3_85 rfl ?_
      have fc3 : (2 : Int32).toInt = 2 := rfl
      have fr4 := rng32 P0
      have fr5 := rng32 S0
      have fc6 : (1 : Int32).toInt = 1 := rfl
      have fr7 := rng32 P1
      have fr8 := rng32 S1
      have fc9 : (3 : Int32).toInt = 3 := rfl
      exact g_retN C X0 (z' := (1 : Int32)) rfl (Or.inl rfl) d3_87 e0 (by decide) (by decide) rfl ⟨_, rfl, by omega, N0, rfl⟩
    · skip
      refine g_icmp_eq_f 42 rfl C X0 d3_39 hb2 ?_
      refine g_iconst 43 rfl C X0 (0 : Int32) d3_42 rfl ?_
      refine g_istore 45 rfl C X0 (0 : Int32) rfl #[.val (.ref b0), .val (.ref b1), .val (.int (2 : Int32)), .val (.int (2 : Int32)), .val (.int (0 : Int32)), .val (.int (0 : Int32))] d3_43 rfl ?_
      refine g_iloadN 46 rfl C X0 d3_45 rfl ?_
      refine g_iconst 47 rfl C X0 (2 : Int32) d3_46 rfl ?_
      refine g_icmp_le_t 65 C X0 d3_47 (by decide) (by decide) (by decide) ?_
      refine g_iloadN 66 rfl C X0 d3_65 rfl ?_
      refine g_iconst 67 rfl C X0 (3 : Int32) d3_66 rfl ?_
      refine g_icmp_le_t 85 C X0 d3_67 (by decide) (by decide) (by decide) ?_
      refine g_iload 87 rfl C X0 d3_85 rfl ?_
      have fc10 : (2 : Int32).toInt = 2 := rfl
      have fr11 := rng32 P0
      have fr12 := rng32 S0
      have fc13 : (1 : Int32).toInt = 1 := rfl
      have fr14 := rng32 P1
      have fr15 := rng32 S1
      have fc16 : (3 : Int32).toInt = 3 := rfl
      have fc17 : (0 : Int32).toInt = 0 := rfl
      exact g_retN C X0 (z' := (0 : Int32)) rfl (Or.inl rfl) d3_87 e0 (by decide) (by decide) rfl ⟨_, rfl, by omega, N0, rfl⟩
  · skip
    refine g_icmp_eq_f 22 rfl C X0 d3_19 hb1 ?_
    refine g_iconst 23 rfl C X0 (0 : Int32) d3_22 rfl ?_
    refine g_istore 25 rfl C X0 (0 : Int32) rfl #[.val (.ref b0), .val (.ref b1), .val (.int (2 : Int32)), .val (.int (2 : Int32)), .val (.int (0 : Int32)), .val (.int (0 : Int32))] d3_23 rfl ?_
    refine g_iloadN 26 rfl C X0 d3_25 rfl ?_
    refine g_iconst 27 rfl C X0 (1 : Int32) d3_26 rfl ?_
    refine g_icmp_le_f 30 rfl C X0 d3_27 (by decide) ?_
    refine g_aloadN 31 rfl C X0 d3_30 rfl rfl ?_
    refine g_iconst 32 rfl C X0 (1 : Int32) d3_31 rfl ?_
    refine g_caload 33 rfl C X0 e0 B_b0 1 (by decide) (by decide) P1 hP1 d3_32 ?_
    refine g_aloadN 34 rfl C X0 d3_33 rfl rfl ?_
    refine g_iload 36 rfl C X0 d3_34 rfl ?_
    refine g_iconst 37 rfl C X0 (1 : Int32) d3_36 rfl ?_
    refine g_iadd 38 rfl C X0 d3_37 ?_
    refine g_caload 39 rfl C X0 e0 B_b1 1 (by decide) (by decide) S1 hS1 d3_38 ?_
    by_cases hb18 : P1.toInt = S1.toInt
    · skip
      refine g_icmp_eq_t 45 C X0 d3_39 (by decide) (by decide) hb18 ?_
      refine g_iloadN 46 rfl C X0 d3_45 rfl ?_
      refine g_iconst 47 rfl C X0 (2 : Int32) d3_46 rfl ?_
      refine g_icmp_le_t 65 C X0 d3_47 (by decide) (by decide) (by decide) ?_
      refine g_iloadN 66 rfl C X0 d3_65 rfl ?_
      refine g_iconst 67 rfl C X0 (3 : Int32) d3_66 rfl ?_
      refine g_icmp_le_t 85 C X0 d3_67 (by decide) (by decide) (by decide) ?_
      refine g_iload 87 rfl C X0 d3_85 rfl ?_
      have fc19 : (2 : Int32).toInt = 2 := rfl
      have fr20 := rng32 P0
      have fr21 := rng32 S0
      have fc22 : (1 : Int32).toInt = 1 := rfl
      have fr23 := rng32 P1
      have fr24 := rng32 S1
      have fc25 : (3 : Int32).toInt = 3 := rfl
      have fc26 : (0 : Int32).toInt = 0 := rfl
      exact g_retN C X0 (z' := (0 : Int32)) rfl (Or.inl rfl) d3_87 e0 (by decide) (by decide) rfl ⟨_, rfl, by omega, N0, rfl⟩
    · skip
      refine g_icmp_eq_f 42 rfl C X0 d3_39 hb18 ?_
      refine g_iconst 43 rfl C X0 (0 : Int32) d3_42 rfl ?_
      refine g_istore 45 rfl C X0 (0 : Int32) rfl #[.val (.ref b0), .val (.ref b1), .val (.int (2 : Int32)), .val (.int (2 : Int32)), .val (.int (0 : Int32)), .val (.int (0 : Int32))] d3_43 rfl ?_
      refine g_iloadN 46 rfl C X0 d3_45 rfl ?_
      refine g_iconst 47 rfl C X0 (2 : Int32) d3_46 rfl ?_
      refine g_icmp_le_t 65 C X0 d3_47 (by decide) (by decide) (by decide) ?_
      refine g_iloadN 66 rfl C X0 d3_65 rfl ?_
      refine g_iconst 67 rfl C X0 (3 : Int32) d3_66 rfl ?_
      refine g_icmp_le_t 85 C X0 d3_67 (by decide) (by decide) (by decide) ?_
      refine g_iload 87 rfl C X0 d3_85 rfl ?_
      have fc27 : (2 : Int32).toInt = 2 := rfl
      have fr28 := rng32 P0
      have fr29 := rng32 S0
      have fc30 : (1 : Int32).toInt = 1 := rfl
      have fr31 := rng32 P1
      have fr32 := rng32 S1
      have fc33 : (3 : Int32).toInt = 3 := rfl
      have fc34 : (0 : Int32).toInt = 0 := rfl
      exact g_retN C X0 (z' := (0 : Int32)) rfl (Or.inl rfl) d3_87 e0 (by decide) (by decide) rfl ⟨_, rfl, by omega, N0, rfl⟩
theorem ef_2_2_2 (m : MethodId) (b0 : Addr) (b1 : Addr) : entryFrame m #[(.ref b0), (.ref b1), (.int (2 : Int32)), (.int (2 : Int32))] 4 = mkF m 0 #[.val (.ref b0), .val (.ref b1), .val (.int (2 : Int32)), .val (.int (2 : Int32))] [] := by first | (simp [entryFrame, mkF, argsToLocals, Value.category]; done) | rfl
def Q2_2_2 (Z : State) (b0 : Addr) (b1 : Addr) (f : Nat → Int32) (g : Nat → Int32) (P0 : Int32) (P1 : Int32) (P2 : Int32) (P3 : Int32) (S0 : Int32) (S1 : Int32) (S2 : Int32) (S3 : Int32) (h0 : Heap) (n0 : Nat) (v : Option Value) (h : Heap) (L : List Loc) : Prop := ∃ r : Int32, v = some (.int r) ∧ (((r.toInt = 2 ∧ (P0.toInt = S0.toInt ∧ P1.toInt = S1.toInt)) ∨ (¬ (P0.toInt = S0.toInt ∧ P1.toInt = S1.toInt) ∧ ((r.toInt = 1 ∧ (P0.toInt = S1.toInt)) ∨ (¬ (P0.toInt = S1.toInt) ∧ r.toInt = 0))))) ∧ Fr n0 L ∧ h = h0
set_option maxRecDepth 65536 in
set_option maxHeartbeats 40000000 in
theorem rm2_2_2 (l : Launch) (Z : State) (a0 : Array Value) (hw : ∀ d ∈ tables_1, d.before a0 Z = true) (ws : List Jvm.Cond) (b0 : Addr) (b1 : Addr) (f : Nat → Int32) (g : Nat → Int32) (P0 : Int32) (P1 : Int32) (P2 : Int32) (P3 : Int32) (S0 : Int32) (S1 : Int32) (S2 : Int32) (S3 : Int32) (h0 : Heap) (n0 : Nat) (Z0 : n0 ≤ h0.size) (B_b0 : Ba Z h0 b0 .char 4 f) (B_b1 : Ba Z h0 b1 .char 4 g) (hP0 : f 0 = P0) (hP1 : f 1 = P1) (hP2 : f 2 = P2) (hP3 : f 3 = P3) (hS0 : g 0 = S0) (hS1 : g 1 = S1) (hS2 : g 2 = S2) (hS3 : g 3 = S3) :
    MetFree l (⟨"com/example/otsing/otsing/algorithm/PartialMatchTableExtendPinLaw", "longest", "([C[CII)I"⟩ : MethodName) (head1 (Jvm.Cond.code (⟨"com/example/otsing/otsing/algorithm/PartialMatchTableExtendPinLaw", "longest", "([C[CII)I"⟩ : MethodName) method_5_code 4 (some .int) :: ws) ({ frames := 1, cells := 0, slots := 0, locals := 17 } : Room)) (fun a U => a = #[(.ref b0), (.ref b1), (.int (2 : Int32)), (.int (2 : Int32))] ∧ Z.Warmed39 U.vm ∧ U.heap = h0) (fun _ _ _ _ _ => True) (fun _ U o U' => ∃ v L, o = .returned v ∧ Q2_2_2 Z b0 b1 f g P0 P1 P2 P3 S0 S1 S2 S3 h0 n0 v U'.heap L ∧ FrameEnd U o U' L ({ frames := 1, cells := 0, slots := 0, locals := 17 } : Room).cells ({ frames := 1, cells := 0, slots := 0, locals := 17 } : Room).slots) := by
  refine MetFree.of_bodySF (plainFor_of_name pn_11909899) hisR ?_
  intro p e s m args below meth c s₁ Bd hml0 hP hK
  obtain ⟨rfl, hZ, hh⟩ := hP
  have C : Ctx p s m meth c Z "com/example/otsing/otsing/algorithm/PartialMatchTableExtendPinLaw" "longest" method_5_code 4 (some .int) := Ctx.of Bd hml0 hZ
  have X0 : Stand p l e ({ frames := 1, cells := 0, slots := 0, locals := 17 } : Room) s m #[(.ref b0), (.ref b1), (.int (2 : Int32)), (.int (2 : Int32))] below meth c s₁ [] 0 0 := Stand.of_body Bd
  have e0 : s₁.heap = h0 := by rw [← hh, Bd.state]; rfl
  have N0 := Fr.nil n0
  refine Goes.enter (ef_2_2_2 m b0 b1) ?_
  clear hK hml0 hh
  refine g_iloadN 1 rfl C X0 d2_0 rfl ?_
  refine g_iconst 2 rfl C X0 (4 : Int32) d2_1 rfl ?_
  refine g_icmp_lt_t 17 C X0 d2_2 (by decide) (by decide) (by decide) ?_
  refine g_iloadN 18 rfl C X0 d2_17 rfl ?_
  refine g_iconst 19 rfl C X0 (3 : Int32) d2_18 rfl ?_
  refine g_icmp_lt_t 34 C X0 d2_19 (by decide) (by decide) (by decide) ?_
  refine g_iloadN 35 rfl C X0 d2_34 rfl ?_
  refine g_iconst 36 rfl C X0 (2 : Int32) d2_35 rfl ?_
  refine g_icmp_lt_f 39 rfl C X0 d2_36 (by decide) ?_
  refine g_aloadN 40 rfl C X0 d2_39 rfl rfl ?_
  refine g_aloadN 41 rfl C X0 d2_40 rfl rfl ?_
  refine g_iloadN 42 rfl C X0 d2_41 rfl ?_
  refine g_iconst 43 rfl C X0 (2 : Int32) d2_42 rfl ?_
  refine g_callS 46 rfl C X0 (argsL := [(.ref b0), (.ref b1), (.int (2 : Int32)), (.int (2 : Int32))]) (hw _ (List.mem_of_getElem? (i := 9) rfl)) (hw _ (List.mem_of_getElem? (i := 10) rfl)) (hw _ (List.mem_of_getElem? (i := 11) rfl)) (hw _ (List.mem_of_getElem? (i := 3) rfl)) e0 (rm3_2_2 l Z a0 hw [] b0 b1 f g P0 P1 P2 P3 S0 S1 S2 S3 h0 n0 Z0 B_b0 B_b1 hP0 hP1 hP2 hP3 hS0 hS1 hS2 hS3) (lenOf pd_50052798 rfl) (by decide) (by decide) (by decide) (by decide) rfl (W := 0) (Nat.le_of_eq rfl) (by decide) d2_43 rfl fun r1 T2 Lc3 X4 hQ5 => ?_
  obtain ⟨r6, rfl, hs7, Nq8, eh9⟩ := hQ5
  have N10 := Fr.app N0 Nq8
  show Goes _ _ _ _ _ _ 46 _ [(.int r6)]
  by_cases hb11 : r6.toInt = 0
  · skip
    refine g_if_eq_t 51 C X4 d2_46 (by decide) (by decide) hb11 ?_
    refine g_iloadN 52 rfl C X4 d2_51 rfl ?_
    refine g_iconst 53 rfl C X4 (1 : Int32) d2_52 rfl ?_
    refine g_icmp_lt_f 56 rfl C X4 d2_53 (by decide) ?_
    refine g_aloadN 57 rfl C X4 d2_56 rfl rfl ?_
    refine g_aloadN 58 rfl C X4 d2_57 rfl rfl ?_
    refine g_iloadN 59 rfl C X4 d2_58 rfl ?_
    refine g_iconst 60 rfl C X4 (1 : Int32) d2_59 rfl ?_
    refine g_callS 63 rfl C X4 (argsL := [(.ref b0), (.ref b1), (.int (2 : Int32)), (.int (1 : Int32))]) (hw _ (List.mem_of_getElem? (i := 9) rfl)) (hw _ (List.mem_of_getElem? (i := 10) rfl)) (hw _ (List.mem_of_getElem? (i := 11) rfl)) (hw _ (List.mem_of_getElem? (i := 3) rfl)) eh9 (rm3_2_1 l Z a0 hw [] b0 b1 f g P0 P1 P2 P3 S0 S1 S2 S3 h0 n0 Z0 B_b0 B_b1 hP0 hP1 hP2 hP3 hS0 hS1 hS2 hS3) (lenOf pd_50052798 rfl) (by decide) (by decide) (by decide) (by decide) rfl (W := 0) (Nat.le_of_eq rfl) (by decide) d2_60 rfl fun r12 T13 Lc14 X15 hQ16 => ?_
    obtain ⟨r17, rfl, hs18, Nq19, eh20⟩ := hQ16
    have N21 := Fr.app N10 Nq19
    show Goes _ _ _ _ _ _ 63 _ [(.int r17)]
    by_cases hb22 : r17.toInt = 0
    · skip
      refine g_if_eq_t 68 C X15 d2_63 (by decide) (by decide) hb22 ?_
      refine g_iconst 69 rfl C X15 (0 : Int32) d2_68 rfl ?_
      have fc23 : (2 : Int32).toInt = 2 := rfl
      have fc24 : (4 : Int32).toInt = 4 := rfl
      have fc25 : (3 : Int32).toInt = 3 := rfl
      have fr26 := rng32 r6
      have fc27 : (1 : Int32).toInt = 1 := rfl
      have fr28 := rng32 r17
      have fc29 : (0 : Int32).toInt = 0 := rfl
      exact g_retI C X15 rfl d2_69 eh20 (by decide) (by decide) ⟨_, rfl, by omega, N21, rfl⟩
    · skip
      refine g_if_eq_f 66 rfl C X15 d2_63 hb22 ?_
      refine g_iconst 67 rfl C X15 (1 : Int32) d2_66 rfl ?_
      have fc30 : (2 : Int32).toInt = 2 := rfl
      have fc31 : (4 : Int32).toInt = 4 := rfl
      have fc32 : (3 : Int32).toInt = 3 := rfl
      have fr33 := rng32 r6
      have fc34 : (1 : Int32).toInt = 1 := rfl
      have fr35 := rng32 r17
      exact g_retI C X15 rfl d2_67 eh20 (by decide) (by decide) ⟨_, rfl, by omega, N21, rfl⟩
  · skip
    refine g_if_eq_f 49 rfl C X4 d2_46 hb11 ?_
    refine g_iconst 50 rfl C X4 (2 : Int32) d2_49 rfl ?_
    have fc36 : (2 : Int32).toInt = 2 := rfl
    have fc37 : (4 : Int32).toInt = 4 := rfl
    have fc38 : (3 : Int32).toInt = 3 := rfl
    have fr39 := rng32 r6
    exact g_retI C X4 rfl d2_50 eh9 (by decide) (by decide) ⟨_, rfl, by omega, N10, rfl⟩
theorem ef_3_3_3 (m : MethodId) (b0 : Addr) (b1 : Addr) : entryFrame m #[(.ref b0), (.ref b1), (.int (3 : Int32)), (.int (3 : Int32))] 6 = mkF m 0 #[.val (.ref b0), .val (.ref b1), .val (.int (3 : Int32)), .val (.int (3 : Int32)), .unset, .unset] [] := by first | (simp [entryFrame, mkF, argsToLocals, Value.category]; done) | rfl
def Q3_3_3 (Z : State) (b0 : Addr) (b1 : Addr) (f : Nat → Int32) (g : Nat → Int32) (P0 : Int32) (P1 : Int32) (P2 : Int32) (P3 : Int32) (S0 : Int32) (S1 : Int32) (S2 : Int32) (S3 : Int32) (h0 : Heap) (n0 : Nat) (v : Option Value) (h : Heap) (L : List Loc) : Prop := ∃ r : Int32, v = some (.int r) ∧ ((r.toInt = 1 ∧ (P0.toInt = S0.toInt ∧ P1.toInt = S1.toInt ∧ P2.toInt = S2.toInt)) ∨ (r.toInt = 0 ∧ ¬ (P0.toInt = S0.toInt ∧ P1.toInt = S1.toInt ∧ P2.toInt = S2.toInt))) ∧ Fr n0 L ∧ h = h0
set_option maxRecDepth 65536 in
set_option maxHeartbeats 40000000 in
theorem rm3_3_3 (l : Launch) (Z : State) (a0 : Array Value) (hw : ∀ d ∈ tables_1, d.before a0 Z = true) (ws : List Jvm.Cond) (b0 : Addr) (b1 : Addr) (f : Nat → Int32) (g : Nat → Int32) (P0 : Int32) (P1 : Int32) (P2 : Int32) (P3 : Int32) (S0 : Int32) (S1 : Int32) (S2 : Int32) (S3 : Int32) (h0 : Heap) (n0 : Nat) (Z0 : n0 ≤ h0.size) (B_b0 : Ba Z h0 b0 .char 4 f) (B_b1 : Ba Z h0 b1 .char 4 g) (hP0 : f 0 = P0) (hP1 : f 1 = P1) (hP2 : f 2 = P2) (hP3 : f 3 = P3) (hS0 : g 0 = S0) (hS1 : g 1 = S1) (hS2 : g 2 = S2) (hS3 : g 3 = S3) :
    MetFree l (⟨"com/example/otsing/otsing/algorithm/PartialMatchTableExtendPinLaw", "matches", "([C[CII)Z"⟩ : MethodName) (head1 (Jvm.Cond.code (⟨"com/example/otsing/otsing/algorithm/PartialMatchTableExtendPinLaw", "matches", "([C[CII)Z"⟩ : MethodName) method_4_code 6 (some .boolean) :: ws) ({ frames := 0, cells := 0, slots := 0, locals := 0 } : Room)) (fun a U => a = #[(.ref b0), (.ref b1), (.int (3 : Int32)), (.int (3 : Int32))] ∧ Z.Warmed39 U.vm ∧ U.heap = h0) (fun _ _ _ _ _ => True) (fun _ U o U' => ∃ v L, o = .returned v ∧ Q3_3_3 Z b0 b1 f g P0 P1 P2 P3 S0 S1 S2 S3 h0 n0 v U'.heap L ∧ FrameEnd U o U' L ({ frames := 0, cells := 0, slots := 0, locals := 0 } : Room).cells ({ frames := 0, cells := 0, slots := 0, locals := 0 } : Room).slots) := by
  refine MetFree.of_bodySF (plainFor_of_name pn_11909899) hisR ?_
  intro p e s m args below meth c s₁ Bd hml0 hP hK
  obtain ⟨rfl, hZ, hh⟩ := hP
  have C : Ctx p s m meth c Z "com/example/otsing/otsing/algorithm/PartialMatchTableExtendPinLaw" "matches" method_4_code 6 (some .boolean) := Ctx.of Bd hml0 hZ
  have X0 : Stand p l e ({ frames := 0, cells := 0, slots := 0, locals := 0 } : Room) s m #[(.ref b0), (.ref b1), (.int (3 : Int32)), (.int (3 : Int32))] below meth c s₁ [] 0 0 := Stand.of_body Bd
  have e0 : s₁.heap = h0 := by rw [← hh, Bd.state]; rfl
  have N0 := Fr.nil n0
  refine Goes.enter (ef_3_3_3 m b0 b1) ?_
  clear hK hml0 hh
  refine g_iloadN 1 rfl C X0 d3_0 rfl ?_
  refine g_iloadN 2 rfl C X0 d3_1 rfl ?_
  refine g_isub 3 rfl C X0 d3_2 ?_
  refine g_istore 5 rfl C X0 (0 : Int32) (by decide) #[.val (.ref b0), .val (.ref b1), .val (.int (3 : Int32)), .val (.int (3 : Int32)), .val (.int (0 : Int32)), .unset] d3_3 rfl ?_
  refine g_iconst 6 rfl C X0 (1 : Int32) d3_5 rfl ?_
  refine g_istore 8 rfl C X0 (1 : Int32) rfl #[.val (.ref b0), .val (.ref b1), .val (.int (3 : Int32)), .val (.int (3 : Int32)), .val (.int (0 : Int32)), .val (.int (1 : Int32))] d3_6 rfl ?_
  refine g_iloadN 9 rfl C X0 d3_8 rfl ?_
  refine g_if_le_f 12 rfl C X0 d3_9 (by decide) ?_
  refine g_aloadN 13 rfl C X0 d3_12 rfl rfl ?_
  refine g_iconst 14 rfl C X0 (0 : Int32) d3_13 rfl ?_
  refine g_caload 15 rfl C X0 e0 B_b0 0 (by decide) (by decide) P0 hP0 d3_14 ?_
  refine g_aloadN 16 rfl C X0 d3_15 rfl rfl ?_
  refine g_iload 18 rfl C X0 d3_16 rfl ?_
  refine g_caload 19 rfl C X0 e0 B_b1 0 (by decide) (by decide) S0 hS0 d3_18 ?_
  by_cases hb1 : P0.toInt = S0.toInt
  · skip
    refine g_icmp_eq_t 25 C X0 d3_19 (by decide) (by decide) hb1 ?_
    refine g_iloadN 26 rfl C X0 d3_25 rfl ?_
    refine g_iconst 27 rfl C X0 (1 : Int32) d3_26 rfl ?_
    refine g_icmp_le_f 30 rfl C X0 d3_27 (by decide) ?_
    refine g_aloadN 31 rfl C X0 d3_30 rfl rfl ?_
    refine g_iconst 32 rfl C X0 (1 : Int32) d3_31 rfl ?_
    refine g_caload 33 rfl C X0 e0 B_b0 1 (by decide) (by decide) P1 hP1 d3_32 ?_
    refine g_aloadN 34 rfl C X0 d3_33 rfl rfl ?_
    refine g_iload 36 rfl C X0 d3_34 rfl ?_
    refine g_iconst 37 rfl C X0 (1 : Int32) d3_36 rfl ?_
    refine g_iadd 38 rfl C X0 d3_37 ?_
    refine g_caload 39 rfl C X0 e0 B_b1 1 (by decide) (by decide) S1 hS1 d3_38 ?_
    by_cases hb2 : P1.toInt = S1.toInt
    · skip
      refine g_icmp_eq_t 45 C X0 d3_39 (by decide) (by decide) hb2 ?_
      refine g_iloadN 46 rfl C X0 d3_45 rfl ?_
      refine g_iconst 47 rfl C X0 (2 : Int32) d3_46 rfl ?_
      refine g_icmp_le_f 50 rfl C X0 d3_47 (by decide) ?_
      refine g_aloadN 51 rfl C X0 d3_50 rfl rfl ?_
      refine g_iconst 52 rfl C X0 (2 : Int32) d3_51 rfl ?_
      refine g_caload 53 rfl C X0 e0 B_b0 2 (by decide) (by decide) P2 hP2 d3_52 ?_
      refine g_aloadN 54 rfl C X0 d3_53 rfl rfl ?_
      refine g_iload 56 rfl C X0 d3_54 rfl ?_
      refine g_iconst 57 rfl C X0 (2 : Int32) d3_56 rfl ?_
      refine g_iadd 58 rfl C X0 d3_57 ?_
      refine g_caload 59 rfl C X0 e0 B_b1 2 (by decide) (by decide) S2 hS2 d3_58 ?_
      by_cases hb3 : P2.toInt = S2.toInt
      · skip
        refine g_icmp_eq_t 65 C X0 d3_59 (by decide) (by decide) hb3 ?_
        refine g_iloadN 66 rfl C X0 d3_65 rfl ?_
        refine g_iconst 67 rfl C X0 (3 : Int32) d3_66 rfl ?_
        refine g_icmp_le_t 85 C X0 d3_67 (by decide) (by decide) (by decide) ?_
        refine g_iload 87 rfl C X0 d3_85 rfl ?_
        have fc4 : (3 : Int32).toInt = 3 := rfl
        have fr5 := rng32 P0
        have fr6 := rng32 S0
        have fc7 : (1 : Int32).toInt = 1 := rfl
        have fr8 := rng32 P1
        have fr9 := rng32 S1
        have fc10 : (2 : Int32).toInt = 2 := rfl
        have fr11 := rng32 P2
        have fr12 := rng32 S2
        exact g_retN C X0 (z' := (1 : Int32)) rfl (Or.inl rfl) d3_87 e0 (by decide) (by decide) rfl ⟨_, rfl, by omega, N0, rfl⟩
      · skip
        refine g_icmp_eq_f 62 rfl C X0 d3_59 hb3 ?_
        refine g_iconst 63 rfl C X0 (0 : Int32) d3_62 rfl ?_
        refine g_istore 65 rfl C X0 (0 : Int32) rfl #[.val (.ref b0), .val (.ref b1), .val (.int (3 : Int32)), .val (.int (3 : Int32)), .val (.int (0 : Int32)), .val (.int (0 : Int32))] d3_63 rfl ?_
        refine g_iloadN 66 rfl C X0 d3_65 rfl ?_
        refine g_iconst 67 rfl C X0 (3 : Int32) d3_66 rfl ?_
        refine g_icmp_le_t 85 C X0 d3_67 (by decide) (by decide) (by decide) ?_
        refine g_iload 87 rfl C X0 d3_85 rfl ?_
        have fc13 : (3 : Int32).toInt = 3 := rfl
        have fr14 := rng32 P0
        have fr15 := rng32 S0
        have fc16 : (1 : Int32).toInt = 1 := rfl
        have fr17 := rng32 P1
        have fr18 := rng32 S1
        have fc19 : (2 : Int32).toInt = 2 := rfl
        have fr20 := rng32 P2
        have fr21 := rng32 S2
        have fc22 : (0 : Int32).toInt = 0 := rfl
        exact g_retN C X0 (z' := (0 : Int32)) rfl (Or.inl rfl) d3_87 e0 (by decide) (by decide) rfl ⟨_, rfl, by omega, N0, rfl⟩
    · skip
      refine g_icmp_eq_f 42 rfl C X0 d3_39 hb2 ?_
      refine g_iconst 43 rfl C X0 (0 : Int32) d3_42 rfl ?_
      refine g_istore 45 rfl C X0 (0 : Int32) rfl #[.val (.ref b0), .val (.ref b1), .val (.int (3 : Int32)), .val (.int (3 : Int32)), .val (.int (0 : Int32)), .val (.int (0 : Int32))] d3_43 rfl ?_
      refine g_iloadN 46 rfl C X0 d3_45 rfl ?_
      refine g_iconst 47 rfl C X0 (2 : Int32) d3_46 rfl ?_
      refine g_icmp_le_f 50 rfl C X0 d3_47 (by decide) ?_
      refine g_aloadN 51 rfl C X0 d3_50 rfl rfl ?_
      refine g_iconst 52 rfl C X0 (2 : Int32) d3_51 rfl ?_
      refine g_caload 53 rfl C X0 e0 B_b0 2 (by decide) (by decide) P2 hP2 d3_52 ?_
      refine g_aloadN 54 rfl C X0 d3_53 rfl rfl ?_
      refine g_iload 56 rfl C X0 d3_54 rfl ?_
      refine g_iconst 57 rfl C X0 (2 : Int32) d3_56 rfl ?_
      refine g_iadd 58 rfl C X0 d3_57 ?_
      refine g_caload 59 rfl C X0 e0 B_b1 2 (by decide) (by decide) S2 hS2 d3_58 ?_
      by_cases hb23 : P2.toInt = S2.toInt
      · skip
        refine g_icmp_eq_t 65 C X0 d3_59 (by decide) (by decide) hb23 ?_
        refine g_iloadN 66 rfl C X0 d3_65 rfl ?_
        refine g_iconst 67 rfl C X0 (3 : Int32) d3_66 rfl ?_
        refine g_icmp_le_t 85 C X0 d3_67 (by decide) (by decide) (by decide) ?_
        refine g_iload 87 rfl C X0 d3_85 rfl ?_
        have fc24 : (3 : Int32).toInt = 3 := rfl
        have fr25 := rng32 P0
        have fr26 := rng32 S0
        have fc27 : (1 : Int32).toInt = 1 := rfl
        have fr28 := rng32 P1
        have fr29 := rng32 S1
        have fc30 : (2 : Int32).toInt = 2 := rfl
        have fr31 := rng32 P2
        have fr32 := rng32 S2
        have fc33 : (0 : Int32).toInt = 0 := rfl
        exact g_retN C X0 (z' := (0 : Int32)) rfl (Or.inl rfl) d3_87 e0 (by decide) (by decide) rfl ⟨_, rfl, by omega, N0, rfl⟩
      · skip
        refine g_icmp_eq_f 62 rfl C X0 d3_59 hb23 ?_
        refine g_iconst 63 rfl C X0 (0 : Int32) d3_62 rfl ?_
        refine g_istore 65 rfl C X0 (0 : Int32) rfl #[.val (.ref b0), .val (.ref b1), .val (.int (3 : Int32)), .val (.int (3 : Int32)), .val (.int (0 : Int32)), .val (.int (0 : Int32))] d3_63 rfl ?_
        refine g_iloadN 66 rfl C X0 d3_65 rfl ?_
        refine g_iconst 67 rfl C X0 (3 : Int32) d3_66 rfl ?_
        refine g_icmp_le_t 85 C X0 d3_67 (by decide) (by decide) (by decide) ?_
        refine g_iload 87 rfl C X0 d3_85 rfl ?_
        have fc34 : (3 : Int32).toInt = 3 := rfl
        have fr35 := rng32 P0
        have fr36 := rng32 S0
        have fc37 : (1 : Int32).toInt = 1 := rfl
        have fr38 := rng32 P1
        have fr39 := rng32 S1
        have fc40 : (2 : Int32).toInt = 2 := rfl
        have fr41 := rng32 P2
        have fr42 := rng32 S2
        have fc43 : (0 : Int32).toInt = 0 := rfl
        exact g_retN C X0 (z' := (0 : Int32)) rfl (Or.inl rfl) d3_87 e0 (by decide) (by decide) rfl ⟨_, rfl, by omega, N0, rfl⟩
  · skip
    refine g_icmp_eq_f 22 rfl C X0 d3_19 hb1 ?_
    refine g_iconst 23 rfl C X0 (0 : Int32) d3_22 rfl ?_
    refine g_istore 25 rfl C X0 (0 : Int32) rfl #[.val (.ref b0), .val (.ref b1), .val (.int (3 : Int32)), .val (.int (3 : Int32)), .val (.int (0 : Int32)), .val (.int (0 : Int32))] d3_23 rfl ?_
    refine g_iloadN 26 rfl C X0 d3_25 rfl ?_
    refine g_iconst 27 rfl C X0 (1 : Int32) d3_26 rfl ?_
    refine g_icmp_le_f 30 rfl C X0 d3_27 (by decide) ?_
    refine g_aloadN 31 rfl C X0 d3_30 rfl rfl ?_
    refine g_iconst 32 rfl C X0 (1 : Int32) d3_31 rfl ?_
    refine g_caload 33 rfl C X0 e0 B_b0 1 (by decide) (by decide) P1 hP1 d3_32 ?_
    refine g_aloadN 34 rfl C X0 d3_33 rfl rfl ?_
    refine g_iload 36 rfl C X0 d3_34 rfl ?_
    refine g_iconst 37 rfl C X0 (1 : Int32) d3_36 rfl ?_
    refine g_iadd 38 rfl C X0 d3_37 ?_
    refine g_caload 39 rfl C X0 e0 B_b1 1 (by decide) (by decide) S1 hS1 d3_38 ?_
    by_cases hb44 : P1.toInt = S1.toInt
    · skip
      refine g_icmp_eq_t 45 C X0 d3_39 (by decide) (by decide) hb44 ?_
      refine g_iloadN 46 rfl C X0 d3_45 rfl ?_
      refine g_iconst 47 rfl C X0 (2 : Int32) d3_46 rfl ?_
      refine g_icmp_le_f 50 rfl C X0 d3_47 (by decide) ?_
      refine g_aloadN 51 rfl C X0 d3_50 rfl rfl ?_
      refine g_iconst 52 rfl C X0 (2 : Int32) d3_51 rfl ?_
      refine g_caload 53 rfl C X0 e0 B_b0 2 (by decide) (by decide) P2 hP2 d3_52 ?_
      refine g_aloadN 54 rfl C X0 d3_53 rfl rfl ?_
      refine g_iload 56 rfl C X0 d3_54 rfl ?_
      refine g_iconst 57 rfl C X0 (2 : Int32) d3_56 rfl ?_
      refine g_iadd 58 rfl C X0 d3_57 ?_
      refine g_caload 59 rfl C X0 e0 B_b1 2 (by decide) (by decide) S2 hS2 d3_58 ?_
      by_cases hb45 : P2.toInt = S2.toInt
      · skip
        refine g_icmp_eq_t 65 C X0 d3_59 (by decide) (by decide) hb45 ?_
        refine g_iloadN 66 rfl C X0 d3_65 rfl ?_
        refine g_iconst 67 rfl C X0 (3 : Int32) d3_66 rfl ?_
        refine g_icmp_le_t 85 C X0 d3_67 (by decide) (by decide) (by decide) ?_
        refine g_iload 87 rfl C X0 d3_85 rfl ?_
        have fc46 : (3 : Int32).toInt = 3 := rfl
        have fr47 := rng32 P0
        have fr48 := rng32 S0
        have fc49 : (1 : Int32).toInt = 1 := rfl
        have fr50 := rng32 P1
        have fr51 := rng32 S1
        have fc52 : (2 : Int32).toInt = 2 := rfl
        have fr53 := rng32 P2
        have fr54 := rng32 S2
        have fc55 : (0 : Int32).toInt = 0 := rfl
        exact g_retN C X0 (z' := (0 : Int32)) rfl (Or.inl rfl) d3_87 e0 (by decide) (by decide) rfl ⟨_, rfl, by omega, N0, rfl⟩
      · skip
        refine g_icmp_eq_f 62 rfl C X0 d3_59 hb45 ?_
        refine g_iconst 63 rfl C X0 (0 : Int32) d3_62 rfl ?_
        refine g_istore 65 rfl C X0 (0 : Int32) rfl #[.val (.ref b0), .val (.ref b1), .val (.int (3 : Int32)), .val (.int (3 : Int32)), .val (.int (0 : Int32)), .val (.int (0 : Int32))] d3_63 rfl ?_
        refine g_iloadN 66 rfl C X0 d3_65 rfl ?_
        refine g_iconst 67 rfl C X0 (3 : Int32) d3_66 rfl ?_
        refine g_icmp_le_t 85 C X0 d3_67 (by decide) (by decide) (by decide) ?_
        refine g_iload 87 rfl C X0 d3_85 rfl ?_
        have fc56 : (3 : Int32).toInt = 3 := rfl
        have fr57 := rng32 P0
        have fr58 := rng32 S0
        have fc59 : (1 : Int32).toInt = 1 := rfl
        have fr60 := rng32 P1
        have fr61 := rng32 S1
        have fc62 : (2 : Int32).toInt = 2 := rfl
        have fr63 := rng32 P2
        have fr64 := rng32 S2
        have fc65 : (0 : Int32).toInt = 0 := rfl
        exact g_retN C X0 (z' := (0 : Int32)) rfl (Or.inl rfl) d3_87 e0 (by decide) (by decide) rfl ⟨_, rfl, by omega, N0, rfl⟩
    · skip
      refine g_icmp_eq_f 42 rfl C X0 d3_39 hb44 ?_
      refine g_iconst 43 rfl C X0 (0 : Int32) d3_42 rfl ?_
      refine g_istore 45 rfl C X0 (0 : Int32) rfl #[.val (.ref b0), .val (.ref b1), .val (.int (3 : Int32)), .val (.int (3 : Int32)), .val (.int (0 : Int32)), .val (.int (0 : Int32))] d3_43 rfl ?_
      refine g_iloadN 46 rfl C X0 d3_45 rfl ?_
      refine g_iconst 47 rfl C X0 (2 : Int32) d3_46 rfl ?_
      refine g_icmp_le_f 50 rfl C X0 d3_47 (by decide) ?_
      refine g_aloadN 51 rfl C X0 d3_50 rfl rfl ?_
      refine g_iconst 52 rfl C X0 (2 : Int32) d3_51 rfl ?_
      refine g_caload 53 rfl C X0 e0 B_b0 2 (by decide) (by decide) P2 hP2 d3_52 ?_
      refine g_aloadN 54 rfl C X0 d3_53 rfl rfl ?_
      refine g_iload 56 rfl C X0 d3_54 rfl ?_
      refine g_iconst 57 rfl C X0 (2 : Int32) d3_56 rfl ?_
      refine g_iadd 58 rfl C X0 d3_57 ?_
      refine g_caload 59 rfl C X0 e0 B_b1 2 (by decide) (by decide) S2 hS2 d3_58 ?_
      by_cases hb66 : P2.toInt = S2.toInt
      · skip
        refine g_icmp_eq_t 65 C X0 d3_59 (by decide) (by decide) hb66 ?_
        refine g_iloadN 66 rfl C X0 d3_65 rfl ?_
        refine g_iconst 67 rfl C X0 (3 : Int32) d3_66 rfl ?_
        refine g_icmp_le_t 85 C X0 d3_67 (by decide) (by decide) (by decide) ?_
        refine g_iload 87 rfl C X0 d3_85 rfl ?_
        have fc67 : (3 : Int32).toInt = 3 := rfl
        have fr68 := rng32 P0
        have fr69 := rng32 S0
        have fc70 : (1 : Int32).toInt = 1 := rfl
        have fr71 := rng32 P1
        have fr72 := rng32 S1
        have fc73 : (2 : Int32).toInt = 2 := rfl
        have fr74 := rng32 P2
        have fr75 := rng32 S2
        have fc76 : (0 : Int32).toInt = 0 := rfl
        exact g_retN C X0 (z' := (0 : Int32)) rfl (Or.inl rfl) d3_87 e0 (by decide) (by decide) rfl ⟨_, rfl, by omega, N0, rfl⟩
      · skip
        refine g_icmp_eq_f 62 rfl C X0 d3_59 hb66 ?_
        refine g_iconst 63 rfl C X0 (0 : Int32) d3_62 rfl ?_
        refine g_istore 65 rfl C X0 (0 : Int32) rfl #[.val (.ref b0), .val (.ref b1), .val (.int (3 : Int32)), .val (.int (3 : Int32)), .val (.int (0 : Int32)), .val (.int (0 : Int32))] d3_63 rfl ?_
        refine g_iloadN 66 rfl C X0 d3_65 rfl ?_
        refine g_iconst 67 rfl C X0 (3 : Int32) d3_66 rfl ?_
        refine g_icmp_le_t 85 C X0 d3_67 (by decide) (by decide) (by decide) ?_
        refine g_iload 87 rfl C X0 d3_85 rfl ?_
        have fc77 : (3 : Int32).toInt = 3 := rfl
        have fr78 := rng32 P0
        have fr79 := rng32 S0
        have fc80 : (1 : Int32).toInt = 1 := rfl
        have fr81 := rng32 P1
        have fr82 := rng32 S1
        have fc83 : (2 : Int32).toInt = 2 := rfl
        have fr84 := rng32 P2
        have fr85 := rng32 S2
        have fc86 : (0 : Int32).toInt = 0 := rfl
        exact g_retN C X0 (z' := (0 : Int32)) rfl (Or.inl rfl) d3_87 e0 (by decide) (by decide) rfl ⟨_, rfl, by omega, N0, rfl⟩
theorem ef_2_3_3 (m : MethodId) (b0 : Addr) (b1 : Addr) : entryFrame m #[(.ref b0), (.ref b1), (.int (3 : Int32)), (.int (3 : Int32))] 4 = mkF m 0 #[.val (.ref b0), .val (.ref b1), .val (.int (3 : Int32)), .val (.int (3 : Int32))] [] := by first | (simp [entryFrame, mkF, argsToLocals, Value.category]; done) | rfl
def Q2_3_3 (Z : State) (b0 : Addr) (b1 : Addr) (f : Nat → Int32) (g : Nat → Int32) (P0 : Int32) (P1 : Int32) (P2 : Int32) (P3 : Int32) (S0 : Int32) (S1 : Int32) (S2 : Int32) (S3 : Int32) (h0 : Heap) (n0 : Nat) (v : Option Value) (h : Heap) (L : List Loc) : Prop := ∃ r : Int32, v = some (.int r) ∧ (((r.toInt = 3 ∧ (P0.toInt = S0.toInt ∧ P1.toInt = S1.toInt ∧ P2.toInt = S2.toInt)) ∨ (¬ (P0.toInt = S0.toInt ∧ P1.toInt = S1.toInt ∧ P2.toInt = S2.toInt) ∧ ((r.toInt = 2 ∧ (P0.toInt = S1.toInt ∧ P1.toInt = S2.toInt)) ∨ (¬ (P0.toInt = S1.toInt ∧ P1.toInt = S2.toInt) ∧ ((r.toInt = 1 ∧ (P0.toInt = S2.toInt)) ∨ (¬ (P0.toInt = S2.toInt) ∧ r.toInt = 0))))))) ∧ Fr n0 L ∧ h = h0
set_option maxRecDepth 65536 in
set_option maxHeartbeats 40000000 in
theorem rm2_3_3 (l : Launch) (Z : State) (a0 : Array Value) (hw : ∀ d ∈ tables_1, d.before a0 Z = true) (ws : List Jvm.Cond) (b0 : Addr) (b1 : Addr) (f : Nat → Int32) (g : Nat → Int32) (P0 : Int32) (P1 : Int32) (P2 : Int32) (P3 : Int32) (S0 : Int32) (S1 : Int32) (S2 : Int32) (S3 : Int32) (h0 : Heap) (n0 : Nat) (Z0 : n0 ≤ h0.size) (B_b0 : Ba Z h0 b0 .char 4 f) (B_b1 : Ba Z h0 b1 .char 4 g) (hP0 : f 0 = P0) (hP1 : f 1 = P1) (hP2 : f 2 = P2) (hP3 : f 3 = P3) (hS0 : g 0 = S0) (hS1 : g 1 = S1) (hS2 : g 2 = S2) (hS3 : g 3 = S3) :
    MetFree l (⟨"com/example/otsing/otsing/algorithm/PartialMatchTableExtendPinLaw", "longest", "([C[CII)I"⟩ : MethodName) (head1 (Jvm.Cond.code (⟨"com/example/otsing/otsing/algorithm/PartialMatchTableExtendPinLaw", "longest", "([C[CII)I"⟩ : MethodName) method_5_code 4 (some .int) :: ws) ({ frames := 1, cells := 0, slots := 0, locals := 17 } : Room)) (fun a U => a = #[(.ref b0), (.ref b1), (.int (3 : Int32)), (.int (3 : Int32))] ∧ Z.Warmed39 U.vm ∧ U.heap = h0) (fun _ _ _ _ _ => True) (fun _ U o U' => ∃ v L, o = .returned v ∧ Q2_3_3 Z b0 b1 f g P0 P1 P2 P3 S0 S1 S2 S3 h0 n0 v U'.heap L ∧ FrameEnd U o U' L ({ frames := 1, cells := 0, slots := 0, locals := 17 } : Room).cells ({ frames := 1, cells := 0, slots := 0, locals := 17 } : Room).slots) := by
  refine MetFree.of_bodySF (plainFor_of_name pn_11909899) hisR ?_
  intro p e s m args below meth c s₁ Bd hml0 hP hK
  obtain ⟨rfl, hZ, hh⟩ := hP
  have C : Ctx p s m meth c Z "com/example/otsing/otsing/algorithm/PartialMatchTableExtendPinLaw" "longest" method_5_code 4 (some .int) := Ctx.of Bd hml0 hZ
  have X0 : Stand p l e ({ frames := 1, cells := 0, slots := 0, locals := 17 } : Room) s m #[(.ref b0), (.ref b1), (.int (3 : Int32)), (.int (3 : Int32))] below meth c s₁ [] 0 0 := Stand.of_body Bd
  have e0 : s₁.heap = h0 := by rw [← hh, Bd.state]; rfl
  have N0 := Fr.nil n0
  refine Goes.enter (ef_2_3_3 m b0 b1) ?_
  clear hK hml0 hh
  refine g_iloadN 1 rfl C X0 d2_0 rfl ?_
  refine g_iconst 2 rfl C X0 (4 : Int32) d2_1 rfl ?_
  refine g_icmp_lt_t 17 C X0 d2_2 (by decide) (by decide) (by decide) ?_
  refine g_iloadN 18 rfl C X0 d2_17 rfl ?_
  refine g_iconst 19 rfl C X0 (3 : Int32) d2_18 rfl ?_
  refine g_icmp_lt_f 22 rfl C X0 d2_19 (by decide) ?_
  refine g_aloadN 23 rfl C X0 d2_22 rfl rfl ?_
  refine g_aloadN 24 rfl C X0 d2_23 rfl rfl ?_
  refine g_iloadN 25 rfl C X0 d2_24 rfl ?_
  refine g_iconst 26 rfl C X0 (3 : Int32) d2_25 rfl ?_
  refine g_callS 29 rfl C X0 (argsL := [(.ref b0), (.ref b1), (.int (3 : Int32)), (.int (3 : Int32))]) (hw _ (List.mem_of_getElem? (i := 9) rfl)) (hw _ (List.mem_of_getElem? (i := 10) rfl)) (hw _ (List.mem_of_getElem? (i := 11) rfl)) (hw _ (List.mem_of_getElem? (i := 3) rfl)) e0 (rm3_3_3 l Z a0 hw [] b0 b1 f g P0 P1 P2 P3 S0 S1 S2 S3 h0 n0 Z0 B_b0 B_b1 hP0 hP1 hP2 hP3 hS0 hS1 hS2 hS3) (lenOf pd_50052798 rfl) (by decide) (by decide) (by decide) (by decide) rfl (W := 0) (Nat.le_of_eq rfl) (by decide) d2_26 rfl fun r1 T2 Lc3 X4 hQ5 => ?_
  obtain ⟨r6, rfl, hs7, Nq8, eh9⟩ := hQ5
  have N10 := Fr.app N0 Nq8
  show Goes _ _ _ _ _ _ 29 _ [(.int r6)]
  by_cases hb11 : r6.toInt = 0
  · skip
    refine g_if_eq_t 34 C X4 d2_29 (by decide) (by decide) hb11 ?_
    refine g_iloadN 35 rfl C X4 d2_34 rfl ?_
    refine g_iconst 36 rfl C X4 (2 : Int32) d2_35 rfl ?_
    refine g_icmp_lt_f 39 rfl C X4 d2_36 (by decide) ?_
    refine g_aloadN 40 rfl C X4 d2_39 rfl rfl ?_
    refine g_aloadN 41 rfl C X4 d2_40 rfl rfl ?_
    refine g_iloadN 42 rfl C X4 d2_41 rfl ?_
    refine g_iconst 43 rfl C X4 (2 : Int32) d2_42 rfl ?_
    refine g_callS 46 rfl C X4 (argsL := [(.ref b0), (.ref b1), (.int (3 : Int32)), (.int (2 : Int32))]) (hw _ (List.mem_of_getElem? (i := 9) rfl)) (hw _ (List.mem_of_getElem? (i := 10) rfl)) (hw _ (List.mem_of_getElem? (i := 11) rfl)) (hw _ (List.mem_of_getElem? (i := 3) rfl)) eh9 (rm3_3_2 l Z a0 hw [] b0 b1 f g P0 P1 P2 P3 S0 S1 S2 S3 h0 n0 Z0 B_b0 B_b1 hP0 hP1 hP2 hP3 hS0 hS1 hS2 hS3) (lenOf pd_50052798 rfl) (by decide) (by decide) (by decide) (by decide) rfl (W := 0) (Nat.le_of_eq rfl) (by decide) d2_43 rfl fun r12 T13 Lc14 X15 hQ16 => ?_
    obtain ⟨r17, rfl, hs18, Nq19, eh20⟩ := hQ16
    have N21 := Fr.app N10 Nq19
    show Goes _ _ _ _ _ _ 46 _ [(.int r17)]
    by_cases hb22 : r17.toInt = 0
    · skip
      refine g_if_eq_t 51 C X15 d2_46 (by decide) (by decide) hb22 ?_
      refine g_iloadN 52 rfl C X15 d2_51 rfl ?_
      refine g_iconst 53 rfl C X15 (1 : Int32) d2_52 rfl ?_
      refine g_icmp_lt_f 56 rfl C X15 d2_53 (by decide) ?_
      refine g_aloadN 57 rfl C X15 d2_56 rfl rfl ?_
      refine g_aloadN 58 rfl C X15 d2_57 rfl rfl ?_
      refine g_iloadN 59 rfl C X15 d2_58 rfl ?_
      refine g_iconst 60 rfl C X15 (1 : Int32) d2_59 rfl ?_
      refine g_callS 63 rfl C X15 (argsL := [(.ref b0), (.ref b1), (.int (3 : Int32)), (.int (1 : Int32))]) (hw _ (List.mem_of_getElem? (i := 9) rfl)) (hw _ (List.mem_of_getElem? (i := 10) rfl)) (hw _ (List.mem_of_getElem? (i := 11) rfl)) (hw _ (List.mem_of_getElem? (i := 3) rfl)) eh20 (rm3_3_1 l Z a0 hw [] b0 b1 f g P0 P1 P2 P3 S0 S1 S2 S3 h0 n0 Z0 B_b0 B_b1 hP0 hP1 hP2 hP3 hS0 hS1 hS2 hS3) (lenOf pd_50052798 rfl) (by decide) (by decide) (by decide) (by decide) rfl (W := 0) (Nat.le_of_eq rfl) (by decide) d2_60 rfl fun r23 T24 Lc25 X26 hQ27 => ?_
      obtain ⟨r28, rfl, hs29, Nq30, eh31⟩ := hQ27
      have N32 := Fr.app N21 Nq30
      show Goes _ _ _ _ _ _ 63 _ [(.int r28)]
      by_cases hb33 : r28.toInt = 0
      · skip
        refine g_if_eq_t 68 C X26 d2_63 (by decide) (by decide) hb33 ?_
        refine g_iconst 69 rfl C X26 (0 : Int32) d2_68 rfl ?_
        have fc34 : (3 : Int32).toInt = 3 := rfl
        have fc35 : (4 : Int32).toInt = 4 := rfl
        have fr36 := rng32 r6
        have fc37 : (2 : Int32).toInt = 2 := rfl
        have fr38 := rng32 r17
        have fc39 : (1 : Int32).toInt = 1 := rfl
        have fr40 := rng32 r28
        have fc41 : (0 : Int32).toInt = 0 := rfl
        exact g_retI C X26 rfl d2_69 eh31 (by decide) (by decide) ⟨_, rfl, by omega, N32, rfl⟩
      · skip
        refine g_if_eq_f 66 rfl C X26 d2_63 hb33 ?_
        refine g_iconst 67 rfl C X26 (1 : Int32) d2_66 rfl ?_
        have fc42 : (3 : Int32).toInt = 3 := rfl
        have fc43 : (4 : Int32).toInt = 4 := rfl
        have fr44 := rng32 r6
        have fc45 : (2 : Int32).toInt = 2 := rfl
        have fr46 := rng32 r17
        have fc47 : (1 : Int32).toInt = 1 := rfl
        have fr48 := rng32 r28
        exact g_retI C X26 rfl d2_67 eh31 (by decide) (by decide) ⟨_, rfl, by omega, N32, rfl⟩
    · skip
      refine g_if_eq_f 49 rfl C X15 d2_46 hb22 ?_
      refine g_iconst 50 rfl C X15 (2 : Int32) d2_49 rfl ?_
      have fc49 : (3 : Int32).toInt = 3 := rfl
      have fc50 : (4 : Int32).toInt = 4 := rfl
      have fr51 := rng32 r6
      have fc52 : (2 : Int32).toInt = 2 := rfl
      have fr53 := rng32 r17
      exact g_retI C X15 rfl d2_50 eh20 (by decide) (by decide) ⟨_, rfl, by omega, N21, rfl⟩
  · skip
    refine g_if_eq_f 32 rfl C X4 d2_29 hb11 ?_
    refine g_iconst 33 rfl C X4 (3 : Int32) d2_32 rfl ?_
    have fc54 : (3 : Int32).toInt = 3 := rfl
    have fc55 : (4 : Int32).toInt = 4 := rfl
    have fr56 := rng32 r6
    exact g_retI C X4 rfl d2_33 eh9 (by decide) (by decide) ⟨_, rfl, by omega, N10, rfl⟩
theorem d3_70 : decode method_4_code 70 = .ok (.aload_n 0, 1) := by decide +kernel
theorem d3_71 : decode method_4_code 71 = .ok (.iconst 3, 1) := by decide +kernel
theorem d3_72 : decode method_4_code 72 = .ok (.caload, 1) := by decide +kernel
theorem d3_73 : decode method_4_code 73 = .ok (.aload_n 1, 1) := by decide +kernel
theorem d3_74 : decode method_4_code 74 = .ok (.iload 4, 2) := by decide +kernel
theorem d3_76 : decode method_4_code 76 = .ok (.iconst 3, 1) := by decide +kernel
theorem d3_77 : decode method_4_code 77 = .ok (.iadd, 1) := by decide +kernel
theorem d3_78 : decode method_4_code 78 = .ok (.caload, 1) := by decide +kernel
theorem d3_79 : decode method_4_code 79 = .ok (.if_icmp .eq 6, 3) := by decide +kernel
theorem d3_82 : decode method_4_code 82 = .ok (.iconst 0, 1) := by decide +kernel
theorem d3_83 : decode method_4_code 83 = .ok (.istore 5, 2) := by decide +kernel
theorem ef_3_4_4 (m : MethodId) (b0 : Addr) (b1 : Addr) : entryFrame m #[(.ref b0), (.ref b1), (.int (4 : Int32)), (.int (4 : Int32))] 6 = mkF m 0 #[.val (.ref b0), .val (.ref b1), .val (.int (4 : Int32)), .val (.int (4 : Int32)), .unset, .unset] [] := by first | (simp [entryFrame, mkF, argsToLocals, Value.category]; done) | rfl
def Q3_4_4 (Z : State) (b0 : Addr) (b1 : Addr) (f : Nat → Int32) (g : Nat → Int32) (P0 : Int32) (P1 : Int32) (P2 : Int32) (P3 : Int32) (S0 : Int32) (S1 : Int32) (S2 : Int32) (S3 : Int32) (h0 : Heap) (n0 : Nat) (v : Option Value) (h : Heap) (L : List Loc) : Prop := ∃ r : Int32, v = some (.int r) ∧ ((r.toInt = 1 ∧ (P0.toInt = S0.toInt ∧ P1.toInt = S1.toInt ∧ P2.toInt = S2.toInt ∧ P3.toInt = S3.toInt)) ∨ (r.toInt = 0 ∧ ¬ (P0.toInt = S0.toInt ∧ P1.toInt = S1.toInt ∧ P2.toInt = S2.toInt ∧ P3.toInt = S3.toInt))) ∧ Fr n0 L ∧ h = h0
set_option maxRecDepth 65536 in
set_option maxHeartbeats 40000000 in
theorem rm3_4_4 (l : Launch) (Z : State) (a0 : Array Value) (hw : ∀ d ∈ tables_1, d.before a0 Z = true) (ws : List Jvm.Cond) (b0 : Addr) (b1 : Addr) (f : Nat → Int32) (g : Nat → Int32) (P0 : Int32) (P1 : Int32) (P2 : Int32) (P3 : Int32) (S0 : Int32) (S1 : Int32) (S2 : Int32) (S3 : Int32) (h0 : Heap) (n0 : Nat) (Z0 : n0 ≤ h0.size) (B_b0 : Ba Z h0 b0 .char 4 f) (B_b1 : Ba Z h0 b1 .char 4 g) (hP0 : f 0 = P0) (hP1 : f 1 = P1) (hP2 : f 2 = P2) (hP3 : f 3 = P3) (hS0 : g 0 = S0) (hS1 : g 1 = S1) (hS2 : g 2 = S2) (hS3 : g 3 = S3) :
    MetFree l (⟨"com/example/otsing/otsing/algorithm/PartialMatchTableExtendPinLaw", "matches", "([C[CII)Z"⟩ : MethodName) (head1 (Jvm.Cond.code (⟨"com/example/otsing/otsing/algorithm/PartialMatchTableExtendPinLaw", "matches", "([C[CII)Z"⟩ : MethodName) method_4_code 6 (some .boolean) :: ws) ({ frames := 0, cells := 0, slots := 0, locals := 0 } : Room)) (fun a U => a = #[(.ref b0), (.ref b1), (.int (4 : Int32)), (.int (4 : Int32))] ∧ Z.Warmed39 U.vm ∧ U.heap = h0) (fun _ _ _ _ _ => True) (fun _ U o U' => ∃ v L, o = .returned v ∧ Q3_4_4 Z b0 b1 f g P0 P1 P2 P3 S0 S1 S2 S3 h0 n0 v U'.heap L ∧ FrameEnd U o U' L ({ frames := 0, cells := 0, slots := 0, locals := 0 } : Room).cells ({ frames := 0, cells := 0, slots := 0, locals := 0 } : Room).slots) := by
  refine MetFree.of_bodySF (plainFor_of_name pn_11909899) hisR ?_
  intro p e s m args below meth c s₁ Bd hml0 hP hK
  obtain ⟨rfl, hZ, hh⟩ := hP
  have C : Ctx p s m meth c Z "com/example/otsing/otsing/algorithm/PartialMatchTableExtendPinLaw" "matches" method_4_code 6 (some .boolean) := Ctx.of Bd hml0 hZ
  have X0 : Stand p l e ({ frames := 0, cells := 0, slots := 0, locals := 0 } : Room) s m #[(.ref b0), (.ref b1), (.int (4 : Int32)), (.int (4 : Int32))] below meth c s₁ [] 0 0 := Stand.of_body Bd
  have e0 : s₁.heap = h0 := by rw [← hh, Bd.state]; rfl
  have N0 := Fr.nil n0
  refine Goes.enter (ef_3_4_4 m b0 b1) ?_
  clear hK hml0 hh
  refine g_iloadN 1 rfl C X0 d3_0 rfl ?_
  refine g_iloadN 2 rfl C X0 d3_1 rfl ?_
  refine g_isub 3 rfl C X0 d3_2 ?_
  refine g_istore 5 rfl C X0 (0 : Int32) (by decide) #[.val (.ref b0), .val (.ref b1), .val (.int (4 : Int32)), .val (.int (4 : Int32)), .val (.int (0 : Int32)), .unset] d3_3 rfl ?_
  refine g_iconst 6 rfl C X0 (1 : Int32) d3_5 rfl ?_
  refine g_istore 8 rfl C X0 (1 : Int32) rfl #[.val (.ref b0), .val (.ref b1), .val (.int (4 : Int32)), .val (.int (4 : Int32)), .val (.int (0 : Int32)), .val (.int (1 : Int32))] d3_6 rfl ?_
  refine g_iloadN 9 rfl C X0 d3_8 rfl ?_
  refine g_if_le_f 12 rfl C X0 d3_9 (by decide) ?_
  refine g_aloadN 13 rfl C X0 d3_12 rfl rfl ?_
  refine g_iconst 14 rfl C X0 (0 : Int32) d3_13 rfl ?_
  refine g_caload 15 rfl C X0 e0 B_b0 0 (by decide) (by decide) P0 hP0 d3_14 ?_
  refine g_aloadN 16 rfl C X0 d3_15 rfl rfl ?_
  refine g_iload 18 rfl C X0 d3_16 rfl ?_
  refine g_caload 19 rfl C X0 e0 B_b1 0 (by decide) (by decide) S0 hS0 d3_18 ?_
  by_cases hb1 : P0.toInt = S0.toInt
  · skip
    refine g_icmp_eq_t 25 C X0 d3_19 (by decide) (by decide) hb1 ?_
    refine g_iloadN 26 rfl C X0 d3_25 rfl ?_
    refine g_iconst 27 rfl C X0 (1 : Int32) d3_26 rfl ?_
    refine g_icmp_le_f 30 rfl C X0 d3_27 (by decide) ?_
    refine g_aloadN 31 rfl C X0 d3_30 rfl rfl ?_
    refine g_iconst 32 rfl C X0 (1 : Int32) d3_31 rfl ?_
    refine g_caload 33 rfl C X0 e0 B_b0 1 (by decide) (by decide) P1 hP1 d3_32 ?_
    refine g_aloadN 34 rfl C X0 d3_33 rfl rfl ?_
    refine g_iload 36 rfl C X0 d3_34 rfl ?_
    refine g_iconst 37 rfl C X0 (1 : Int32) d3_36 rfl ?_
    refine g_iadd 38 rfl C X0 d3_37 ?_
    refine g_caload 39 rfl C X0 e0 B_b1 1 (by decide) (by decide) S1 hS1 d3_38 ?_
    by_cases hb2 : P1.toInt = S1.toInt
    · skip
      refine g_icmp_eq_t 45 C X0 d3_39 (by decide) (by decide) hb2 ?_
      refine g_iloadN 46 rfl C X0 d3_45 rfl ?_
      refine g_iconst 47 rfl C X0 (2 : Int32) d3_46 rfl ?_
      refine g_icmp_le_f 50 rfl C X0 d3_47 (by decide) ?_
      refine g_aloadN 51 rfl C X0 d3_50 rfl rfl ?_
      refine g_iconst 52 rfl C X0 (2 : Int32) d3_51 rfl ?_
      refine g_caload 53 rfl C X0 e0 B_b0 2 (by decide) (by decide) P2 hP2 d3_52 ?_
      refine g_aloadN 54 rfl C X0 d3_53 rfl rfl ?_
      refine g_iload 56 rfl C X0 d3_54 rfl ?_
      refine g_iconst 57 rfl C X0 (2 : Int32) d3_56 rfl ?_
      refine g_iadd 58 rfl C X0 d3_57 ?_
      refine g_caload 59 rfl C X0 e0 B_b1 2 (by decide) (by decide) S2 hS2 d3_58 ?_
      by_cases hb3 : P2.toInt = S2.toInt
      · skip
        refine g_icmp_eq_t 65 C X0 d3_59 (by decide) (by decide) hb3 ?_
        refine g_iloadN 66 rfl C X0 d3_65 rfl ?_
        refine g_iconst 67 rfl C X0 (3 : Int32) d3_66 rfl ?_
        refine g_icmp_le_f 70 rfl C X0 d3_67 (by decide) ?_
        refine g_aloadN 71 rfl C X0 d3_70 rfl rfl ?_
        refine g_iconst 72 rfl C X0 (3 : Int32) d3_71 rfl ?_
        refine g_caload 73 rfl C X0 e0 B_b0 3 (by decide) (by decide) P3 hP3 d3_72 ?_
        refine g_aloadN 74 rfl C X0 d3_73 rfl rfl ?_
        refine g_iload 76 rfl C X0 d3_74 rfl ?_
        refine g_iconst 77 rfl C X0 (3 : Int32) d3_76 rfl ?_
        refine g_iadd 78 rfl C X0 d3_77 ?_
        refine g_caload 79 rfl C X0 e0 B_b1 3 (by decide) (by decide) S3 hS3 d3_78 ?_
        by_cases hb4 : P3.toInt = S3.toInt
        · skip
          refine g_icmp_eq_t 85 C X0 d3_79 (by decide) (by decide) hb4 ?_
          refine g_iload 87 rfl C X0 d3_85 rfl ?_
          have fc5 : (4 : Int32).toInt = 4 := rfl
          have fr6 := rng32 P0
          have fr7 := rng32 S0
          have fc8 : (1 : Int32).toInt = 1 := rfl
          have fr9 := rng32 P1
          have fr10 := rng32 S1
          have fc11 : (2 : Int32).toInt = 2 := rfl
          have fr12 := rng32 P2
          have fr13 := rng32 S2
          have fc14 : (3 : Int32).toInt = 3 := rfl
          have fr15 := rng32 P3
          have fr16 := rng32 S3
          exact g_retN C X0 (z' := (1 : Int32)) rfl (Or.inl rfl) d3_87 e0 (by decide) (by decide) rfl ⟨_, rfl, by omega, N0, rfl⟩
        · skip
          refine g_icmp_eq_f 82 rfl C X0 d3_79 hb4 ?_
          refine g_iconst 83 rfl C X0 (0 : Int32) d3_82 rfl ?_
          refine g_istore 85 rfl C X0 (0 : Int32) rfl #[.val (.ref b0), .val (.ref b1), .val (.int (4 : Int32)), .val (.int (4 : Int32)), .val (.int (0 : Int32)), .val (.int (0 : Int32))] d3_83 rfl ?_
          refine g_iload 87 rfl C X0 d3_85 rfl ?_
          have fc17 : (4 : Int32).toInt = 4 := rfl
          have fr18 := rng32 P0
          have fr19 := rng32 S0
          have fc20 : (1 : Int32).toInt = 1 := rfl
          have fr21 := rng32 P1
          have fr22 := rng32 S1
          have fc23 : (2 : Int32).toInt = 2 := rfl
          have fr24 := rng32 P2
          have fr25 := rng32 S2
          have fc26 : (3 : Int32).toInt = 3 := rfl
          have fr27 := rng32 P3
          have fr28 := rng32 S3
          have fc29 : (0 : Int32).toInt = 0 := rfl
          exact g_retN C X0 (z' := (0 : Int32)) rfl (Or.inl rfl) d3_87 e0 (by decide) (by decide) rfl ⟨_, rfl, by omega, N0, rfl⟩
      · skip
        refine g_icmp_eq_f 62 rfl C X0 d3_59 hb3 ?_
        refine g_iconst 63 rfl C X0 (0 : Int32) d3_62 rfl ?_
        refine g_istore 65 rfl C X0 (0 : Int32) rfl #[.val (.ref b0), .val (.ref b1), .val (.int (4 : Int32)), .val (.int (4 : Int32)), .val (.int (0 : Int32)), .val (.int (0 : Int32))] d3_63 rfl ?_
        refine g_iloadN 66 rfl C X0 d3_65 rfl ?_
        refine g_iconst 67 rfl C X0 (3 : Int32) d3_66 rfl ?_
        refine g_icmp_le_f 70 rfl C X0 d3_67 (by decide) ?_
        refine g_aloadN 71 rfl C X0 d3_70 rfl rfl ?_
        refine g_iconst 72 rfl C X0 (3 : Int32) d3_71 rfl ?_
        refine g_caload 73 rfl C X0 e0 B_b0 3 (by decide) (by decide) P3 hP3 d3_72 ?_
        refine g_aloadN 74 rfl C X0 d3_73 rfl rfl ?_
        refine g_iload 76 rfl C X0 d3_74 rfl ?_
        refine g_iconst 77 rfl C X0 (3 : Int32) d3_76 rfl ?_
        refine g_iadd 78 rfl C X0 d3_77 ?_
        refine g_caload 79 rfl C X0 e0 B_b1 3 (by decide) (by decide) S3 hS3 d3_78 ?_
        by_cases hb30 : P3.toInt = S3.toInt
        · skip
          refine g_icmp_eq_t 85 C X0 d3_79 (by decide) (by decide) hb30 ?_
          refine g_iload 87 rfl C X0 d3_85 rfl ?_
          have fc31 : (4 : Int32).toInt = 4 := rfl
          have fr32 := rng32 P0
          have fr33 := rng32 S0
          have fc34 : (1 : Int32).toInt = 1 := rfl
          have fr35 := rng32 P1
          have fr36 := rng32 S1
          have fc37 : (2 : Int32).toInt = 2 := rfl
          have fr38 := rng32 P2
          have fr39 := rng32 S2
          have fc40 : (3 : Int32).toInt = 3 := rfl
          have fr41 := rng32 P3
          have fr42 := rng32 S3
          have fc43 : (0 : Int32).toInt = 0 := rfl
          exact g_retN C X0 (z' := (0 : Int32)) rfl (Or.inl rfl) d3_87 e0 (by decide) (by decide) rfl ⟨_, rfl, by omega, N0, rfl⟩
        · skip
          refine g_icmp_eq_f 82 rfl C X0 d3_79 hb30 ?_
          refine g_iconst 83 rfl C X0 (0 : Int32) d3_82 rfl ?_
          refine g_istore 85 rfl C X0 (0 : Int32) rfl #[.val (.ref b0), .val (.ref b1), .val (.int (4 : Int32)), .val (.int (4 : Int32)), .val (.int (0 : Int32)), .val (.int (0 : Int32))] d3_83 rfl ?_
          refine g_iload 87 rfl C X0 d3_85 rfl ?_
          have fc44 : (4 : Int32).toInt = 4 := rfl
          have fr45 := rng32 P0
          have fr46 := rng32 S0
          have fc47 : (1 : Int32).toInt = 1 := rfl
          have fr48 := rng32 P1
          have fr49 := rng32 S1
          have fc50 : (2 : Int32).toInt = 2 := rfl
          have fr51 := rng32 P2
          have fr52 := rng32 S2
          have fc53 : (3 : Int32).toInt = 3 := rfl
          have fr54 := rng32 P3
          have fr55 := rng32 S3
          have fc56 : (0 : Int32).toInt = 0 := rfl
          exact g_retN C X0 (z' := (0 : Int32)) rfl (Or.inl rfl) d3_87 e0 (by decide) (by decide) rfl ⟨_, rfl, by omega, N0, rfl⟩
    · skip
      refine g_icmp_eq_f 42 rfl C X0 d3_39 hb2 ?_
      refine g_iconst 43 rfl C X0 (0 : Int32) d3_42 rfl ?_
      refine g_istore 45 rfl C X0 (0 : Int32) rfl #[.val (.ref b0), .val (.ref b1), .val (.int (4 : Int32)), .val (.int (4 : Int32)), .val (.int (0 : Int32)), .val (.int (0 : Int32))] d3_43 rfl ?_
      refine g_iloadN 46 rfl C X0 d3_45 rfl ?_
      refine g_iconst 47 rfl C X0 (2 : Int32) d3_46 rfl ?_
      refine g_icmp_le_f 50 rfl C X0 d3_47 (by decide) ?_
      refine g_aloadN 51 rfl C X0 d3_50 rfl rfl ?_
      refine g_iconst 52 rfl C X0 (2 : Int32) d3_51 rfl ?_
      refine g_caload 53 rfl C X0 e0 B_b0 2 (by decide) (by decide) P2 hP2 d3_52 ?_
      refine g_aloadN 54 rfl C X0 d3_53 rfl rfl ?_
      refine g_iload 56 rfl C X0 d3_54 rfl ?_
      refine g_iconst 57 rfl C X0 (2 : Int32) d3_56 rfl ?_
      refine g_iadd 58 rfl C X0 d3_57 ?_
      refine g_caload 59 rfl C X0 e0 B_b1 2 (by decide) (by decide) S2 hS2 d3_58 ?_
      by_cases hb57 : P2.toInt = S2.toInt
      · skip
        refine g_icmp_eq_t 65 C X0 d3_59 (by decide) (by decide) hb57 ?_
        refine g_iloadN 66 rfl C X0 d3_65 rfl ?_
        refine g_iconst 67 rfl C X0 (3 : Int32) d3_66 rfl ?_
        refine g_icmp_le_f 70 rfl C X0 d3_67 (by decide) ?_
        refine g_aloadN 71 rfl C X0 d3_70 rfl rfl ?_
        refine g_iconst 72 rfl C X0 (3 : Int32) d3_71 rfl ?_
        refine g_caload 73 rfl C X0 e0 B_b0 3 (by decide) (by decide) P3 hP3 d3_72 ?_
        refine g_aloadN 74 rfl C X0 d3_73 rfl rfl ?_
        refine g_iload 76 rfl C X0 d3_74 rfl ?_
        refine g_iconst 77 rfl C X0 (3 : Int32) d3_76 rfl ?_
        refine g_iadd 78 rfl C X0 d3_77 ?_
        refine g_caload 79 rfl C X0 e0 B_b1 3 (by decide) (by decide) S3 hS3 d3_78 ?_
        by_cases hb58 : P3.toInt = S3.toInt
        · skip
          refine g_icmp_eq_t 85 C X0 d3_79 (by decide) (by decide) hb58 ?_
          refine g_iload 87 rfl C X0 d3_85 rfl ?_
          have fc59 : (4 : Int32).toInt = 4 := rfl
          have fr60 := rng32 P0
          have fr61 := rng32 S0
          have fc62 : (1 : Int32).toInt = 1 := rfl
          have fr63 := rng32 P1
          have fr64 := rng32 S1
          have fc65 : (2 : Int32).toInt = 2 := rfl
          have fr66 := rng32 P2
          have fr67 := rng32 S2
          have fc68 : (3 : Int32).toInt = 3 := rfl
          have fr69 := rng32 P3
          have fr70 := rng32 S3
          have fc71 : (0 : Int32).toInt = 0 := rfl
          exact g_retN C X0 (z' := (0 : Int32)) rfl (Or.inl rfl) d3_87 e0 (by decide) (by decide) rfl ⟨_, rfl, by omega, N0, rfl⟩
        · skip
          refine g_icmp_eq_f 82 rfl C X0 d3_79 hb58 ?_
          refine g_iconst 83 rfl C X0 (0 : Int32) d3_82 rfl ?_
          refine g_istore 85 rfl C X0 (0 : Int32) rfl #[.val (.ref b0), .val (.ref b1), .val (.int (4 : Int32)), .val (.int (4 : Int32)), .val (.int (0 : Int32)), .val (.int (0 : Int32))] d3_83 rfl ?_
          refine g_iload 87 rfl C X0 d3_85 rfl ?_
          have fc72 : (4 : Int32).toInt = 4 := rfl
          have fr73 := rng32 P0
          have fr74 := rng32 S0
          have fc75 : (1 : Int32).toInt = 1 := rfl
          have fr76 := rng32 P1
          have fr77 := rng32 S1
          have fc78 : (2 : Int32).toInt = 2 := rfl
          have fr79 := rng32 P2
          have fr80 := rng32 S2
          have fc81 : (3 : Int32).toInt = 3 := rfl
          have fr82 := rng32 P3
          have fr83 := rng32 S3
          have fc84 : (0 : Int32).toInt = 0 := rfl
          exact g_retN C X0 (z' := (0 : Int32)) rfl (Or.inl rfl) d3_87 e0 (by decide) (by decide) rfl ⟨_, rfl, by omega, N0, rfl⟩
      · skip
        refine g_icmp_eq_f 62 rfl C X0 d3_59 hb57 ?_
        refine g_iconst 63 rfl C X0 (0 : Int32) d3_62 rfl ?_
        refine g_istore 65 rfl C X0 (0 : Int32) rfl #[.val (.ref b0), .val (.ref b1), .val (.int (4 : Int32)), .val (.int (4 : Int32)), .val (.int (0 : Int32)), .val (.int (0 : Int32))] d3_63 rfl ?_
        refine g_iloadN 66 rfl C X0 d3_65 rfl ?_
        refine g_iconst 67 rfl C X0 (3 : Int32) d3_66 rfl ?_
        refine g_icmp_le_f 70 rfl C X0 d3_67 (by decide) ?_
        refine g_aloadN 71 rfl C X0 d3_70 rfl rfl ?_
        refine g_iconst 72 rfl C X0 (3 : Int32) d3_71 rfl ?_
        refine g_caload 73 rfl C X0 e0 B_b0 3 (by decide) (by decide) P3 hP3 d3_72 ?_
        refine g_aloadN 74 rfl C X0 d3_73 rfl rfl ?_
        refine g_iload 76 rfl C X0 d3_74 rfl ?_
        refine g_iconst 77 rfl C X0 (3 : Int32) d3_76 rfl ?_
        refine g_iadd 78 rfl C X0 d3_77 ?_
        refine g_caload 79 rfl C X0 e0 B_b1 3 (by decide) (by decide) S3 hS3 d3_78 ?_
        by_cases hb85 : P3.toInt = S3.toInt
        · skip
          refine g_icmp_eq_t 85 C X0 d3_79 (by decide) (by decide) hb85 ?_
          refine g_iload 87 rfl C X0 d3_85 rfl ?_
          have fc86 : (4 : Int32).toInt = 4 := rfl
          have fr87 := rng32 P0
          have fr88 := rng32 S0
          have fc89 : (1 : Int32).toInt = 1 := rfl
          have fr90 := rng32 P1
          have fr91 := rng32 S1
          have fc92 : (2 : Int32).toInt = 2 := rfl
          have fr93 := rng32 P2
          have fr94 := rng32 S2
          have fc95 : (3 : Int32).toInt = 3 := rfl
          have fr96 := rng32 P3
          have fr97 := rng32 S3
          have fc98 : (0 : Int32).toInt = 0 := rfl
          exact g_retN C X0 (z' := (0 : Int32)) rfl (Or.inl rfl) d3_87 e0 (by decide) (by decide) rfl ⟨_, rfl, by omega, N0, rfl⟩
        · skip
          refine g_icmp_eq_f 82 rfl C X0 d3_79 hb85 ?_
          refine g_iconst 83 rfl C X0 (0 : Int32) d3_82 rfl ?_
          refine g_istore 85 rfl C X0 (0 : Int32) rfl #[.val (.ref b0), .val (.ref b1), .val (.int (4 : Int32)), .val (.int (4 : Int32)), .val (.int (0 : Int32)), .val (.int (0 : Int32))] d3_83 rfl ?_
          refine g_iload 87 rfl C X0 d3_85 rfl ?_
          have fc99 : (4 : Int32).toInt = 4 := rfl
          have fr100 := rng32 P0
          have fr101 := rng32 S0
          have fc102 : (1 : Int32).toInt = 1 := rfl
          have fr103 := rng32 P1
          have fr104 := rng32 S1
          have fc105 : (2 : Int32).toInt = 2 := rfl
          have fr106 := rng32 P2
          have fr107 := rng32 S2
          have fc108 : (3 : Int32).toInt = 3 := rfl
          have fr109 := rng32 P3
          have fr110 := rng32 S3
          have fc111 : (0 : Int32).toInt = 0 := rfl
          exact g_retN C X0 (z' := (0 : Int32)) rfl (Or.inl rfl) d3_87 e0 (by decide) (by decide) rfl ⟨_, rfl, by omega, N0, rfl⟩
  · skip
    refine g_icmp_eq_f 22 rfl C X0 d3_19 hb1 ?_
    refine g_iconst 23 rfl C X0 (0 : Int32) d3_22 rfl ?_
    refine g_istore 25 rfl C X0 (0 : Int32) rfl #[.val (.ref b0), .val (.ref b1), .val (.int (4 : Int32)), .val (.int (4 : Int32)), .val (.int (0 : Int32)), .val (.int (0 : Int32))] d3_23 rfl ?_
    refine g_iloadN 26 rfl C X0 d3_25 rfl ?_
    refine g_iconst 27 rfl C X0 (1 : Int32) d3_26 rfl ?_
    refine g_icmp_le_f 30 rfl C X0 d3_27 (by decide) ?_
    refine g_aloadN 31 rfl C X0 d3_30 rfl rfl ?_
    refine g_iconst 32 rfl C X0 (1 : Int32) d3_31 rfl ?_
    refine g_caload 33 rfl C X0 e0 B_b0 1 (by decide) (by decide) P1 hP1 d3_32 ?_
    refine g_aloadN 34 rfl C X0 d3_33 rfl rfl ?_
    refine g_iload 36 rfl C X0 d3_34 rfl ?_
    refine g_iconst 37 rfl C X0 (1 : Int32) d3_36 rfl ?_
    refine g_iadd 38 rfl C X0 d3_37 ?_
    refine g_caload 39 rfl C X0 e0 B_b1 1 (by decide) (by decide) S1 hS1 d3_38 ?_
    by_cases hb112 : P1.toInt = S1.toInt
    · skip
      refine g_icmp_eq_t 45 C X0 d3_39 (by decide) (by decide) hb112 ?_
      refine g_iloadN 46 rfl C X0 d3_45 rfl ?_
      refine g_iconst 47 rfl C X0 (2 : Int32) d3_46 rfl ?_
      refine g_icmp_le_f 50 rfl C X0 d3_47 (by decide) ?_
      refine g_aloadN 51 rfl C X0 d3_50 rfl rfl ?_
      refine g_iconst 52 rfl C X0 (2 : Int32) d3_51 rfl ?_
      refine g_caload 53 rfl C X0 e0 B_b0 2 (by decide) (by decide) P2 hP2 d3_52 ?_
      refine g_aloadN 54 rfl C X0 d3_53 rfl rfl ?_
      refine g_iload 56 rfl C X0 d3_54 rfl ?_
      refine g_iconst 57 rfl C X0 (2 : Int32) d3_56 rfl ?_
      refine g_iadd 58 rfl C X0 d3_57 ?_
      refine g_caload 59 rfl C X0 e0 B_b1 2 (by decide) (by decide) S2 hS2 d3_58 ?_
      by_cases hb113 : P2.toInt = S2.toInt
      · skip
        refine g_icmp_eq_t 65 C X0 d3_59 (by decide) (by decide) hb113 ?_
        refine g_iloadN 66 rfl C X0 d3_65 rfl ?_
        refine g_iconst 67 rfl C X0 (3 : Int32) d3_66 rfl ?_
        refine g_icmp_le_f 70 rfl C X0 d3_67 (by decide) ?_
        refine g_aloadN 71 rfl C X0 d3_70 rfl rfl ?_
        refine g_iconst 72 rfl C X0 (3 : Int32) d3_71 rfl ?_
        refine g_caload 73 rfl C X0 e0 B_b0 3 (by decide) (by decide) P3 hP3 d3_72 ?_
        refine g_aloadN 74 rfl C X0 d3_73 rfl rfl ?_
        refine g_iload 76 rfl C X0 d3_74 rfl ?_
        refine g_iconst 77 rfl C X0 (3 : Int32) d3_76 rfl ?_
        refine g_iadd 78 rfl C X0 d3_77 ?_
        refine g_caload 79 rfl C X0 e0 B_b1 3 (by decide) (by decide) S3 hS3 d3_78 ?_
        by_cases hb114 : P3.toInt = S3.toInt
        · skip
          refine g_icmp_eq_t 85 C X0 d3_79 (by decide) (by decide) hb114 ?_
          refine g_iload 87 rfl C X0 d3_85 rfl ?_
          have fc115 : (4 : Int32).toInt = 4 := rfl
          have fr116 := rng32 P0
          have fr117 := rng32 S0
          have fc118 : (1 : Int32).toInt = 1 := rfl
          have fr119 := rng32 P1
          have fr120 := rng32 S1
          have fc121 : (2 : Int32).toInt = 2 := rfl
          have fr122 := rng32 P2
          have fr123 := rng32 S2
          have fc124 : (3 : Int32).toInt = 3 := rfl
          have fr125 := rng32 P3
          have fr126 := rng32 S3
          have fc127 : (0 : Int32).toInt = 0 := rfl
          exact g_retN C X0 (z' := (0 : Int32)) rfl (Or.inl rfl) d3_87 e0 (by decide) (by decide) rfl ⟨_, rfl, by omega, N0, rfl⟩
        · skip
          refine g_icmp_eq_f 82 rfl C X0 d3_79 hb114 ?_
          refine g_iconst 83 rfl C X0 (0 : Int32) d3_82 rfl ?_
          refine g_istore 85 rfl C X0 (0 : Int32) rfl #[.val (.ref b0), .val (.ref b1), .val (.int (4 : Int32)), .val (.int (4 : Int32)), .val (.int (0 : Int32)), .val (.int (0 : Int32))] d3_83 rfl ?_
          refine g_iload 87 rfl C X0 d3_85 rfl ?_
          have fc128 : (4 : Int32).toInt = 4 := rfl
          have fr129 := rng32 P0
          have fr130 := rng32 S0
          have fc131 : (1 : Int32).toInt = 1 := rfl
          have fr132 := rng32 P1
          have fr133 := rng32 S1
          have fc134 : (2 : Int32).toInt = 2 := rfl
          have fr135 := rng32 P2
          have fr136 := rng32 S2
          have fc137 : (3 : Int32).toInt = 3 := rfl
          have fr138 := rng32 P3
          have fr139 := rng32 S3
          have fc140 : (0 : Int32).toInt = 0 := rfl
          exact g_retN C X0 (z' := (0 : Int32)) rfl (Or.inl rfl) d3_87 e0 (by decide) (by decide) rfl ⟨_, rfl, by omega, N0, rfl⟩
      · skip
        refine g_icmp_eq_f 62 rfl C X0 d3_59 hb113 ?_
        refine g_iconst 63 rfl C X0 (0 : Int32) d3_62 rfl ?_
        refine g_istore 65 rfl C X0 (0 : Int32) rfl #[.val (.ref b0), .val (.ref b1), .val (.int (4 : Int32)), .val (.int (4 : Int32)), .val (.int (0 : Int32)), .val (.int (0 : Int32))] d3_63 rfl ?_
        refine g_iloadN 66 rfl C X0 d3_65 rfl ?_
        refine g_iconst 67 rfl C X0 (3 : Int32) d3_66 rfl ?_
        refine g_icmp_le_f 70 rfl C X0 d3_67 (by decide) ?_
        refine g_aloadN 71 rfl C X0 d3_70 rfl rfl ?_
        refine g_iconst 72 rfl C X0 (3 : Int32) d3_71 rfl ?_
        refine g_caload 73 rfl C X0 e0 B_b0 3 (by decide) (by decide) P3 hP3 d3_72 ?_
        refine g_aloadN 74 rfl C X0 d3_73 rfl rfl ?_
        refine g_iload 76 rfl C X0 d3_74 rfl ?_
        refine g_iconst 77 rfl C X0 (3 : Int32) d3_76 rfl ?_
        refine g_iadd 78 rfl C X0 d3_77 ?_
        refine g_caload 79 rfl C X0 e0 B_b1 3 (by decide) (by decide) S3 hS3 d3_78 ?_
        by_cases hb141 : P3.toInt = S3.toInt
        · skip
          refine g_icmp_eq_t 85 C X0 d3_79 (by decide) (by decide) hb141 ?_
          refine g_iload 87 rfl C X0 d3_85 rfl ?_
          have fc142 : (4 : Int32).toInt = 4 := rfl
          have fr143 := rng32 P0
          have fr144 := rng32 S0
          have fc145 : (1 : Int32).toInt = 1 := rfl
          have fr146 := rng32 P1
          have fr147 := rng32 S1
          have fc148 : (2 : Int32).toInt = 2 := rfl
          have fr149 := rng32 P2
          have fr150 := rng32 S2
          have fc151 : (3 : Int32).toInt = 3 := rfl
          have fr152 := rng32 P3
          have fr153 := rng32 S3
          have fc154 : (0 : Int32).toInt = 0 := rfl
          exact g_retN C X0 (z' := (0 : Int32)) rfl (Or.inl rfl) d3_87 e0 (by decide) (by decide) rfl ⟨_, rfl, by omega, N0, rfl⟩
        · skip
          refine g_icmp_eq_f 82 rfl C X0 d3_79 hb141 ?_
          refine g_iconst 83 rfl C X0 (0 : Int32) d3_82 rfl ?_
          refine g_istore 85 rfl C X0 (0 : Int32) rfl #[.val (.ref b0), .val (.ref b1), .val (.int (4 : Int32)), .val (.int (4 : Int32)), .val (.int (0 : Int32)), .val (.int (0 : Int32))] d3_83 rfl ?_
          refine g_iload 87 rfl C X0 d3_85 rfl ?_
          have fc155 : (4 : Int32).toInt = 4 := rfl
          have fr156 := rng32 P0
          have fr157 := rng32 S0
          have fc158 : (1 : Int32).toInt = 1 := rfl
          have fr159 := rng32 P1
          have fr160 := rng32 S1
          have fc161 : (2 : Int32).toInt = 2 := rfl
          have fr162 := rng32 P2
          have fr163 := rng32 S2
          have fc164 : (3 : Int32).toInt = 3 := rfl
          have fr165 := rng32 P3
          have fr166 := rng32 S3
          have fc167 : (0 : Int32).toInt = 0 := rfl
          exact g_retN C X0 (z' := (0 : Int32)) rfl (Or.inl rfl) d3_87 e0 (by decide) (by decide) rfl ⟨_, rfl, by omega, N0, rfl⟩
    · skip
      refine g_icmp_eq_f 42 rfl C X0 d3_39 hb112 ?_
      refine g_iconst 43 rfl C X0 (0 : Int32) d3_42 rfl ?_
      refine g_istore 45 rfl C X0 (0 : Int32) rfl #[.val (.ref b0), .val (.ref b1), .val (.int (4 : Int32)), .val (.int (4 : Int32)), .val (.int (0 : Int32)), .val (.int (0 : Int32))] d3_43 rfl ?_
      refine g_iloadN 46 rfl C X0 d3_45 rfl ?_
      refine g_iconst 47 rfl C X0 (2 : Int32) d3_46 rfl ?_
      refine g_icmp_le_f 50 rfl C X0 d3_47 (by decide) ?_
      refine g_aloadN 51 rfl C X0 d3_50 rfl rfl ?_
      refine g_iconst 52 rfl C X0 (2 : Int32) d3_51 rfl ?_
      refine g_caload 53 rfl C X0 e0 B_b0 2 (by decide) (by decide) P2 hP2 d3_52 ?_
      refine g_aloadN 54 rfl C X0 d3_53 rfl rfl ?_
      refine g_iload 56 rfl C X0 d3_54 rfl ?_
      refine g_iconst 57 rfl C X0 (2 : Int32) d3_56 rfl ?_
      refine g_iadd 58 rfl C X0 d3_57 ?_
      refine g_caload 59 rfl C X0 e0 B_b1 2 (by decide) (by decide) S2 hS2 d3_58 ?_
      by_cases hb168 : P2.toInt = S2.toInt
      · skip
        refine g_icmp_eq_t 65 C X0 d3_59 (by decide) (by decide) hb168 ?_
        refine g_iloadN 66 rfl C X0 d3_65 rfl ?_
        refine g_iconst 67 rfl C X0 (3 : Int32) d3_66 rfl ?_
        refine g_icmp_le_f 70 rfl C X0 d3_67 (by decide) ?_
        refine g_aloadN 71 rfl C X0 d3_70 rfl rfl ?_
        refine g_iconst 72 rfl C X0 (3 : Int32) d3_71 rfl ?_
        refine g_caload 73 rfl C X0 e0 B_b0 3 (by decide) (by decide) P3 hP3 d3_72 ?_
        refine g_aloadN 74 rfl C X0 d3_73 rfl rfl ?_
        refine g_iload 76 rfl C X0 d3_74 rfl ?_
        refine g_iconst 77 rfl C X0 (3 : Int32) d3_76 rfl ?_
        refine g_iadd 78 rfl C X0 d3_77 ?_
        refine g_caload 79 rfl C X0 e0 B_b1 3 (by decide) (by decide) S3 hS3 d3_78 ?_
        by_cases hb169 : P3.toInt = S3.toInt
        · skip
          refine g_icmp_eq_t 85 C X0 d3_79 (by decide) (by decide) hb169 ?_
          refine g_iload 87 rfl C X0 d3_85 rfl ?_
          have fc170 : (4 : Int32).toInt = 4 := rfl
          have fr171 := rng32 P0
          have fr172 := rng32 S0
          have fc173 : (1 : Int32).toInt = 1 := rfl
          have fr174 := rng32 P1
          have fr175 := rng32 S1
          have fc176 : (2 : Int32).toInt = 2 := rfl
          have fr177 := rng32 P2
          have fr178 := rng32 S2
          have fc179 : (3 : Int32).toInt = 3 := rfl
          have fr180 := rng32 P3
          have fr181 := rng32 S3
          have fc182 : (0 : Int32).toInt = 0 := rfl
          exact g_retN C X0 (z' := (0 : Int32)) rfl (Or.inl rfl) d3_87 e0 (by decide) (by decide) rfl ⟨_, rfl, by omega, N0, rfl⟩
        · skip
          refine g_icmp_eq_f 82 rfl C X0 d3_79 hb169 ?_
          refine g_iconst 83 rfl C X0 (0 : Int32) d3_82 rfl ?_
          refine g_istore 85 rfl C X0 (0 : Int32) rfl #[.val (.ref b0), .val (.ref b1), .val (.int (4 : Int32)), .val (.int (4 : Int32)), .val (.int (0 : Int32)), .val (.int (0 : Int32))] d3_83 rfl ?_
          refine g_iload 87 rfl C X0 d3_85 rfl ?_
          have fc183 : (4 : Int32).toInt = 4 := rfl
          have fr184 := rng32 P0
          have fr185 := rng32 S0
          have fc186 : (1 : Int32).toInt = 1 := rfl
          have fr187 := rng32 P1
          have fr188 := rng32 S1
          have fc189 : (2 : Int32).toInt = 2 := rfl
          have fr190 := rng32 P2
          have fr191 := rng32 S2
          have fc192 : (3 : Int32).toInt = 3 := rfl
          have fr193 := rng32 P3
          have fr194 := rng32 S3
          have fc195 : (0 : Int32).toInt = 0 := rfl
          exact g_retN C X0 (z' := (0 : Int32)) rfl (Or.inl rfl) d3_87 e0 (by decide) (by decide) rfl ⟨_, rfl, by omega, N0, rfl⟩
      · skip
        refine g_icmp_eq_f 62 rfl C X0 d3_59 hb168 ?_
        refine g_iconst 63 rfl C X0 (0 : Int32) d3_62 rfl ?_
        refine g_istore 65 rfl C X0 (0 : Int32) rfl #[.val (.ref b0), .val (.ref b1), .val (.int (4 : Int32)), .val (.int (4 : Int32)), .val (.int (0 : Int32)), .val (.int (0 : Int32))] d3_63 rfl ?_
        refine g_iloadN 66 rfl C X0 d3_65 rfl ?_
        refine g_iconst 67 rfl C X0 (3 : Int32) d3_66 rfl ?_
        refine g_icmp_le_f 70 rfl C X0 d3_67 (by decide) ?_
        refine g_aloadN 71 rfl C X0 d3_70 rfl rfl ?_
        refine g_iconst 72 rfl C X0 (3 : Int32) d3_71 rfl ?_
        refine g_caload 73 rfl C X0 e0 B_b0 3 (by decide) (by decide) P3 hP3 d3_72 ?_
        refine g_aloadN 74 rfl C X0 d3_73 rfl rfl ?_
        refine g_iload 76 rfl C X0 d3_74 rfl ?_
        refine g_iconst 77 rfl C X0 (3 : Int32) d3_76 rfl ?_
        refine g_iadd 78 rfl C X0 d3_77 ?_
        refine g_caload 79 rfl C X0 e0 B_b1 3 (by decide) (by decide) S3 hS3 d3_78 ?_
        by_cases hb196 : P3.toInt = S3.toInt
        · skip
          refine g_icmp_eq_t 85 C X0 d3_79 (by decide) (by decide) hb196 ?_
          refine g_iload 87 rfl C X0 d3_85 rfl ?_
          have fc197 : (4 : Int32).toInt = 4 := rfl
          have fr198 := rng32 P0
          have fr199 := rng32 S0
          have fc200 : (1 : Int32).toInt = 1 := rfl
          have fr201 := rng32 P1
          have fr202 := rng32 S1
          have fc203 : (2 : Int32).toInt = 2 := rfl
          have fr204 := rng32 P2
          have fr205 := rng32 S2
          have fc206 : (3 : Int32).toInt = 3 := rfl
          have fr207 := rng32 P3
          have fr208 := rng32 S3
          have fc209 : (0 : Int32).toInt = 0 := rfl
          exact g_retN C X0 (z' := (0 : Int32)) rfl (Or.inl rfl) d3_87 e0 (by decide) (by decide) rfl ⟨_, rfl, by omega, N0, rfl⟩
        · skip
          refine g_icmp_eq_f 82 rfl C X0 d3_79 hb196 ?_
          refine g_iconst 83 rfl C X0 (0 : Int32) d3_82 rfl ?_
          refine g_istore 85 rfl C X0 (0 : Int32) rfl #[.val (.ref b0), .val (.ref b1), .val (.int (4 : Int32)), .val (.int (4 : Int32)), .val (.int (0 : Int32)), .val (.int (0 : Int32))] d3_83 rfl ?_
          refine g_iload 87 rfl C X0 d3_85 rfl ?_
          have fc210 : (4 : Int32).toInt = 4 := rfl
          have fr211 := rng32 P0
          have fr212 := rng32 S0
          have fc213 : (1 : Int32).toInt = 1 := rfl
          have fr214 := rng32 P1
          have fr215 := rng32 S1
          have fc216 : (2 : Int32).toInt = 2 := rfl
          have fr217 := rng32 P2
          have fr218 := rng32 S2
          have fc219 : (3 : Int32).toInt = 3 := rfl
          have fr220 := rng32 P3
          have fr221 := rng32 S3
          have fc222 : (0 : Int32).toInt = 0 := rfl
          exact g_retN C X0 (z' := (0 : Int32)) rfl (Or.inl rfl) d3_87 e0 (by decide) (by decide) rfl ⟨_, rfl, by omega, N0, rfl⟩
theorem d2_5 : decode method_5_code 5 = .ok (.aload_n 0, 1) := by decide +kernel
theorem d2_6 : decode method_5_code 6 = .ok (.aload_n 1, 1) := by decide +kernel
theorem d2_7 : decode method_5_code 7 = .ok (.iload_n 2, 1) := by decide +kernel
theorem d2_8 : decode method_5_code 8 = .ok (.iconst 4, 1) := by decide +kernel
theorem d2_9 : decode method_5_code 9 = .ok (.invokestatic 23, 3) := by decide +kernel
theorem d2_12 : decode method_5_code 12 = .ok (.ifCond .eq 5, 3) := by decide +kernel
theorem d2_15 : decode method_5_code 15 = .ok (.iconst 4, 1) := by decide +kernel
theorem d2_16 : decode method_5_code 16 = .ok (.ireturn, 1) := by decide +kernel
theorem ef_2_4_4 (m : MethodId) (b0 : Addr) (b1 : Addr) : entryFrame m #[(.ref b0), (.ref b1), (.int (4 : Int32)), (.int (4 : Int32))] 4 = mkF m 0 #[.val (.ref b0), .val (.ref b1), .val (.int (4 : Int32)), .val (.int (4 : Int32))] [] := by first | (simp [entryFrame, mkF, argsToLocals, Value.category]; done) | rfl
def Q2_4_4 (Z : State) (b0 : Addr) (b1 : Addr) (f : Nat → Int32) (g : Nat → Int32) (P0 : Int32) (P1 : Int32) (P2 : Int32) (P3 : Int32) (S0 : Int32) (S1 : Int32) (S2 : Int32) (S3 : Int32) (h0 : Heap) (n0 : Nat) (v : Option Value) (h : Heap) (L : List Loc) : Prop := ∃ r : Int32, v = some (.int r) ∧ (((r.toInt = 4 ∧ (P0.toInt = S0.toInt ∧ P1.toInt = S1.toInt ∧ P2.toInt = S2.toInt ∧ P3.toInt = S3.toInt)) ∨ (¬ (P0.toInt = S0.toInt ∧ P1.toInt = S1.toInt ∧ P2.toInt = S2.toInt ∧ P3.toInt = S3.toInt) ∧ ((r.toInt = 3 ∧ (P0.toInt = S1.toInt ∧ P1.toInt = S2.toInt ∧ P2.toInt = S3.toInt)) ∨ (¬ (P0.toInt = S1.toInt ∧ P1.toInt = S2.toInt ∧ P2.toInt = S3.toInt) ∧ ((r.toInt = 2 ∧ (P0.toInt = S2.toInt ∧ P1.toInt = S3.toInt)) ∨ (¬ (P0.toInt = S2.toInt ∧ P1.toInt = S3.toInt) ∧ ((r.toInt = 1 ∧ (P0.toInt = S3.toInt)) ∨ (¬ (P0.toInt = S3.toInt) ∧ r.toInt = 0))))))))) ∧ Fr n0 L ∧ h = h0
set_option maxRecDepth 65536 in
set_option maxHeartbeats 40000000 in
theorem rm2_4_4 (l : Launch) (Z : State) (a0 : Array Value) (hw : ∀ d ∈ tables_1, d.before a0 Z = true) (ws : List Jvm.Cond) (b0 : Addr) (b1 : Addr) (f : Nat → Int32) (g : Nat → Int32) (P0 : Int32) (P1 : Int32) (P2 : Int32) (P3 : Int32) (S0 : Int32) (S1 : Int32) (S2 : Int32) (S3 : Int32) (h0 : Heap) (n0 : Nat) (Z0 : n0 ≤ h0.size) (B_b0 : Ba Z h0 b0 .char 4 f) (B_b1 : Ba Z h0 b1 .char 4 g) (hP0 : f 0 = P0) (hP1 : f 1 = P1) (hP2 : f 2 = P2) (hP3 : f 3 = P3) (hS0 : g 0 = S0) (hS1 : g 1 = S1) (hS2 : g 2 = S2) (hS3 : g 3 = S3) :
    MetFree l (⟨"com/example/otsing/otsing/algorithm/PartialMatchTableExtendPinLaw", "longest", "([C[CII)I"⟩ : MethodName) (head1 (Jvm.Cond.code (⟨"com/example/otsing/otsing/algorithm/PartialMatchTableExtendPinLaw", "longest", "([C[CII)I"⟩ : MethodName) method_5_code 4 (some .int) :: ws) ({ frames := 1, cells := 0, slots := 0, locals := 17 } : Room)) (fun a U => a = #[(.ref b0), (.ref b1), (.int (4 : Int32)), (.int (4 : Int32))] ∧ Z.Warmed39 U.vm ∧ U.heap = h0) (fun _ _ _ _ _ => True) (fun _ U o U' => ∃ v L, o = .returned v ∧ Q2_4_4 Z b0 b1 f g P0 P1 P2 P3 S0 S1 S2 S3 h0 n0 v U'.heap L ∧ FrameEnd U o U' L ({ frames := 1, cells := 0, slots := 0, locals := 17 } : Room).cells ({ frames := 1, cells := 0, slots := 0, locals := 17 } : Room).slots) := by
  refine MetFree.of_bodySF (plainFor_of_name pn_11909899) hisR ?_
  intro p e s m args below meth c s₁ Bd hml0 hP hK
  obtain ⟨rfl, hZ, hh⟩ := hP
  have C : Ctx p s m meth c Z "com/example/otsing/otsing/algorithm/PartialMatchTableExtendPinLaw" "longest" method_5_code 4 (some .int) := Ctx.of Bd hml0 hZ
  have X0 : Stand p l e ({ frames := 1, cells := 0, slots := 0, locals := 17 } : Room) s m #[(.ref b0), (.ref b1), (.int (4 : Int32)), (.int (4 : Int32))] below meth c s₁ [] 0 0 := Stand.of_body Bd
  have e0 : s₁.heap = h0 := by rw [← hh, Bd.state]; rfl
  have N0 := Fr.nil n0
  refine Goes.enter (ef_2_4_4 m b0 b1) ?_
  clear hK hml0 hh
  refine g_iloadN 1 rfl C X0 d2_0 rfl ?_
  refine g_iconst 2 rfl C X0 (4 : Int32) d2_1 rfl ?_
  refine g_icmp_lt_f 5 rfl C X0 d2_2 (by decide) ?_
  refine g_aloadN 6 rfl C X0 d2_5 rfl rfl ?_
  refine g_aloadN 7 rfl C X0 d2_6 rfl rfl ?_
  refine g_iloadN 8 rfl C X0 d2_7 rfl ?_
  refine g_iconst 9 rfl C X0 (4 : Int32) d2_8 rfl ?_
  refine g_callS 12 rfl C X0 (argsL := [(.ref b0), (.ref b1), (.int (4 : Int32)), (.int (4 : Int32))]) (hw _ (List.mem_of_getElem? (i := 9) rfl)) (hw _ (List.mem_of_getElem? (i := 10) rfl)) (hw _ (List.mem_of_getElem? (i := 11) rfl)) (hw _ (List.mem_of_getElem? (i := 3) rfl)) e0 (rm3_4_4 l Z a0 hw [] b0 b1 f g P0 P1 P2 P3 S0 S1 S2 S3 h0 n0 Z0 B_b0 B_b1 hP0 hP1 hP2 hP3 hS0 hS1 hS2 hS3) (lenOf pd_50052798 rfl) (by decide) (by decide) (by decide) (by decide) rfl (W := 0) (Nat.le_of_eq rfl) (by decide) d2_9 rfl fun r1 T2 Lc3 X4 hQ5 => ?_
  obtain ⟨r6, rfl, hs7, Nq8, eh9⟩ := hQ5
  have N10 := Fr.app N0 Nq8
  show Goes _ _ _ _ _ _ 12 _ [(.int r6)]
  by_cases hb11 : r6.toInt = 0
  · skip
    refine g_if_eq_t 17 C X4 d2_12 (by decide) (by decide) hb11 ?_
    refine g_iloadN 18 rfl C X4 d2_17 rfl ?_
    refine g_iconst 19 rfl C X4 (3 : Int32) d2_18 rfl ?_
    refine g_icmp_lt_f 22 rfl C X4 d2_19 (by decide) ?_
    refine g_aloadN 23 rfl C X4 d2_22 rfl rfl ?_
    refine g_aloadN 24 rfl C X4 d2_23 rfl rfl ?_
    refine g_iloadN 25 rfl C X4 d2_24 rfl ?_
    refine g_iconst 26 rfl C X4 (3 : Int32) d2_25 rfl ?_
    refine g_callS 29 rfl C X4 (argsL := [(.ref b0), (.ref b1), (.int (4 : Int32)), (.int (3 : Int32))]) (hw _ (List.mem_of_getElem? (i := 9) rfl)) (hw _ (List.mem_of_getElem? (i := 10) rfl)) (hw _ (List.mem_of_getElem? (i := 11) rfl)) (hw _ (List.mem_of_getElem? (i := 3) rfl)) eh9 (rm3_4_3 l Z a0 hw [] b0 b1 f g P0 P1 P2 P3 S0 S1 S2 S3 h0 n0 Z0 B_b0 B_b1 hP0 hP1 hP2 hP3 hS0 hS1 hS2 hS3) (lenOf pd_50052798 rfl) (by decide) (by decide) (by decide) (by decide) rfl (W := 0) (Nat.le_of_eq rfl) (by decide) d2_26 rfl fun r12 T13 Lc14 X15 hQ16 => ?_
    obtain ⟨r17, rfl, hs18, Nq19, eh20⟩ := hQ16
    have N21 := Fr.app N10 Nq19
    show Goes _ _ _ _ _ _ 29 _ [(.int r17)]
    by_cases hb22 : r17.toInt = 0
    · skip
      refine g_if_eq_t 34 C X15 d2_29 (by decide) (by decide) hb22 ?_
      refine g_iloadN 35 rfl C X15 d2_34 rfl ?_
      refine g_iconst 36 rfl C X15 (2 : Int32) d2_35 rfl ?_
      refine g_icmp_lt_f 39 rfl C X15 d2_36 (by decide) ?_
      refine g_aloadN 40 rfl C X15 d2_39 rfl rfl ?_
      refine g_aloadN 41 rfl C X15 d2_40 rfl rfl ?_
      refine g_iloadN 42 rfl C X15 d2_41 rfl ?_
      refine g_iconst 43 rfl C X15 (2 : Int32) d2_42 rfl ?_
      refine g_callS 46 rfl C X15 (argsL := [(.ref b0), (.ref b1), (.int (4 : Int32)), (.int (2 : Int32))]) (hw _ (List.mem_of_getElem? (i := 9) rfl)) (hw _ (List.mem_of_getElem? (i := 10) rfl)) (hw _ (List.mem_of_getElem? (i := 11) rfl)) (hw _ (List.mem_of_getElem? (i := 3) rfl)) eh20 (rm3_4_2 l Z a0 hw [] b0 b1 f g P0 P1 P2 P3 S0 S1 S2 S3 h0 n0 Z0 B_b0 B_b1 hP0 hP1 hP2 hP3 hS0 hS1 hS2 hS3) (lenOf pd_50052798 rfl) (by decide) (by decide) (by decide) (by decide) rfl (W := 0) (Nat.le_of_eq rfl) (by decide) d2_43 rfl fun r23 T24 Lc25 X26 hQ27 => ?_
      obtain ⟨r28, rfl, hs29, Nq30, eh31⟩ := hQ27
      have N32 := Fr.app N21 Nq30
      show Goes _ _ _ _ _ _ 46 _ [(.int r28)]
      by_cases hb33 : r28.toInt = 0
      · skip
        refine g_if_eq_t 51 C X26 d2_46 (by decide) (by decide) hb33 ?_
        refine g_iloadN 52 rfl C X26 d2_51 rfl ?_
        refine g_iconst 53 rfl C X26 (1 : Int32) d2_52 rfl ?_
        refine g_icmp_lt_f 56 rfl C X26 d2_53 (by decide) ?_
        refine g_aloadN 57 rfl C X26 d2_56 rfl rfl ?_
        refine g_aloadN 58 rfl C X26 d2_57 rfl rfl ?_
        refine g_iloadN 59 rfl C X26 d2_58 rfl ?_
        refine g_iconst 60 rfl C X26 (1 : Int32) d2_59 rfl ?_
        refine g_callS 63 rfl C X26 (argsL := [(.ref b0), (.ref b1), (.int (4 : Int32)), (.int (1 : Int32))]) (hw _ (List.mem_of_getElem? (i := 9) rfl)) (hw _ (List.mem_of_getElem? (i := 10) rfl)) (hw _ (List.mem_of_getElem? (i := 11) rfl)) (hw _ (List.mem_of_getElem? (i := 3) rfl)) eh31 (rm3_4_1 l Z a0 hw [] b0 b1 f g P0 P1 P2 P3 S0 S1 S2 S3 h0 n0 Z0 B_b0 B_b1 hP0 hP1 hP2 hP3 hS0 hS1 hS2 hS3) (lenOf pd_50052798 rfl) (by decide) (by decide) (by decide) (by decide) rfl (W := 0) (Nat.le_of_eq rfl) (by decide) d2_60 rfl fun r34 T35 Lc36 X37 hQ38 => ?_
        obtain ⟨r39, rfl, hs40, Nq41, eh42⟩ := hQ38
        have N43 := Fr.app N32 Nq41
        show Goes _ _ _ _ _ _ 63 _ [(.int r39)]
        by_cases hb44 : r39.toInt = 0
        · skip
          refine g_if_eq_t 68 C X37 d2_63 (by decide) (by decide) hb44 ?_
          refine g_iconst 69 rfl C X37 (0 : Int32) d2_68 rfl ?_
          have fc45 : (4 : Int32).toInt = 4 := rfl
          have fr46 := rng32 r6
          have fc47 : (3 : Int32).toInt = 3 := rfl
          have fr48 := rng32 r17
          have fc49 : (2 : Int32).toInt = 2 := rfl
          have fr50 := rng32 r28
          have fc51 : (1 : Int32).toInt = 1 := rfl
          have fr52 := rng32 r39
          have fc53 : (0 : Int32).toInt = 0 := rfl
          exact g_retI C X37 rfl d2_69 eh42 (by decide) (by decide) ⟨_, rfl, by omega, N43, rfl⟩
        · skip
          refine g_if_eq_f 66 rfl C X37 d2_63 hb44 ?_
          refine g_iconst 67 rfl C X37 (1 : Int32) d2_66 rfl ?_
          have fc54 : (4 : Int32).toInt = 4 := rfl
          have fr55 := rng32 r6
          have fc56 : (3 : Int32).toInt = 3 := rfl
          have fr57 := rng32 r17
          have fc58 : (2 : Int32).toInt = 2 := rfl
          have fr59 := rng32 r28
          have fc60 : (1 : Int32).toInt = 1 := rfl
          have fr61 := rng32 r39
          exact g_retI C X37 rfl d2_67 eh42 (by decide) (by decide) ⟨_, rfl, by omega, N43, rfl⟩
      · skip
        refine g_if_eq_f 49 rfl C X26 d2_46 hb33 ?_
        refine g_iconst 50 rfl C X26 (2 : Int32) d2_49 rfl ?_
        have fc62 : (4 : Int32).toInt = 4 := rfl
        have fr63 := rng32 r6
        have fc64 : (3 : Int32).toInt = 3 := rfl
        have fr65 := rng32 r17
        have fc66 : (2 : Int32).toInt = 2 := rfl
        have fr67 := rng32 r28
        exact g_retI C X26 rfl d2_50 eh31 (by decide) (by decide) ⟨_, rfl, by omega, N32, rfl⟩
    · skip
      refine g_if_eq_f 32 rfl C X15 d2_29 hb22 ?_
      refine g_iconst 33 rfl C X15 (3 : Int32) d2_32 rfl ?_
      have fc68 : (4 : Int32).toInt = 4 := rfl
      have fr69 := rng32 r6
      have fc70 : (3 : Int32).toInt = 3 := rfl
      have fr71 := rng32 r17
      exact g_retI C X15 rfl d2_33 eh20 (by decide) (by decide) ⟨_, rfl, by omega, N21, rfl⟩
  · skip
    refine g_if_eq_f 15 rfl C X4 d2_12 hb11 ?_
    refine g_iconst 16 rfl C X4 (4 : Int32) d2_15 rfl ?_
    have fc72 : (4 : Int32).toInt = 4 := rfl
    have fr73 := rng32 r6
    exact g_retI C X4 rfl d2_16 eh9 (by decide) (by decide) ⟨_, rfl, by omega, N10, rfl⟩
theorem d4_0 : decode prog_43_method_3_code 0 = .ok (.iload_n 2, 1) := by decide +kernel
theorem d4_1 : decode prog_43_method_3_code 1 = .ok (.istore 4, 2) := by decide +kernel
theorem d4_3 : decode prog_43_method_3_code 3 = .ok (.iload 4, 2) := by decide +kernel
theorem d4_5 : decode prog_43_method_3_code 5 = .ok (.ifCond .le 22, 3) := by decide +kernel
theorem d4_27 : decode prog_43_method_3_code 27 = .ok (.aload_n 0, 1) := by decide +kernel
theorem d4_28 : decode prog_43_method_3_code 28 = .ok (.iload 4, 2) := by decide +kernel
theorem d4_30 : decode prog_43_method_3_code 30 = .ok (.caload, 1) := by decide +kernel
theorem d4_31 : decode prog_43_method_3_code 31 = .ok (.iload_n 3, 1) := by decide +kernel
theorem d4_32 : decode prog_43_method_3_code 32 = .ok (.if_icmp .ne 6, 3) := by decide +kernel
theorem d4_35 : decode prog_43_method_3_code 35 = .ok (.iinc 4 1, 3) := by decide +kernel
theorem d4_38 : decode prog_43_method_3_code 38 = .ok (.iload 4, 2) := by decide +kernel
theorem d4_40 : decode prog_43_method_3_code 40 = .ok (.ireturn, 1) := by decide +kernel
theorem pn_43851908 : plainName "com/example/otsing/otsing/algorithm/PartialMatchTable" = true := by first | (simp [plainName, overriddenIn]; done) | decide +kernel
theorem ef_4_0 (m : MethodId) (b0 : Addr) (b1 : Addr) (p3 : Int32) : entryFrame m #[(.ref b0), (.ref b1), (.int (0 : Int32)), (.int p3)] 5 = mkF m 0 #[.val (.ref b0), .val (.ref b1), .val (.int (0 : Int32)), .val (.int p3), .unset] [] := by first | (simp [entryFrame, mkF, argsToLocals, Value.category]; done) | rfl
def Q4_0 (Z : State) (b0 : Addr) (b1 : Addr) (p3 : Int32) (f : Nat → Int32) (g : Nat → Int32) (P0 : Int32) (P1 : Int32) (P2 : Int32) (P3 : Int32) (T0 : Int32) (T1 : Int32) (T2 : Int32) (h0 : Heap) (n0 : Nat) (v : Option Value) (h : Heap) (L : List Loc) : Prop := ∃ r : Int32, v = some (.int r) ∧ (((P0.toInt = p3.toInt ∧ r.toInt = 1) ∨ (¬ P0.toInt = p3.toInt ∧ r.toInt = 0))) ∧ Fr n0 L ∧ h = h0
set_option maxRecDepth 65536 in
set_option maxHeartbeats 40000000 in
theorem rm4_0 (l : Launch) (Z : State) (a0 : Array Value) (hw : ∀ d ∈ tables_1, d.before a0 Z = true) (ws : List Jvm.Cond) (b0 : Addr) (b1 : Addr) (p3 : Int32) (f : Nat → Int32) (g : Nat → Int32) (P0 : Int32) (P1 : Int32) (P2 : Int32) (P3 : Int32) (T0 : Int32) (T1 : Int32) (T2 : Int32) (h0 : Heap) (n0 : Nat) (Z0 : n0 ≤ h0.size) (B_b0 : Ba Z h0 b0 .char 4 f) (B_b1 : Ba Z h0 b1 .int 4 g) (hP0 : f 0 = P0) (hP1 : f 1 = P1) (hP2 : f 2 = P2) (hP3 : f 3 = P3) (hT0 : g 0 = T0) (hT1 : g 1 = T1) (hT2 : g 2 = T2) (hB0 : 0 ≤ T0.toInt ∧ T0.toInt ≤ 0) (hB1 : 0 ≤ T1.toInt ∧ T1.toInt ≤ 1) (hB2 : 0 ≤ T2.toInt ∧ T2.toInt ≤ 2) :
    MetFree l (⟨"com/example/otsing/otsing/algorithm/PartialMatchTable", "extend", "([C[IIC)I"⟩ : MethodName) (head1 (Jvm.Cond.code (⟨"com/example/otsing/otsing/algorithm/PartialMatchTable", "extend", "([C[IIC)I"⟩ : MethodName) prog_43_method_3_code 5 (some .int) :: ws) ({ frames := 0, cells := 0, slots := 0, locals := 0 } : Room)) (fun a U => a = #[(.ref b0), (.ref b1), (.int (0 : Int32)), (.int p3)] ∧ Z.Warmed39 U.vm ∧ U.heap = h0) (fun _ _ _ _ _ => True) (fun _ U o U' => ∃ v L, o = .returned v ∧ Q4_0 Z b0 b1 p3 f g P0 P1 P2 P3 T0 T1 T2 h0 n0 v U'.heap L ∧ FrameEnd U o U' L ({ frames := 0, cells := 0, slots := 0, locals := 0 } : Room).cells ({ frames := 0, cells := 0, slots := 0, locals := 0 } : Room).slots) := by
  refine MetFree.of_bodySF (plainFor_of_name pn_43851908) hisR ?_
  intro p e s m args below meth c s₁ Bd hml0 hP hK
  obtain ⟨rfl, hZ, hh⟩ := hP
  have C : Ctx p s m meth c Z "com/example/otsing/otsing/algorithm/PartialMatchTable" "extend" prog_43_method_3_code 5 (some .int) := Ctx.of Bd hml0 hZ
  have X0 : Stand p l e ({ frames := 0, cells := 0, slots := 0, locals := 0 } : Room) s m #[(.ref b0), (.ref b1), (.int (0 : Int32)), (.int p3)] below meth c s₁ [] 0 0 := Stand.of_body Bd
  have e0 : s₁.heap = h0 := by rw [← hh, Bd.state]; rfl
  have N0 := Fr.nil n0
  refine Goes.enter (ef_4_0 m b0 b1 p3) ?_
  clear hK hml0 hh
  refine g_iloadN 1 rfl C X0 d4_0 rfl ?_
  refine g_istore 3 rfl C X0 (0 : Int32) rfl #[.val (.ref b0), .val (.ref b1), .val (.int (0 : Int32)), .val (.int p3), .val (.int (0 : Int32))] d4_1 rfl ?_
  refine g_iload 5 rfl C X0 d4_3 rfl ?_
  refine g_if_le_t 27 C X0 d4_5 (by decide) (by decide) (by decide) ?_
  refine g_aloadN 28 rfl C X0 d4_27 rfl rfl ?_
  refine g_iload 30 rfl C X0 d4_28 rfl ?_
  refine g_caload 31 rfl C X0 e0 B_b0 0 (by decide) (by decide) P0 hP0 d4_30 ?_
  refine g_iloadN 32 rfl C X0 d4_31 rfl ?_
  by_cases hb1 : P0.toInt = p3.toInt
  · skip
    refine g_icmp_ne_f 35 rfl C X0 d4_32 hb1 ?_
    refine g_iinc 38 rfl C X0 (1 : Int32) (1 : Int32) #[.val (.ref b0), .val (.ref b1), .val (.int (0 : Int32)), .val (.int p3), .val (.int (1 : Int32))] d4_35 rfl rfl (by decide) rfl ?_
    refine g_iload 40 rfl C X0 d4_38 rfl ?_
    have fc2 : (0 : Int32).toInt = 0 := rfl
    have fc3 : (1 : Int32).toInt = 1 := rfl
    have fc4 : (2 : Int32).toInt = 2 := rfl
    have fc5 : (3 : Int32).toInt = 3 := rfl
    have fc6 : (4 : Int32).toInt = 4 := rfl
    have fr7 := rng32 P0
    have fr8 := rng32 p3
    exact g_retI C X0 rfl d4_40 e0 (by decide) (by decide) ⟨_, rfl, by omega, N0, rfl⟩
  · skip
    refine g_icmp_ne_t 38 C X0 d4_32 (by decide) (by decide) hb1 ?_
    refine g_iload 40 rfl C X0 d4_38 rfl ?_
    have fc9 : (0 : Int32).toInt = 0 := rfl
    have fc10 : (1 : Int32).toInt = 1 := rfl
    have fc11 : (2 : Int32).toInt = 2 := rfl
    have fc12 : (3 : Int32).toInt = 3 := rfl
    have fc13 : (4 : Int32).toInt = 4 := rfl
    have fr14 := rng32 P0
    have fr15 := rng32 p3
    exact g_retI C X0 rfl d4_40 e0 (by decide) (by decide) ⟨_, rfl, by omega, N0, rfl⟩
theorem d4_8 : decode prog_43_method_3_code 8 = .ok (.aload_n 0, 1) := by decide +kernel
theorem d4_9 : decode prog_43_method_3_code 9 = .ok (.iload 4, 2) := by decide +kernel
theorem d4_11 : decode prog_43_method_3_code 11 = .ok (.caload, 1) := by decide +kernel
theorem d4_12 : decode prog_43_method_3_code 12 = .ok (.iload_n 3, 1) := by decide +kernel
theorem d4_13 : decode prog_43_method_3_code 13 = .ok (.if_icmp .eq 14, 3) := by decide +kernel
theorem d4_16 : decode prog_43_method_3_code 16 = .ok (.aload_n 1, 1) := by decide +kernel
theorem d4_17 : decode prog_43_method_3_code 17 = .ok (.iload 4, 2) := by decide +kernel
theorem d4_19 : decode prog_43_method_3_code 19 = .ok (.iconst 1, 1) := by decide +kernel
theorem d4_20 : decode prog_43_method_3_code 20 = .ok (.isub, 1) := by decide +kernel
theorem d4_21 : decode prog_43_method_3_code 21 = .ok (.iaload, 1) := by decide +kernel
theorem d4_22 : decode prog_43_method_3_code 22 = .ok (.istore 4, 2) := by decide +kernel
theorem d4_24 : decode prog_43_method_3_code 24 = .ok (.goto (-21), 3) := by decide +kernel
theorem ef_4_1 (m : MethodId) (b0 : Addr) (b1 : Addr) (p3 : Int32) : entryFrame m #[(.ref b0), (.ref b1), (.int (1 : Int32)), (.int p3)] 5 = mkF m 0 #[.val (.ref b0), .val (.ref b1), .val (.int (1 : Int32)), .val (.int p3), .unset] [] := by first | (simp [entryFrame, mkF, argsToLocals, Value.category]; done) | rfl
def Q4_1 (Z : State) (b0 : Addr) (b1 : Addr) (p3 : Int32) (f : Nat → Int32) (g : Nat → Int32) (P0 : Int32) (P1 : Int32) (P2 : Int32) (P3 : Int32) (T0 : Int32) (T1 : Int32) (T2 : Int32) (h0 : Heap) (n0 : Nat) (v : Option Value) (h : Heap) (L : List Loc) : Prop := ∃ r : Int32, v = some (.int r) ∧ (((P1.toInt = p3.toInt ∧ r.toInt = 2) ∨ (¬ P1.toInt = p3.toInt ∧ ((P0.toInt = p3.toInt ∧ r.toInt = 1) ∨ (¬ P0.toInt = p3.toInt ∧ r.toInt = 0))))) ∧ Fr n0 L ∧ h = h0
set_option maxRecDepth 65536 in
set_option maxHeartbeats 40000000 in
theorem rm4_1 (l : Launch) (Z : State) (a0 : Array Value) (hw : ∀ d ∈ tables_1, d.before a0 Z = true) (ws : List Jvm.Cond) (b0 : Addr) (b1 : Addr) (p3 : Int32) (f : Nat → Int32) (g : Nat → Int32) (P0 : Int32) (P1 : Int32) (P2 : Int32) (P3 : Int32) (T0 : Int32) (T1 : Int32) (T2 : Int32) (h0 : Heap) (n0 : Nat) (Z0 : n0 ≤ h0.size) (B_b0 : Ba Z h0 b0 .char 4 f) (B_b1 : Ba Z h0 b1 .int 4 g) (hP0 : f 0 = P0) (hP1 : f 1 = P1) (hP2 : f 2 = P2) (hP3 : f 3 = P3) (hT0 : g 0 = T0) (hT1 : g 1 = T1) (hT2 : g 2 = T2) (hB0 : 0 ≤ T0.toInt ∧ T0.toInt ≤ 0) (hB1 : 0 ≤ T1.toInt ∧ T1.toInt ≤ 1) (hB2 : 0 ≤ T2.toInt ∧ T2.toInt ≤ 2) :
    MetFree l (⟨"com/example/otsing/otsing/algorithm/PartialMatchTable", "extend", "([C[IIC)I"⟩ : MethodName) (head1 (Jvm.Cond.code (⟨"com/example/otsing/otsing/algorithm/PartialMatchTable", "extend", "([C[IIC)I"⟩ : MethodName) prog_43_method_3_code 5 (some .int) :: ws) ({ frames := 0, cells := 0, slots := 0, locals := 0 } : Room)) (fun a U => a = #[(.ref b0), (.ref b1), (.int (1 : Int32)), (.int p3)] ∧ Z.Warmed39 U.vm ∧ U.heap = h0) (fun _ _ _ _ _ => True) (fun _ U o U' => ∃ v L, o = .returned v ∧ Q4_1 Z b0 b1 p3 f g P0 P1 P2 P3 T0 T1 T2 h0 n0 v U'.heap L ∧ FrameEnd U o U' L ({ frames := 0, cells := 0, slots := 0, locals := 0 } : Room).cells ({ frames := 0, cells := 0, slots := 0, locals := 0 } : Room).slots) := by
  refine MetFree.of_bodySF (plainFor_of_name pn_43851908) hisR ?_
  intro p e s m args below meth c s₁ Bd hml0 hP hK
  obtain ⟨rfl, hZ, hh⟩ := hP
  have C : Ctx p s m meth c Z "com/example/otsing/otsing/algorithm/PartialMatchTable" "extend" prog_43_method_3_code 5 (some .int) := Ctx.of Bd hml0 hZ
  have X0 : Stand p l e ({ frames := 0, cells := 0, slots := 0, locals := 0 } : Room) s m #[(.ref b0), (.ref b1), (.int (1 : Int32)), (.int p3)] below meth c s₁ [] 0 0 := Stand.of_body Bd
  have e0 : s₁.heap = h0 := by rw [← hh, Bd.state]; rfl
  have N0 := Fr.nil n0
  refine Goes.enter (ef_4_1 m b0 b1 p3) ?_
  clear hK hml0 hh
  refine g_iloadN 1 rfl C X0 d4_0 rfl ?_
  refine g_istore 3 rfl C X0 (1 : Int32) rfl #[.val (.ref b0), .val (.ref b1), .val (.int (1 : Int32)), .val (.int p3), .val (.int (1 : Int32))] d4_1 rfl ?_
  refine g_iload 5 rfl C X0 d4_3 rfl ?_
  refine g_if_le_f 8 rfl C X0 d4_5 (by decide) ?_
  refine g_aloadN 9 rfl C X0 d4_8 rfl rfl ?_
  refine g_iload 11 rfl C X0 d4_9 rfl ?_
  refine g_caload 12 rfl C X0 e0 B_b0 1 (by decide) (by decide) P1 hP1 d4_11 ?_
  refine g_iloadN 13 rfl C X0 d4_12 rfl ?_
  by_cases hb1 : P1.toInt = p3.toInt
  · skip
    refine g_icmp_eq_t 27 C X0 d4_13 (by decide) (by decide) hb1 ?_
    refine g_aloadN 28 rfl C X0 d4_27 rfl rfl ?_
    refine g_iload 30 rfl C X0 d4_28 rfl ?_
    refine g_caload 31 rfl C X0 e0 B_b0 1 (by decide) (by decide) P1 hP1 d4_30 ?_
    refine g_iloadN 32 rfl C X0 d4_31 rfl ?_
    refine g_icmp_ne_f 35 rfl C X0 d4_32 hb1 ?_
    refine g_iinc 38 rfl C X0 (1 : Int32) (2 : Int32) #[.val (.ref b0), .val (.ref b1), .val (.int (1 : Int32)), .val (.int p3), .val (.int (2 : Int32))] d4_35 rfl rfl (by decide) rfl ?_
    refine g_iload 40 rfl C X0 d4_38 rfl ?_
    have fc2 : (0 : Int32).toInt = 0 := rfl
    have fc3 : (1 : Int32).toInt = 1 := rfl
    have fc4 : (2 : Int32).toInt = 2 := rfl
    have fc5 : (3 : Int32).toInt = 3 := rfl
    have fc6 : (4 : Int32).toInt = 4 := rfl
    have fr7 := rng32 P1
    have fr8 := rng32 p3
    exact g_retI C X0 rfl d4_40 e0 (by decide) (by decide) ⟨_, rfl, by omega, N0, rfl⟩
  · skip
    refine g_icmp_eq_f 16 rfl C X0 d4_13 hb1 ?_
    refine g_aloadN 17 rfl C X0 d4_16 rfl rfl ?_
    refine g_iload 19 rfl C X0 d4_17 rfl ?_
    refine g_iconst 20 rfl C X0 (1 : Int32) d4_19 rfl ?_
    refine g_isub 21 rfl C X0 d4_20 ?_
    refine g_iaload 22 rfl C X0 e0 B_b1 0 (by decide) (by decide) T0 hT0 d4_21 ?_
    refine g_istore 24 rfl C X0 T0 rfl #[.val (.ref b0), .val (.ref b1), .val (.int (1 : Int32)), .val (.int p3), .val (.int T0)] d4_22 rfl ?_
    refine g_goto 3 C X0 d4_24 (by decide) (by decide) ?_
    have hq9 : T0.toInt = 0 := by
      have fr10 := rng32 T0
      omega
    have hc11 : T0 = (0 : Int32) := own_eq hq9
    clear hq9
    subst hc11
    · skip
      refine g_iload 5 rfl C X0 d4_3 rfl ?_
      refine g_if_le_t 27 C X0 d4_5 (by decide) (by decide) (by decide) ?_
      refine g_aloadN 28 rfl C X0 d4_27 rfl rfl ?_
      refine g_iload 30 rfl C X0 d4_28 rfl ?_
      refine g_caload 31 rfl C X0 e0 B_b0 0 (by decide) (by decide) P0 hP0 d4_30 ?_
      refine g_iloadN 32 rfl C X0 d4_31 rfl ?_
      by_cases hb12 : P0.toInt = p3.toInt
      · skip
        refine g_icmp_ne_f 35 rfl C X0 d4_32 hb12 ?_
        refine g_iinc 38 rfl C X0 (1 : Int32) (1 : Int32) #[.val (.ref b0), .val (.ref b1), .val (.int (1 : Int32)), .val (.int p3), .val (.int (1 : Int32))] d4_35 rfl rfl (by decide) rfl ?_
        refine g_iload 40 rfl C X0 d4_38 rfl ?_
        have fc13 : (0 : Int32).toInt = 0 := rfl
        have fc14 : (1 : Int32).toInt = 1 := rfl
        have fc15 : (2 : Int32).toInt = 2 := rfl
        have fc16 : (3 : Int32).toInt = 3 := rfl
        have fc17 : (4 : Int32).toInt = 4 := rfl
        have fr18 := rng32 P1
        have fr19 := rng32 p3
        have fr20 := rng32 P0
        exact g_retI C X0 rfl d4_40 e0 (by decide) (by decide) ⟨_, rfl, by omega, N0, rfl⟩
      · skip
        refine g_icmp_ne_t 38 C X0 d4_32 (by decide) (by decide) hb12 ?_
        refine g_iload 40 rfl C X0 d4_38 rfl ?_
        have fc21 : (0 : Int32).toInt = 0 := rfl
        have fc22 : (1 : Int32).toInt = 1 := rfl
        have fc23 : (2 : Int32).toInt = 2 := rfl
        have fc24 : (3 : Int32).toInt = 3 := rfl
        have fc25 : (4 : Int32).toInt = 4 := rfl
        have fr26 := rng32 P1
        have fr27 := rng32 p3
        have fr28 := rng32 P0
        exact g_retI C X0 rfl d4_40 e0 (by decide) (by decide) ⟨_, rfl, by omega, N0, rfl⟩
theorem ef_4_2 (m : MethodId) (b0 : Addr) (b1 : Addr) (p3 : Int32) : entryFrame m #[(.ref b0), (.ref b1), (.int (2 : Int32)), (.int p3)] 5 = mkF m 0 #[.val (.ref b0), .val (.ref b1), .val (.int (2 : Int32)), .val (.int p3), .unset] [] := by first | (simp [entryFrame, mkF, argsToLocals, Value.category]; done) | rfl
def Q4_2 (Z : State) (b0 : Addr) (b1 : Addr) (p3 : Int32) (f : Nat → Int32) (g : Nat → Int32) (P0 : Int32) (P1 : Int32) (P2 : Int32) (P3 : Int32) (T0 : Int32) (T1 : Int32) (T2 : Int32) (h0 : Heap) (n0 : Nat) (v : Option Value) (h : Heap) (L : List Loc) : Prop := ∃ r : Int32, v = some (.int r) ∧ (((P2.toInt = p3.toInt ∧ r.toInt = 3) ∨ (¬ P2.toInt = p3.toInt ∧ ((T1.toInt = 0 ∧ ((P0.toInt = p3.toInt ∧ r.toInt = 1) ∨ (¬ P0.toInt = p3.toInt ∧ r.toInt = 0))) ∨ (T1.toInt = 1 ∧ ((P1.toInt = p3.toInt ∧ r.toInt = 2) ∨ (¬ P1.toInt = p3.toInt ∧ ((P0.toInt = p3.toInt ∧ r.toInt = 1) ∨ (¬ P0.toInt = p3.toInt ∧ r.toInt = 0))))))))) ∧ Fr n0 L ∧ h = h0
set_option maxRecDepth 65536 in
set_option maxHeartbeats 40000000 in
theorem rm4_2 (l : Launch) (Z : State) (a0 : Array Value) (hw : ∀ d ∈ tables_1, d.before a0 Z = true) (ws : List Jvm.Cond) (b0 : Addr) (b1 : Addr) (p3 : Int32) (f : Nat → Int32) (g : Nat → Int32) (P0 : Int32) (P1 : Int32) (P2 : Int32) (P3 : Int32) (T0 : Int32) (T1 : Int32) (T2 : Int32) (h0 : Heap) (n0 : Nat) (Z0 : n0 ≤ h0.size) (B_b0 : Ba Z h0 b0 .char 4 f) (B_b1 : Ba Z h0 b1 .int 4 g) (hP0 : f 0 = P0) (hP1 : f 1 = P1) (hP2 : f 2 = P2) (hP3 : f 3 = P3) (hT0 : g 0 = T0) (hT1 : g 1 = T1) (hT2 : g 2 = T2) (hB0 : 0 ≤ T0.toInt ∧ T0.toInt ≤ 0) (hB1 : 0 ≤ T1.toInt ∧ T1.toInt ≤ 1) (hB2 : 0 ≤ T2.toInt ∧ T2.toInt ≤ 2) :
    MetFree l (⟨"com/example/otsing/otsing/algorithm/PartialMatchTable", "extend", "([C[IIC)I"⟩ : MethodName) (head1 (Jvm.Cond.code (⟨"com/example/otsing/otsing/algorithm/PartialMatchTable", "extend", "([C[IIC)I"⟩ : MethodName) prog_43_method_3_code 5 (some .int) :: ws) ({ frames := 0, cells := 0, slots := 0, locals := 0 } : Room)) (fun a U => a = #[(.ref b0), (.ref b1), (.int (2 : Int32)), (.int p3)] ∧ Z.Warmed39 U.vm ∧ U.heap = h0) (fun _ _ _ _ _ => True) (fun _ U o U' => ∃ v L, o = .returned v ∧ Q4_2 Z b0 b1 p3 f g P0 P1 P2 P3 T0 T1 T2 h0 n0 v U'.heap L ∧ FrameEnd U o U' L ({ frames := 0, cells := 0, slots := 0, locals := 0 } : Room).cells ({ frames := 0, cells := 0, slots := 0, locals := 0 } : Room).slots) := by
  refine MetFree.of_bodySF (plainFor_of_name pn_43851908) hisR ?_
  intro p e s m args below meth c s₁ Bd hml0 hP hK
  obtain ⟨rfl, hZ, hh⟩ := hP
  have C : Ctx p s m meth c Z "com/example/otsing/otsing/algorithm/PartialMatchTable" "extend" prog_43_method_3_code 5 (some .int) := Ctx.of Bd hml0 hZ
  have X0 : Stand p l e ({ frames := 0, cells := 0, slots := 0, locals := 0 } : Room) s m #[(.ref b0), (.ref b1), (.int (2 : Int32)), (.int p3)] below meth c s₁ [] 0 0 := Stand.of_body Bd
  have e0 : s₁.heap = h0 := by rw [← hh, Bd.state]; rfl
  have N0 := Fr.nil n0
  refine Goes.enter (ef_4_2 m b0 b1 p3) ?_
  clear hK hml0 hh
  refine g_iloadN 1 rfl C X0 d4_0 rfl ?_
  refine g_istore 3 rfl C X0 (2 : Int32) rfl #[.val (.ref b0), .val (.ref b1), .val (.int (2 : Int32)), .val (.int p3), .val (.int (2 : Int32))] d4_1 rfl ?_
  refine g_iload 5 rfl C X0 d4_3 rfl ?_
  refine g_if_le_f 8 rfl C X0 d4_5 (by decide) ?_
  refine g_aloadN 9 rfl C X0 d4_8 rfl rfl ?_
  refine g_iload 11 rfl C X0 d4_9 rfl ?_
  refine g_caload 12 rfl C X0 e0 B_b0 2 (by decide) (by decide) P2 hP2 d4_11 ?_
  refine g_iloadN 13 rfl C X0 d4_12 rfl ?_
  by_cases hb1 : P2.toInt = p3.toInt
  · skip
    refine g_icmp_eq_t 27 C X0 d4_13 (by decide) (by decide) hb1 ?_
    refine g_aloadN 28 rfl C X0 d4_27 rfl rfl ?_
    refine g_iload 30 rfl C X0 d4_28 rfl ?_
    refine g_caload 31 rfl C X0 e0 B_b0 2 (by decide) (by decide) P2 hP2 d4_30 ?_
    refine g_iloadN 32 rfl C X0 d4_31 rfl ?_
    refine g_icmp_ne_f 35 rfl C X0 d4_32 hb1 ?_
    refine g_iinc 38 rfl C X0 (1 : Int32) (3 : Int32) #[.val (.ref b0), .val (.ref b1), .val (.int (2 : Int32)), .val (.int p3), .val (.int (3 : Int32))] d4_35 rfl rfl (by decide) rfl ?_
    refine g_iload 40 rfl C X0 d4_38 rfl ?_
    have fc2 : (0 : Int32).toInt = 0 := rfl
    have fc3 : (1 : Int32).toInt = 1 := rfl
    have fc4 : (2 : Int32).toInt = 2 := rfl
    have fc5 : (3 : Int32).toInt = 3 := rfl
    have fc6 : (4 : Int32).toInt = 4 := rfl
    have fr7 := rng32 P2
    have fr8 := rng32 p3
    exact g_retI C X0 rfl d4_40 e0 (by decide) (by decide) ⟨_, rfl, by omega, N0, rfl⟩
  · skip
    refine g_icmp_eq_f 16 rfl C X0 d4_13 hb1 ?_
    refine g_aloadN 17 rfl C X0 d4_16 rfl rfl ?_
    refine g_iload 19 rfl C X0 d4_17 rfl ?_
    refine g_iconst 20 rfl C X0 (1 : Int32) d4_19 rfl ?_
    refine g_isub 21 rfl C X0 d4_20 ?_
    refine g_iaload 22 rfl C X0 e0 B_b1 1 (by decide) (by decide) T1 hT1 d4_21 ?_
    refine g_istore 24 rfl C X0 T1 rfl #[.val (.ref b0), .val (.ref b1), .val (.int (2 : Int32)), .val (.int p3), .val (.int T1)] d4_22 rfl ?_
    refine g_goto 3 C X0 d4_24 (by decide) (by decide) ?_
    have hq9 : T1.toInt = 0 ∨ T1.toInt = 1 := by
      have fr10 := rng32 T1
      omega
    have hc11 : T1 = (0 : Int32) ∨ T1 = (1 : Int32) := by
      rcases hq9 with q | q
      · exact (Or.inl (own_eq q))
      · exact (Or.inr (own_eq q))
    clear hq9
    rcases hc11 with rfl | rfl
    · skip
      refine g_iload 5 rfl C X0 d4_3 rfl ?_
      refine g_if_le_t 27 C X0 d4_5 (by decide) (by decide) (by decide) ?_
      refine g_aloadN 28 rfl C X0 d4_27 rfl rfl ?_
      refine g_iload 30 rfl C X0 d4_28 rfl ?_
      refine g_caload 31 rfl C X0 e0 B_b0 0 (by decide) (by decide) P0 hP0 d4_30 ?_
      refine g_iloadN 32 rfl C X0 d4_31 rfl ?_
      by_cases hb12 : P0.toInt = p3.toInt
      · skip
        refine g_icmp_ne_f 35 rfl C X0 d4_32 hb12 ?_
        refine g_iinc 38 rfl C X0 (1 : Int32) (1 : Int32) #[.val (.ref b0), .val (.ref b1), .val (.int (2 : Int32)), .val (.int p3), .val (.int (1 : Int32))] d4_35 rfl rfl (by decide) rfl ?_
        refine g_iload 40 rfl C X0 d4_38 rfl ?_
        have fc13 : (0 : Int32).toInt = 0 := rfl
        have fc14 : (1 : Int32).toInt = 1 := rfl
        have fc15 : (2 : Int32).toInt = 2 := rfl
        have fc16 : (3 : Int32).toInt = 3 := rfl
        have fc17 : (4 : Int32).toInt = 4 := rfl
        have fr18 := rng32 P2
        have fr19 := rng32 p3
        have fr20 := rng32 P0
        exact g_retI C X0 rfl d4_40 e0 (by decide) (by decide) ⟨_, rfl, by omega, N0, rfl⟩
      · skip
        refine g_icmp_ne_t 38 C X0 d4_32 (by decide) (by decide) hb12 ?_
        refine g_iload 40 rfl C X0 d4_38 rfl ?_
        have fc21 : (0 : Int32).toInt = 0 := rfl
        have fc22 : (1 : Int32).toInt = 1 := rfl
        have fc23 : (2 : Int32).toInt = 2 := rfl
        have fc24 : (3 : Int32).toInt = 3 := rfl
        have fc25 : (4 : Int32).toInt = 4 := rfl
        have fr26 := rng32 P2
        have fr27 := rng32 p3
        have fr28 := rng32 P0
        exact g_retI C X0 rfl d4_40 e0 (by decide) (by decide) ⟨_, rfl, by omega, N0, rfl⟩
    · skip
      refine g_iload 5 rfl C X0 d4_3 rfl ?_
      refine g_if_le_f 8 rfl C X0 d4_5 (by decide) ?_
      refine g_aloadN 9 rfl C X0 d4_8 rfl rfl ?_
      refine g_iload 11 rfl C X0 d4_9 rfl ?_
      refine g_caload 12 rfl C X0 e0 B_b0 1 (by decide) (by decide) P1 hP1 d4_11 ?_
      refine g_iloadN 13 rfl C X0 d4_12 rfl ?_
      by_cases hb29 : P1.toInt = p3.toInt
      · skip
        refine g_icmp_eq_t 27 C X0 d4_13 (by decide) (by decide) hb29 ?_
        refine g_aloadN 28 rfl C X0 d4_27 rfl rfl ?_
        refine g_iload 30 rfl C X0 d4_28 rfl ?_
        refine g_caload 31 rfl C X0 e0 B_b0 1 (by decide) (by decide) P1 hP1 d4_30 ?_
        refine g_iloadN 32 rfl C X0 d4_31 rfl ?_
        refine g_icmp_ne_f 35 rfl C X0 d4_32 hb29 ?_
        refine g_iinc 38 rfl C X0 (1 : Int32) (2 : Int32) #[.val (.ref b0), .val (.ref b1), .val (.int (2 : Int32)), .val (.int p3), .val (.int (2 : Int32))] d4_35 rfl rfl (by decide) rfl ?_
        refine g_iload 40 rfl C X0 d4_38 rfl ?_
        have fc30 : (0 : Int32).toInt = 0 := rfl
        have fc31 : (1 : Int32).toInt = 1 := rfl
        have fc32 : (2 : Int32).toInt = 2 := rfl
        have fc33 : (3 : Int32).toInt = 3 := rfl
        have fc34 : (4 : Int32).toInt = 4 := rfl
        have fr35 := rng32 P2
        have fr36 := rng32 p3
        have fr37 := rng32 P1
        exact g_retI C X0 rfl d4_40 e0 (by decide) (by decide) ⟨_, rfl, by omega, N0, rfl⟩
      · skip
        refine g_icmp_eq_f 16 rfl C X0 d4_13 hb29 ?_
        refine g_aloadN 17 rfl C X0 d4_16 rfl rfl ?_
        refine g_iload 19 rfl C X0 d4_17 rfl ?_
        refine g_iconst 20 rfl C X0 (1 : Int32) d4_19 rfl ?_
        refine g_isub 21 rfl C X0 d4_20 ?_
        refine g_iaload 22 rfl C X0 e0 B_b1 0 (by decide) (by decide) T0 hT0 d4_21 ?_
        refine g_istore 24 rfl C X0 T0 rfl #[.val (.ref b0), .val (.ref b1), .val (.int (2 : Int32)), .val (.int p3), .val (.int T0)] d4_22 rfl ?_
        refine g_goto 3 C X0 d4_24 (by decide) (by decide) ?_
        have hq38 : T0.toInt = 0 := by
          have fr39 := rng32 T0
          omega
        have hc40 : T0 = (0 : Int32) := own_eq hq38
        clear hq38
        subst hc40
        · skip
          refine g_iload 5 rfl C X0 d4_3 rfl ?_
          refine g_if_le_t 27 C X0 d4_5 (by decide) (by decide) (by decide) ?_
          refine g_aloadN 28 rfl C X0 d4_27 rfl rfl ?_
          refine g_iload 30 rfl C X0 d4_28 rfl ?_
          refine g_caload 31 rfl C X0 e0 B_b0 0 (by decide) (by decide) P0 hP0 d4_30 ?_
          refine g_iloadN 32 rfl C X0 d4_31 rfl ?_
          by_cases hb41 : P0.toInt = p3.toInt
          · skip
            refine g_icmp_ne_f 35 rfl C X0 d4_32 hb41 ?_
            refine g_iinc 38 rfl C X0 (1 : Int32) (1 : Int32) #[.val (.ref b0), .val (.ref b1), .val (.int (2 : Int32)), .val (.int p3), .val (.int (1 : Int32))] d4_35 rfl rfl (by decide) rfl ?_
            refine g_iload 40 rfl C X0 d4_38 rfl ?_
            have fc42 : (0 : Int32).toInt = 0 := rfl
            have fc43 : (1 : Int32).toInt = 1 := rfl
            have fc44 : (2 : Int32).toInt = 2 := rfl
            have fc45 : (3 : Int32).toInt = 3 := rfl
            have fc46 : (4 : Int32).toInt = 4 := rfl
            have fr47 := rng32 P2
            have fr48 := rng32 p3
            have fr49 := rng32 P1
            have fr50 := rng32 P0
            exact g_retI C X0 rfl d4_40 e0 (by decide) (by decide) ⟨_, rfl, by omega, N0, rfl⟩
          · skip
            refine g_icmp_ne_t 38 C X0 d4_32 (by decide) (by decide) hb41 ?_
            refine g_iload 40 rfl C X0 d4_38 rfl ?_
            have fc51 : (0 : Int32).toInt = 0 := rfl
            have fc52 : (1 : Int32).toInt = 1 := rfl
            have fc53 : (2 : Int32).toInt = 2 := rfl
            have fc54 : (3 : Int32).toInt = 3 := rfl
            have fc55 : (4 : Int32).toInt = 4 := rfl
            have fr56 := rng32 P2
            have fr57 := rng32 p3
            have fr58 := rng32 P1
            have fr59 := rng32 P0
            exact g_retI C X0 rfl d4_40 e0 (by decide) (by decide) ⟨_, rfl, by omega, N0, rfl⟩
theorem ef_4_3 (m : MethodId) (b0 : Addr) (b1 : Addr) (p3 : Int32) : entryFrame m #[(.ref b0), (.ref b1), (.int (3 : Int32)), (.int p3)] 5 = mkF m 0 #[.val (.ref b0), .val (.ref b1), .val (.int (3 : Int32)), .val (.int p3), .unset] [] := by first | (simp [entryFrame, mkF, argsToLocals, Value.category]; done) | rfl
def Q4_3 (Z : State) (b0 : Addr) (b1 : Addr) (p3 : Int32) (f : Nat → Int32) (g : Nat → Int32) (P0 : Int32) (P1 : Int32) (P2 : Int32) (P3 : Int32) (T0 : Int32) (T1 : Int32) (T2 : Int32) (h0 : Heap) (n0 : Nat) (v : Option Value) (h : Heap) (L : List Loc) : Prop := ∃ r : Int32, v = some (.int r) ∧ (((P3.toInt = p3.toInt ∧ r.toInt = 4) ∨ (¬ P3.toInt = p3.toInt ∧ ((T2.toInt = 0 ∧ ((P0.toInt = p3.toInt ∧ r.toInt = 1) ∨ (¬ P0.toInt = p3.toInt ∧ r.toInt = 0))) ∨ (T2.toInt = 1 ∧ ((P1.toInt = p3.toInt ∧ r.toInt = 2) ∨ (¬ P1.toInt = p3.toInt ∧ ((P0.toInt = p3.toInt ∧ r.toInt = 1) ∨ (¬ P0.toInt = p3.toInt ∧ r.toInt = 0))))) ∨ (T2.toInt = 2 ∧ ((P2.toInt = p3.toInt ∧ r.toInt = 3) ∨ (¬ P2.toInt = p3.toInt ∧ ((T1.toInt = 0 ∧ ((P0.toInt = p3.toInt ∧ r.toInt = 1) ∨ (¬ P0.toInt = p3.toInt ∧ r.toInt = 0))) ∨ (T1.toInt = 1 ∧ ((P1.toInt = p3.toInt ∧ r.toInt = 2) ∨ (¬ P1.toInt = p3.toInt ∧ ((P0.toInt = p3.toInt ∧ r.toInt = 1) ∨ (¬ P0.toInt = p3.toInt ∧ r.toInt = 0))))))))))))) ∧ Fr n0 L ∧ h = h0
set_option maxRecDepth 65536 in
set_option maxHeartbeats 40000000 in
theorem rm4_3 (l : Launch) (Z : State) (a0 : Array Value) (hw : ∀ d ∈ tables_1, d.before a0 Z = true) (ws : List Jvm.Cond) (b0 : Addr) (b1 : Addr) (p3 : Int32) (f : Nat → Int32) (g : Nat → Int32) (P0 : Int32) (P1 : Int32) (P2 : Int32) (P3 : Int32) (T0 : Int32) (T1 : Int32) (T2 : Int32) (h0 : Heap) (n0 : Nat) (Z0 : n0 ≤ h0.size) (B_b0 : Ba Z h0 b0 .char 4 f) (B_b1 : Ba Z h0 b1 .int 4 g) (hP0 : f 0 = P0) (hP1 : f 1 = P1) (hP2 : f 2 = P2) (hP3 : f 3 = P3) (hT0 : g 0 = T0) (hT1 : g 1 = T1) (hT2 : g 2 = T2) (hB0 : 0 ≤ T0.toInt ∧ T0.toInt ≤ 0) (hB1 : 0 ≤ T1.toInt ∧ T1.toInt ≤ 1) (hB2 : 0 ≤ T2.toInt ∧ T2.toInt ≤ 2) :
    MetFree l (⟨"com/example/otsing/otsing/algorithm/PartialMatchTable", "extend", "([C[IIC)I"⟩ : MethodName) (head1 (Jvm.Cond.code (⟨"com/example/otsing/otsing/algorithm/PartialMatchTable", "extend", "([C[IIC)I"⟩ : MethodName) prog_43_method_3_code 5 (some .int) :: ws) ({ frames := 0, cells := 0, slots := 0, locals := 0 } : Room)) (fun a U => a = #[(.ref b0), (.ref b1), (.int (3 : Int32)), (.int p3)] ∧ Z.Warmed39 U.vm ∧ U.heap = h0) (fun _ _ _ _ _ => True) (fun _ U o U' => ∃ v L, o = .returned v ∧ Q4_3 Z b0 b1 p3 f g P0 P1 P2 P3 T0 T1 T2 h0 n0 v U'.heap L ∧ FrameEnd U o U' L ({ frames := 0, cells := 0, slots := 0, locals := 0 } : Room).cells ({ frames := 0, cells := 0, slots := 0, locals := 0 } : Room).slots) := by
  refine MetFree.of_bodySF (plainFor_of_name pn_43851908) hisR ?_
  intro p e s m args below meth c s₁ Bd hml0 hP hK
  obtain ⟨rfl, hZ, hh⟩ := hP
  have C : Ctx p s m meth c Z "com/example/otsing/otsing/algorithm/PartialMatchTable" "extend" prog_43_method_3_code 5 (some .int) := Ctx.of Bd hml0 hZ
  have X0 : Stand p l e ({ frames := 0, cells := 0, slots := 0, locals := 0 } : Room) s m #[(.ref b0), (.ref b1), (.int (3 : Int32)), (.int p3)] below meth c s₁ [] 0 0 := Stand.of_body Bd
  have e0 : s₁.heap = h0 := by rw [← hh, Bd.state]; rfl
  have N0 := Fr.nil n0
  refine Goes.enter (ef_4_3 m b0 b1 p3) ?_
  clear hK hml0 hh
  refine g_iloadN 1 rfl C X0 d4_0 rfl ?_
  refine g_istore 3 rfl C X0 (3 : Int32) rfl #[.val (.ref b0), .val (.ref b1), .val (.int (3 : Int32)), .val (.int p3), .val (.int (3 : Int32))] d4_1 rfl ?_
  refine g_iload 5 rfl C X0 d4_3 rfl ?_
  refine g_if_le_f 8 rfl C X0 d4_5 (by decide) ?_
  refine g_aloadN 9 rfl C X0 d4_8 rfl rfl ?_
  refine g_iload 11 rfl C X0 d4_9 rfl ?_
  refine g_caload 12 rfl C X0 e0 B_b0 3 (by decide) (by decide) P3 hP3 d4_11 ?_
  refine g_iloadN 13 rfl C X0 d4_12 rfl ?_
  by_cases hb1 : P3.toInt = p3.toInt
  · skip
    refine g_icmp_eq_t 27 C X0 d4_13 (by decide) (by decide) hb1 ?_
    refine g_aloadN 28 rfl C X0 d4_27 rfl rfl ?_
    refine g_iload 30 rfl C X0 d4_28 rfl ?_
    refine g_caload 31 rfl C X0 e0 B_b0 3 (by decide) (by decide) P3 hP3 d4_30 ?_
    refine g_iloadN 32 rfl C X0 d4_31 rfl ?_
    refine g_icmp_ne_f 35 rfl C X0 d4_32 hb1 ?_
    refine g_iinc 38 rfl C X0 (1 : Int32) (4 : Int32) #[.val (.ref b0), .val (.ref b1), .val (.int (3 : Int32)), .val (.int p3), .val (.int (4 : Int32))] d4_35 rfl rfl (by decide) rfl ?_
    refine g_iload 40 rfl C X0 d4_38 rfl ?_
    have fc2 : (0 : Int32).toInt = 0 := rfl
    have fc3 : (1 : Int32).toInt = 1 := rfl
    have fc4 : (2 : Int32).toInt = 2 := rfl
    have fc5 : (3 : Int32).toInt = 3 := rfl
    have fc6 : (4 : Int32).toInt = 4 := rfl
    have fr7 := rng32 P3
    have fr8 := rng32 p3
    exact g_retI C X0 rfl d4_40 e0 (by decide) (by decide) ⟨_, rfl, by omega, N0, rfl⟩
  · skip
    refine g_icmp_eq_f 16 rfl C X0 d4_13 hb1 ?_
    refine g_aloadN 17 rfl C X0 d4_16 rfl rfl ?_
    refine g_iload 19 rfl C X0 d4_17 rfl ?_
    refine g_iconst 20 rfl C X0 (1 : Int32) d4_19 rfl ?_
    refine g_isub 21 rfl C X0 d4_20 ?_
    refine g_iaload 22 rfl C X0 e0 B_b1 2 (by decide) (by decide) T2 hT2 d4_21 ?_
    refine g_istore 24 rfl C X0 T2 rfl #[.val (.ref b0), .val (.ref b1), .val (.int (3 : Int32)), .val (.int p3), .val (.int T2)] d4_22 rfl ?_
    refine g_goto 3 C X0 d4_24 (by decide) (by decide) ?_
    have hq9 : T2.toInt = 0 ∨ T2.toInt = 1 ∨ T2.toInt = 2 := by
      have fr10 := rng32 T2
      omega
    have hc11 : T2 = (0 : Int32) ∨ T2 = (1 : Int32) ∨ T2 = (2 : Int32) := by
      rcases hq9 with q | q | q
      · exact (Or.inl (own_eq q))
      · exact (Or.inr (Or.inl (own_eq q)))
      · exact (Or.inr (Or.inr (own_eq q)))
    clear hq9
    rcases hc11 with rfl | rfl | rfl
    · skip
      refine g_iload 5 rfl C X0 d4_3 rfl ?_
      refine g_if_le_t 27 C X0 d4_5 (by decide) (by decide) (by decide) ?_
      refine g_aloadN 28 rfl C X0 d4_27 rfl rfl ?_
      refine g_iload 30 rfl C X0 d4_28 rfl ?_
      refine g_caload 31 rfl C X0 e0 B_b0 0 (by decide) (by decide) P0 hP0 d4_30 ?_
      refine g_iloadN 32 rfl C X0 d4_31 rfl ?_
      by_cases hb12 : P0.toInt = p3.toInt
      · skip
        refine g_icmp_ne_f 35 rfl C X0 d4_32 hb12 ?_
        refine g_iinc 38 rfl C X0 (1 : Int32) (1 : Int32) #[.val (.ref b0), .val (.ref b1), .val (.int (3 : Int32)), .val (.int p3), .val (.int (1 : Int32))] d4_35 rfl rfl (by decide) rfl ?_
        refine g_iload 40 rfl C X0 d4_38 rfl ?_
        have fc13 : (0 : Int32).toInt = 0 := rfl
        have fc14 : (1 : Int32).toInt = 1 := rfl
        have fc15 : (2 : Int32).toInt = 2 := rfl
        have fc16 : (3 : Int32).toInt = 3 := rfl
        have fc17 : (4 : Int32).toInt = 4 := rfl
        have fr18 := rng32 P3
        have fr19 := rng32 p3
        have fr20 := rng32 P0
        exact g_retI C X0 rfl d4_40 e0 (by decide) (by decide) ⟨_, rfl, by omega, N0, rfl⟩
      · skip
        refine g_icmp_ne_t 38 C X0 d4_32 (by decide) (by decide) hb12 ?_
        refine g_iload 40 rfl C X0 d4_38 rfl ?_
        have fc21 : (0 : Int32).toInt = 0 := rfl
        have fc22 : (1 : Int32).toInt = 1 := rfl
        have fc23 : (2 : Int32).toInt = 2 := rfl
        have fc24 : (3 : Int32).toInt = 3 := rfl
        have fc25 : (4 : Int32).toInt = 4 := rfl
        have fr26 := rng32 P3
        have fr27 := rng32 p3
        have fr28 := rng32 P0
        exact g_retI C X0 rfl d4_40 e0 (by decide) (by decide) ⟨_, rfl, by omega, N0, rfl⟩
    · skip
      refine g_iload 5 rfl C X0 d4_3 rfl ?_
      refine g_if_le_f 8 rfl C X0 d4_5 (by decide) ?_
      refine g_aloadN 9 rfl C X0 d4_8 rfl rfl ?_
      refine g_iload 11 rfl C X0 d4_9 rfl ?_
      refine g_caload 12 rfl C X0 e0 B_b0 1 (by decide) (by decide) P1 hP1 d4_11 ?_
      refine g_iloadN 13 rfl C X0 d4_12 rfl ?_
      by_cases hb29 : P1.toInt = p3.toInt
      · skip
        refine g_icmp_eq_t 27 C X0 d4_13 (by decide) (by decide) hb29 ?_
        refine g_aloadN 28 rfl C X0 d4_27 rfl rfl ?_
        refine g_iload 30 rfl C X0 d4_28 rfl ?_
        refine g_caload 31 rfl C X0 e0 B_b0 1 (by decide) (by decide) P1 hP1 d4_30 ?_
        refine g_iloadN 32 rfl C X0 d4_31 rfl ?_
        refine g_icmp_ne_f 35 rfl C X0 d4_32 hb29 ?_
        refine g_iinc 38 rfl C X0 (1 : Int32) (2 : Int32) #[.val (.ref b0), .val (.ref b1), .val (.int (3 : Int32)), .val (.int p3), .val (.int (2 : Int32))] d4_35 rfl rfl (by decide) rfl ?_
        refine g_iload 40 rfl C X0 d4_38 rfl ?_
        have fc30 : (0 : Int32).toInt = 0 := rfl
        have fc31 : (1 : Int32).toInt = 1 := rfl
        have fc32 : (2 : Int32).toInt = 2 := rfl
        have fc33 : (3 : Int32).toInt = 3 := rfl
        have fc34 : (4 : Int32).toInt = 4 := rfl
        have fr35 := rng32 P3
        have fr36 := rng32 p3
        have fr37 := rng32 P1
        exact g_retI C X0 rfl d4_40 e0 (by decide) (by decide) ⟨_, rfl, by omega, N0, rfl⟩
      · skip
        refine g_icmp_eq_f 16 rfl C X0 d4_13 hb29 ?_
        refine g_aloadN 17 rfl C X0 d4_16 rfl rfl ?_
        refine g_iload 19 rfl C X0 d4_17 rfl ?_
        refine g_iconst 20 rfl C X0 (1 : Int32) d4_19 rfl ?_
        refine g_isub 21 rfl C X0 d4_20 ?_
        refine g_iaload 22 rfl C X0 e0 B_b1 0 (by decide) (by decide) T0 hT0 d4_21 ?_
        refine g_istore 24 rfl C X0 T0 rfl #[.val (.ref b0), .val (.ref b1), .val (.int (3 : Int32)), .val (.int p3), .val (.int T0)] d4_22 rfl ?_
        refine g_goto 3 C X0 d4_24 (by decide) (by decide) ?_
        have hq38 : T0.toInt = 0 := by
          have fr39 := rng32 T0
          omega
        have hc40 : T0 = (0 : Int32) := own_eq hq38
        clear hq38
        subst hc40
        · skip
          refine g_iload 5 rfl C X0 d4_3 rfl ?_
          refine g_if_le_t 27 C X0 d4_5 (by decide) (by decide) (by decide) ?_
          refine g_aloadN 28 rfl C X0 d4_27 rfl rfl ?_
          refine g_iload 30 rfl C X0 d4_28 rfl ?_
          refine g_caload 31 rfl C X0 e0 B_b0 0 (by decide) (by decide) P0 hP0 d4_30 ?_
          refine g_iloadN 32 rfl C X0 d4_31 rfl ?_
          by_cases hb41 : P0.toInt = p3.toInt
          · skip
            refine g_icmp_ne_f 35 rfl C X0 d4_32 hb41 ?_
            refine g_iinc 38 rfl C X0 (1 : Int32) (1 : Int32) #[.val (.ref b0), .val (.ref b1), .val (.int (3 : Int32)), .val (.int p3), .val (.int (1 : Int32))] d4_35 rfl rfl (by decide) rfl ?_
            refine g_iload 40 rfl C X0 d4_38 rfl ?_
            have fc42 : (0 : Int32).toInt = 0 := rfl
            have fc43 : (1 : Int32).toInt = 1 := rfl
            have fc44 : (2 : Int32).toInt = 2 := rfl
            have fc45 : (3 : Int32).toInt = 3 := rfl
            have fc46 : (4 : Int32).toInt = 4 := rfl
            have fr47 := rng32 P3
            have fr48 := rng32 p3
            have fr49 := rng32 P1
            have fr50 := rng32 P0
            exact g_retI C X0 rfl d4_40 e0 (by decide) (by decide) ⟨_, rfl, by omega, N0, rfl⟩
          · skip
            refine g_icmp_ne_t 38 C X0 d4_32 (by decide) (by decide) hb41 ?_
            refine g_iload 40 rfl C X0 d4_38 rfl ?_
            have fc51 : (0 : Int32).toInt = 0 := rfl
            have fc52 : (1 : Int32).toInt = 1 := rfl
            have fc53 : (2 : Int32).toInt = 2 := rfl
            have fc54 : (3 : Int32).toInt = 3 := rfl
            have fc55 : (4 : Int32).toInt = 4 := rfl
            have fr56 := rng32 P3
            have fr57 := rng32 p3
            have fr58 := rng32 P1
            have fr59 := rng32 P0
            exact g_retI C X0 rfl d4_40 e0 (by decide) (by decide) ⟨_, rfl, by omega, N0, rfl⟩
    · skip
      refine g_iload 5 rfl C X0 d4_3 rfl ?_
      refine g_if_le_f 8 rfl C X0 d4_5 (by decide) ?_
      refine g_aloadN 9 rfl C X0 d4_8 rfl rfl ?_
      refine g_iload 11 rfl C X0 d4_9 rfl ?_
      refine g_caload 12 rfl C X0 e0 B_b0 2 (by decide) (by decide) P2 hP2 d4_11 ?_
      refine g_iloadN 13 rfl C X0 d4_12 rfl ?_
      by_cases hb60 : P2.toInt = p3.toInt
      · skip
        refine g_icmp_eq_t 27 C X0 d4_13 (by decide) (by decide) hb60 ?_
        refine g_aloadN 28 rfl C X0 d4_27 rfl rfl ?_
        refine g_iload 30 rfl C X0 d4_28 rfl ?_
        refine g_caload 31 rfl C X0 e0 B_b0 2 (by decide) (by decide) P2 hP2 d4_30 ?_
        refine g_iloadN 32 rfl C X0 d4_31 rfl ?_
        refine g_icmp_ne_f 35 rfl C X0 d4_32 hb60 ?_
        refine g_iinc 38 rfl C X0 (1 : Int32) (3 : Int32) #[.val (.ref b0), .val (.ref b1), .val (.int (3 : Int32)), .val (.int p3), .val (.int (3 : Int32))] d4_35 rfl rfl (by decide) rfl ?_
        refine g_iload 40 rfl C X0 d4_38 rfl ?_
        have fc61 : (0 : Int32).toInt = 0 := rfl
        have fc62 : (1 : Int32).toInt = 1 := rfl
        have fc63 : (2 : Int32).toInt = 2 := rfl
        have fc64 : (3 : Int32).toInt = 3 := rfl
        have fc65 : (4 : Int32).toInt = 4 := rfl
        have fr66 := rng32 P3
        have fr67 := rng32 p3
        have fr68 := rng32 P2
        exact g_retI C X0 rfl d4_40 e0 (by decide) (by decide) ⟨_, rfl, by omega, N0, rfl⟩
      · skip
        refine g_icmp_eq_f 16 rfl C X0 d4_13 hb60 ?_
        refine g_aloadN 17 rfl C X0 d4_16 rfl rfl ?_
        refine g_iload 19 rfl C X0 d4_17 rfl ?_
        refine g_iconst 20 rfl C X0 (1 : Int32) d4_19 rfl ?_
        refine g_isub 21 rfl C X0 d4_20 ?_
        refine g_iaload 22 rfl C X0 e0 B_b1 1 (by decide) (by decide) T1 hT1 d4_21 ?_
        refine g_istore 24 rfl C X0 T1 rfl #[.val (.ref b0), .val (.ref b1), .val (.int (3 : Int32)), .val (.int p3), .val (.int T1)] d4_22 rfl ?_
        refine g_goto 3 C X0 d4_24 (by decide) (by decide) ?_
        have hq69 : T1.toInt = 0 ∨ T1.toInt = 1 := by
          have fr70 := rng32 T1
          omega
        have hc71 : T1 = (0 : Int32) ∨ T1 = (1 : Int32) := by
          rcases hq69 with q | q
          · exact (Or.inl (own_eq q))
          · exact (Or.inr (own_eq q))
        clear hq69
        rcases hc71 with rfl | rfl
        · skip
          refine g_iload 5 rfl C X0 d4_3 rfl ?_
          refine g_if_le_t 27 C X0 d4_5 (by decide) (by decide) (by decide) ?_
          refine g_aloadN 28 rfl C X0 d4_27 rfl rfl ?_
          refine g_iload 30 rfl C X0 d4_28 rfl ?_
          refine g_caload 31 rfl C X0 e0 B_b0 0 (by decide) (by decide) P0 hP0 d4_30 ?_
          refine g_iloadN 32 rfl C X0 d4_31 rfl ?_
          by_cases hb72 : P0.toInt = p3.toInt
          · skip
            refine g_icmp_ne_f 35 rfl C X0 d4_32 hb72 ?_
            refine g_iinc 38 rfl C X0 (1 : Int32) (1 : Int32) #[.val (.ref b0), .val (.ref b1), .val (.int (3 : Int32)), .val (.int p3), .val (.int (1 : Int32))] d4_35 rfl rfl (by decide) rfl ?_
            refine g_iload 40 rfl C X0 d4_38 rfl ?_
            have fc73 : (0 : Int32).toInt = 0 := rfl
            have fc74 : (1 : Int32).toInt = 1 := rfl
            have fc75 : (2 : Int32).toInt = 2 := rfl
            have fc76 : (3 : Int32).toInt = 3 := rfl
            have fc77 : (4 : Int32).toInt = 4 := rfl
            have fr78 := rng32 P3
            have fr79 := rng32 p3
            have fr80 := rng32 P2
            have fr81 := rng32 P0
            exact g_retI C X0 rfl d4_40 e0 (by decide) (by decide) ⟨_, rfl, by omega, N0, rfl⟩
          · skip
            refine g_icmp_ne_t 38 C X0 d4_32 (by decide) (by decide) hb72 ?_
            refine g_iload 40 rfl C X0 d4_38 rfl ?_
            have fc82 : (0 : Int32).toInt = 0 := rfl
            have fc83 : (1 : Int32).toInt = 1 := rfl
            have fc84 : (2 : Int32).toInt = 2 := rfl
            have fc85 : (3 : Int32).toInt = 3 := rfl
            have fc86 : (4 : Int32).toInt = 4 := rfl
            have fr87 := rng32 P3
            have fr88 := rng32 p3
            have fr89 := rng32 P2
            have fr90 := rng32 P0
            exact g_retI C X0 rfl d4_40 e0 (by decide) (by decide) ⟨_, rfl, by omega, N0, rfl⟩
        · skip
          refine g_iload 5 rfl C X0 d4_3 rfl ?_
          refine g_if_le_f 8 rfl C X0 d4_5 (by decide) ?_
          refine g_aloadN 9 rfl C X0 d4_8 rfl rfl ?_
          refine g_iload 11 rfl C X0 d4_9 rfl ?_
          refine g_caload 12 rfl C X0 e0 B_b0 1 (by decide) (by decide) P1 hP1 d4_11 ?_
          refine g_iloadN 13 rfl C X0 d4_12 rfl ?_
          by_cases hb91 : P1.toInt = p3.toInt
          · skip
            refine g_icmp_eq_t 27 C X0 d4_13 (by decide) (by decide) hb91 ?_
            refine g_aloadN 28 rfl C X0 d4_27 rfl rfl ?_
            refine g_iload 30 rfl C X0 d4_28 rfl ?_
            refine g_caload 31 rfl C X0 e0 B_b0 1 (by decide) (by decide) P1 hP1 d4_30 ?_
            refine g_iloadN 32 rfl C X0 d4_31 rfl ?_
            refine g_icmp_ne_f 35 rfl C X0 d4_32 hb91 ?_
            refine g_iinc 38 rfl C X0 (1 : Int32) (2 : Int32) #[.val (.ref b0), .val (.ref b1), .val (.int (3 : Int32)), .val (.int p3), .val (.int (2 : Int32))] d4_35 rfl rfl (by decide) rfl ?_
            refine g_iload 40 rfl C X0 d4_38 rfl ?_
            have fc92 : (0 : Int32).toInt = 0 := rfl
            have fc93 : (1 : Int32).toInt = 1 := rfl
            have fc94 : (2 : Int32).toInt = 2 := rfl
            have fc95 : (3 : Int32).toInt = 3 := rfl
            have fc96 : (4 : Int32).toInt = 4 := rfl
            have fr97 := rng32 P3
            have fr98 := rng32 p3
            have fr99 := rng32 P2
            have fr100 := rng32 P1
            exact g_retI C X0 rfl d4_40 e0 (by decide) (by decide) ⟨_, rfl, by omega, N0, rfl⟩
          · skip
            refine g_icmp_eq_f 16 rfl C X0 d4_13 hb91 ?_
            refine g_aloadN 17 rfl C X0 d4_16 rfl rfl ?_
            refine g_iload 19 rfl C X0 d4_17 rfl ?_
            refine g_iconst 20 rfl C X0 (1 : Int32) d4_19 rfl ?_
            refine g_isub 21 rfl C X0 d4_20 ?_
            refine g_iaload 22 rfl C X0 e0 B_b1 0 (by decide) (by decide) T0 hT0 d4_21 ?_
            refine g_istore 24 rfl C X0 T0 rfl #[.val (.ref b0), .val (.ref b1), .val (.int (3 : Int32)), .val (.int p3), .val (.int T0)] d4_22 rfl ?_
            refine g_goto 3 C X0 d4_24 (by decide) (by decide) ?_
            have hq101 : T0.toInt = 0 := by
              have fr102 := rng32 T0
              omega
            have hc103 : T0 = (0 : Int32) := own_eq hq101
            clear hq101
            subst hc103
            · skip
              refine g_iload 5 rfl C X0 d4_3 rfl ?_
              refine g_if_le_t 27 C X0 d4_5 (by decide) (by decide) (by decide) ?_
              refine g_aloadN 28 rfl C X0 d4_27 rfl rfl ?_
              refine g_iload 30 rfl C X0 d4_28 rfl ?_
              refine g_caload 31 rfl C X0 e0 B_b0 0 (by decide) (by decide) P0 hP0 d4_30 ?_
              refine g_iloadN 32 rfl C X0 d4_31 rfl ?_
              by_cases hb104 : P0.toInt = p3.toInt
              · skip
                refine g_icmp_ne_f 35 rfl C X0 d4_32 hb104 ?_
                refine g_iinc 38 rfl C X0 (1 : Int32) (1 : Int32) #[.val (.ref b0), .val (.ref b1), .val (.int (3 : Int32)), .val (.int p3), .val (.int (1 : Int32))] d4_35 rfl rfl (by decide) rfl ?_
                refine g_iload 40 rfl C X0 d4_38 rfl ?_
                have fc105 : (0 : Int32).toInt = 0 := rfl
                have fc106 : (1 : Int32).toInt = 1 := rfl
                have fc107 : (2 : Int32).toInt = 2 := rfl
                have fc108 : (3 : Int32).toInt = 3 := rfl
                have fc109 : (4 : Int32).toInt = 4 := rfl
                have fr110 := rng32 P3
                have fr111 := rng32 p3
                have fr112 := rng32 P2
                have fr113 := rng32 P1
                have fr114 := rng32 P0
                exact g_retI C X0 rfl d4_40 e0 (by decide) (by decide) ⟨_, rfl, by omega, N0, rfl⟩
              · skip
                refine g_icmp_ne_t 38 C X0 d4_32 (by decide) (by decide) hb104 ?_
                refine g_iload 40 rfl C X0 d4_38 rfl ?_
                have fc115 : (0 : Int32).toInt = 0 := rfl
                have fc116 : (1 : Int32).toInt = 1 := rfl
                have fc117 : (2 : Int32).toInt = 2 := rfl
                have fc118 : (3 : Int32).toInt = 3 := rfl
                have fc119 : (4 : Int32).toInt = 4 := rfl
                have fr120 := rng32 P3
                have fr121 := rng32 p3
                have fr122 := rng32 P2
                have fr123 := rng32 P1
                have fr124 := rng32 P0
                exact g_retI C X0 rfl d4_40 e0 (by decide) (by decide) ⟨_, rfl, by omega, N0, rfl⟩
theorem pd_27687286 : parseMethodDescriptor "(ICCCC)C" = some ⟨[.int, .char, .char, .char, .char], some .char⟩ := by decide +kernel
theorem pd_50052781 : parseMethodDescriptor "([C[CII)I" = some ⟨[(.array .char), (.array .char), .int, .int], some .int⟩ := by decide +kernel
theorem pd_16949341 : parseMethodDescriptor "([C[IIC)I" = some ⟨[(.array .char), (.array .int), .int, .char], some .int⟩ := by decide +kernel
theorem ef_0 (m : MethodId) (p0 : Int32) (p1 : Int32) (p2 : Int32) (p3 : Int32) (p4 : Int32) : entryFrame m #[(.int p0), (.int p1), (.int p2), (.int p3), (.int p4)] maxLocals = mkF m 0 #[.val (.int p0), .val (.int p1), .val (.int p2), .val (.int p3), .val (.int p4), .unset, .unset, .unset, .unset, .unset, .unset, .unset, .unset, .unset, .unset, .unset, .unset] [] := by first | (simp [entryFrame, mkF, argsToLocals, Value.category, maxLocals]; done) | rfl
def Q0 (Z : State) (p0 : Int32) (p1 : Int32) (p2 : Int32) (p3 : Int32) (p4 : Int32) (h0 : Heap) (n0 : Nat) (v : Option Value) (h : Heap) (L : List Loc) : Prop := v = some (.int 1) ∧ Fr n0 L
set_option maxRecDepth 65536 in
set_option maxHeartbeats 40000000 in
theorem rm0 (l : Launch) (Z : State) (a0 : Array Value) (hw : ∀ d ∈ tables_1, d.before a0 Z = true) (ws : List Jvm.Cond) (p0 : Int32) (p1 : Int32) (p2 : Int32) (p3 : Int32) (p4 : Int32) (h0 : Heap) (n0 : Nat) (Z0 : n0 ≤ h0.size) :
    MetFree l x (head1 (Jvm.Cond.code x code maxLocals ret :: ws) room_1) (fun a U => a = #[(.int p0), (.int p1), (.int p2), (.int p3), (.int p4)] ∧ Z.Warmed39 U.vm ∧ U.heap = h0) (fun _ _ _ _ _ => True) (fun _ U o U' => ∃ v L, o = .returned v ∧ Q0 Z p0 p1 p2 p3 p4 h0 n0 v U'.heap L ∧ FrameEnd U o U' L 16 128) := by
  refine MetFree.of_bodySF (plainFor_of_name pn_11909899) hisR ?_
  intro p e s m args below meth c s₁ Bd hml0 hP hK
  obtain ⟨rfl, hZ, hh⟩ := hP
  have C : Ctx p s m meth c Z "com/example/otsing/otsing/algorithm/PartialMatchTableExtendPinLaw" "law" code maxLocals ret := Ctx.of Bd hml0 hZ
  have X0 : Stand p l e room_1 s m #[(.int p0), (.int p1), (.int p2), (.int p3), (.int p4)] below meth c s₁ [] 0 0 := Stand.of_body Bd
  have e0 : s₁.heap = h0 := by rw [← hh, Bd.state]; rfl
  have N0 := Fr.nil n0
  refine Goes.enter (ef_0 m p0 p1 p2 p3 p4) ?_
  clear hK hml0 hh
  refine g_iloadN 1 rfl C X0 at_0 rfl ?_
  refine g_i2c 2 rfl C X0 at_1 ?_
  obtain ⟨v1, hv1⟩ : ∃ z : Int32, ((p1).toUInt32.toUInt16.toUInt32.toInt32) = z := ⟨_, rfl⟩
  refine g_istore 4 rfl C X0 v1 hv1 #[.val (.int p0), .val (.int p1), .val (.int p2), .val (.int p3), .val (.int p4), .val (.int v1), .unset, .unset, .unset, .unset, .unset, .unset, .unset, .unset, .unset, .unset, .unset] at_2 rfl ?_
  refine g_iloadN 5 rfl C X0 at_4 rfl ?_
  refine g_bipush 7 rfl C X0 (16 : Int32) at_5 rfl ?_
  refine g_iushr 8 rfl C X0 at_7 ?_
  refine g_i2c 9 rfl C X0 at_8 ?_
  obtain ⟨v2, hv2⟩ : ∃ z : Int32, (((((p1).toUInt32 >>> ((16 : Int32) &&& 31).toUInt32).toInt32)).toUInt32.toUInt16.toUInt32.toInt32) = z := ⟨_, rfl⟩
  refine g_istore 11 rfl C X0 v2 hv2 #[.val (.int p0), .val (.int p1), .val (.int p2), .val (.int p3), .val (.int p4), .val (.int v1), .val (.int v2), .unset, .unset, .unset, .unset, .unset, .unset, .unset, .unset, .unset, .unset] at_9 rfl ?_
  refine g_iloadN 12 rfl C X0 at_11 rfl ?_
  refine g_i2c 13 rfl C X0 at_12 ?_
  obtain ⟨v3, hv3⟩ : ∃ z : Int32, ((p2).toUInt32.toUInt16.toUInt32.toInt32) = z := ⟨_, rfl⟩
  refine g_istore 15 rfl C X0 v3 hv3 #[.val (.int p0), .val (.int p1), .val (.int p2), .val (.int p3), .val (.int p4), .val (.int v1), .val (.int v2), .val (.int v3), .unset, .unset, .unset, .unset, .unset, .unset, .unset, .unset, .unset] at_13 rfl ?_
  refine g_iloadN 16 rfl C X0 at_15 rfl ?_
  refine g_bipush 18 rfl C X0 (16 : Int32) at_16 rfl ?_
  refine g_iushr 19 rfl C X0 at_18 ?_
  refine g_i2c 20 rfl C X0 at_19 ?_
  obtain ⟨v4, hv4⟩ : ∃ z : Int32, (((((p2).toUInt32 >>> ((16 : Int32) &&& 31).toUInt32).toInt32)).toUInt32.toUInt16.toUInt32.toInt32) = z := ⟨_, rfl⟩
  refine g_istore 22 rfl C X0 v4 hv4 #[.val (.int p0), .val (.int p1), .val (.int p2), .val (.int p3), .val (.int p4), .val (.int v1), .val (.int v2), .val (.int v3), .val (.int v4), .unset, .unset, .unset, .unset, .unset, .unset, .unset, .unset] at_20 rfl ?_
  refine g_iconst 23 rfl C X0 (4 : Int32) at_22 rfl ?_
  refine g_newP 25 rfl C X0 4 (by decide) 4 (by decide) (by decide) rfl (hw _ (List.mem_of_getElem? (i := 0) rfl)) e0 at_23 (by decide) (by decide) fun T5 h6 o7 g8 X9 e10 E11 B12 => ?_
  have gn13 : n0 ≤ o7 := by rw [g8]; exact Z0
  have Zs14 := Nat.le_trans Z0 E11.1
  refine g_astore 27 rfl C X9 #[.val (.int p0), .val (.int p1), .val (.int p2), .val (.int p3), .val (.int p4), .val (.int v1), .val (.int v2), .val (.int v3), .val (.int v4), .val (.ref o7), .unset, .unset, .unset, .unset, .unset, .unset, .unset] at_25 rfl rfl ?_
  refine g_aload 29 rfl C X9 at_27 rfl rfl ?_
  refine g_iconst 30 rfl C X9 (0 : Int32) at_29 rfl ?_
  refine g_iloadN 31 rfl C X9 at_30 rfl ?_
  refine g_iconst 32 rfl C X9 (3 : Int32) at_31 rfl ?_
  refine g_iand 33 rfl C X9 at_32 ?_
  refine g_iload 35 rfl C X9 at_33 rfl ?_
  refine g_iload 37 rfl C X9 at_35 rfl ?_
  refine g_iload 39 rfl C X9 at_37 rfl ?_
  refine g_iload 41 rfl C X9 at_39 rfl ?_
  have hq15 : 0 ≤ v1.toInt ∧ v1.toInt < 65536 := by
    have fr16 := rng32 v1
    have fr17 := rng32 p1
    have fo18 := c_i2c p1
    have fe19 : ((p1).toUInt32.toUInt16.toUInt32.toInt32).toInt = v1.toInt := congrArg Int32.toInt hv1
    omega
  have hq20 : 0 ≤ v2.toInt ∧ v2.toInt < 65536 := by
    have fr21 := rng32 v2
    have fr22 := rng32 p1
    have fc23 : (16 : Int32).toInt = 16 := rfl
    have fo24 : ((((p1).toUInt32 >>> ((16 : Int32) &&& 31).toUInt32).toInt32)).toInt = (p1.toInt % 4294967296) / 65536 := c_iushr p1 (16 : Int32) 16 (by decide) (by decide)
    have fo25 := c_i2c (((p1).toUInt32 >>> ((16 : Int32) &&& 31).toUInt32).toInt32)
    have fe26 : (((((p1).toUInt32 >>> ((16 : Int32) &&& 31).toUInt32).toInt32)).toUInt32.toUInt16.toUInt32.toInt32).toInt = v2.toInt := congrArg Int32.toInt hv2
    omega
  have hq27 : 0 ≤ v3.toInt ∧ v3.toInt < 65536 := by
    have fr28 := rng32 v3
    have fr29 := rng32 p2
    have fo30 := c_i2c p2
    have fe31 : ((p2).toUInt32.toUInt16.toUInt32.toInt32).toInt = v3.toInt := congrArg Int32.toInt hv3
    omega
  have hq32 : 0 ≤ v4.toInt ∧ v4.toInt < 65536 := by
    have fr33 := rng32 v4
    have fr34 := rng32 p2
    have fc35 : (16 : Int32).toInt = 16 := rfl
    have fo36 : ((((p2).toUInt32 >>> ((16 : Int32) &&& 31).toUInt32).toInt32)).toInt = (p2.toInt % 4294967296) / 65536 := c_iushr p2 (16 : Int32) 16 (by decide) (by decide)
    have fo37 := c_i2c (((p2).toUInt32 >>> ((16 : Int32) &&& 31).toUInt32).toInt32)
    have fe38 : (((((p2).toUInt32 >>> ((16 : Int32) &&& 31).toUInt32).toInt32)).toUInt32.toUInt16.toUInt32.toInt32).toInt = v4.toInt := congrArg Int32.toInt hv4
    omega
  refine g_callS 44 rfl C X9 (argsL := [(.int (p0 &&& (3 : Int32))), (.int v1), (.int v2), (.int v3), (.int v4)]) (hw _ (List.mem_of_getElem? (i := 1) rfl)) (hw _ (List.mem_of_getElem? (i := 2) rfl)) (hw _ (List.mem_of_getElem? (i := 4) rfl)) (hw _ (List.mem_of_getElem? (i := 3) rfl)) e10 (rm1 l Z a0 hw [] (p0 &&& (3 : Int32)) v1 v2 v3 v4 h6 n0 Zs14 hq15 hq20 hq27 hq32) (lenOf pd_27687286 rfl) (by decide) (by decide) (by decide) (by decide) rfl (W := 2) (Nat.le_of_eq rfl) (by decide) at_41 rfl fun r39 T40 Lc41 X42 hQ43 => ?_
  obtain ⟨r44, rfl, hs45, Nq46, eh47⟩ := hQ43
  have N48 := Fr.app N0 Nq46
  show Goes _ _ _ _ _ _ 44 _ [(.int r44), (.int (0 : Int32)), (.ref o7)]
  obtain ⟨w49, hw49⟩ : ∃ z : Int32, ((r44).toUInt32.toUInt16.toUInt32.toInt32) = z := ⟨_, rfl⟩
  refine g_castore 45 rfl C X42 eh47 B12 0 (by decide) (by decide) w49 hw49 at_44 N48 gn13 fun T50 h51 ls52 X53 e54 W55 B56 N57 => ?_
  have Zs58 := Nat.le_trans Zs14 (Nat.le_of_eq W55.size.symm)
  refine g_aload 47 rfl C X53 at_45 rfl rfl ?_
  refine g_iconst 48 rfl C X53 (1 : Int32) at_47 rfl ?_
  refine g_iloadN 49 rfl C X53 at_48 rfl ?_
  refine g_iconst 50 rfl C X53 (2 : Int32) at_49 rfl ?_
  refine g_iushr 51 rfl C X53 at_50 ?_
  refine g_iconst 52 rfl C X53 (3 : Int32) at_51 rfl ?_
  refine g_iand 53 rfl C X53 at_52 ?_
  refine g_iload 55 rfl C X53 at_53 rfl ?_
  refine g_iload 57 rfl C X53 at_55 rfl ?_
  refine g_iload 59 rfl C X53 at_57 rfl ?_
  refine g_iload 61 rfl C X53 at_59 rfl ?_
  have hq59 : 0 ≤ v1.toInt ∧ v1.toInt < 65536 := by
    have fr60 := rng32 v1
    have fr61 := rng32 p1
    have fo62 := c_i2c p1
    have fe63 : ((p1).toUInt32.toUInt16.toUInt32.toInt32).toInt = v1.toInt := congrArg Int32.toInt hv1
    omega
  have hq64 : 0 ≤ v2.toInt ∧ v2.toInt < 65536 := by
    have fr65 := rng32 v2
    have fr66 := rng32 p1
    have fc67 : (16 : Int32).toInt = 16 := rfl
    have fo68 : ((((p1).toUInt32 >>> ((16 : Int32) &&& 31).toUInt32).toInt32)).toInt = (p1.toInt % 4294967296) / 65536 := c_iushr p1 (16 : Int32) 16 (by decide) (by decide)
    have fo69 := c_i2c (((p1).toUInt32 >>> ((16 : Int32) &&& 31).toUInt32).toInt32)
    have fe70 : (((((p1).toUInt32 >>> ((16 : Int32) &&& 31).toUInt32).toInt32)).toUInt32.toUInt16.toUInt32.toInt32).toInt = v2.toInt := congrArg Int32.toInt hv2
    omega
  have hq71 : 0 ≤ v3.toInt ∧ v3.toInt < 65536 := by
    have fr72 := rng32 v3
    have fr73 := rng32 p2
    have fo74 := c_i2c p2
    have fe75 : ((p2).toUInt32.toUInt16.toUInt32.toInt32).toInt = v3.toInt := congrArg Int32.toInt hv3
    omega
  have hq76 : 0 ≤ v4.toInt ∧ v4.toInt < 65536 := by
    have fr77 := rng32 v4
    have fr78 := rng32 p2
    have fc79 : (16 : Int32).toInt = 16 := rfl
    have fo80 : ((((p2).toUInt32 >>> ((16 : Int32) &&& 31).toUInt32).toInt32)).toInt = (p2.toInt % 4294967296) / 65536 := c_iushr p2 (16 : Int32) 16 (by decide) (by decide)
    have fo81 := c_i2c (((p2).toUInt32 >>> ((16 : Int32) &&& 31).toUInt32).toInt32)
    have fe82 : (((((p2).toUInt32 >>> ((16 : Int32) &&& 31).toUInt32).toInt32)).toUInt32.toUInt16.toUInt32.toInt32).toInt = v4.toInt := congrArg Int32.toInt hv4
    omega
  refine g_callS 64 rfl C X53 (argsL := [(.int ((((p0).toUInt32 >>> ((2 : Int32) &&& 31).toUInt32).toInt32) &&& (3 : Int32))), (.int v1), (.int v2), (.int v3), (.int v4)]) (hw _ (List.mem_of_getElem? (i := 1) rfl)) (hw _ (List.mem_of_getElem? (i := 2) rfl)) (hw _ (List.mem_of_getElem? (i := 4) rfl)) (hw _ (List.mem_of_getElem? (i := 3) rfl)) e54 (rm1 l Z a0 hw [] ((((p0).toUInt32 >>> ((2 : Int32) &&& 31).toUInt32).toInt32) &&& (3 : Int32)) v1 v2 v3 v4 h51 n0 Zs58 hq59 hq64 hq71 hq76) (lenOf pd_27687286 rfl) (by decide) (by decide) (by decide) (by decide) rfl (W := 2) (Nat.le_of_eq rfl) (by decide) at_61 rfl fun r83 T84 Lc85 X86 hQ87 => ?_
  obtain ⟨r88, rfl, hs89, Nq90, eh91⟩ := hQ87
  have N92 := Fr.app N57 Nq90
  show Goes _ _ _ _ _ _ 64 _ [(.int r88), (.int (1 : Int32)), (.ref o7)]
  obtain ⟨w93, hw93⟩ : ∃ z : Int32, ((r88).toUInt32.toUInt16.toUInt32.toInt32) = z := ⟨_, rfl⟩
  refine g_castore 65 rfl C X86 eh91 B56 1 (by decide) (by decide) w93 hw93 at_64 N92 gn13 fun T94 h95 ls96 X97 e98 W99 B100 N101 => ?_
  have Zs102 := Nat.le_trans Zs58 (Nat.le_of_eq W99.size.symm)
  refine g_aload 67 rfl C X97 at_65 rfl rfl ?_
  refine g_iconst 68 rfl C X97 (2 : Int32) at_67 rfl ?_
  refine g_iloadN 69 rfl C X97 at_68 rfl ?_
  refine g_iconst 70 rfl C X97 (4 : Int32) at_69 rfl ?_
  refine g_iushr 71 rfl C X97 at_70 ?_
  refine g_iconst 72 rfl C X97 (3 : Int32) at_71 rfl ?_
  refine g_iand 73 rfl C X97 at_72 ?_
  refine g_iload 75 rfl C X97 at_73 rfl ?_
  refine g_iload 77 rfl C X97 at_75 rfl ?_
  refine g_iload 79 rfl C X97 at_77 rfl ?_
  refine g_iload 81 rfl C X97 at_79 rfl ?_
  have hq103 : 0 ≤ v1.toInt ∧ v1.toInt < 65536 := by
    have fr104 := rng32 v1
    have fr105 := rng32 p1
    have fo106 := c_i2c p1
    have fe107 : ((p1).toUInt32.toUInt16.toUInt32.toInt32).toInt = v1.toInt := congrArg Int32.toInt hv1
    omega
  have hq108 : 0 ≤ v2.toInt ∧ v2.toInt < 65536 := by
    have fr109 := rng32 v2
    have fr110 := rng32 p1
    have fc111 : (16 : Int32).toInt = 16 := rfl
    have fo112 : ((((p1).toUInt32 >>> ((16 : Int32) &&& 31).toUInt32).toInt32)).toInt = (p1.toInt % 4294967296) / 65536 := c_iushr p1 (16 : Int32) 16 (by decide) (by decide)
    have fo113 := c_i2c (((p1).toUInt32 >>> ((16 : Int32) &&& 31).toUInt32).toInt32)
    have fe114 : (((((p1).toUInt32 >>> ((16 : Int32) &&& 31).toUInt32).toInt32)).toUInt32.toUInt16.toUInt32.toInt32).toInt = v2.toInt := congrArg Int32.toInt hv2
    omega
  have hq115 : 0 ≤ v3.toInt ∧ v3.toInt < 65536 := by
    have fr116 := rng32 v3
    have fr117 := rng32 p2
    have fo118 := c_i2c p2
    have fe119 : ((p2).toUInt32.toUInt16.toUInt32.toInt32).toInt = v3.toInt := congrArg Int32.toInt hv3
    omega
  have hq120 : 0 ≤ v4.toInt ∧ v4.toInt < 65536 := by
    have fr121 := rng32 v4
    have fr122 := rng32 p2
    have fc123 : (16 : Int32).toInt = 16 := rfl
    have fo124 : ((((p2).toUInt32 >>> ((16 : Int32) &&& 31).toUInt32).toInt32)).toInt = (p2.toInt % 4294967296) / 65536 := c_iushr p2 (16 : Int32) 16 (by decide) (by decide)
    have fo125 := c_i2c (((p2).toUInt32 >>> ((16 : Int32) &&& 31).toUInt32).toInt32)
    have fe126 : (((((p2).toUInt32 >>> ((16 : Int32) &&& 31).toUInt32).toInt32)).toUInt32.toUInt16.toUInt32.toInt32).toInt = v4.toInt := congrArg Int32.toInt hv4
    omega
  refine g_callS 84 rfl C X97 (argsL := [(.int ((((p0).toUInt32 >>> ((4 : Int32) &&& 31).toUInt32).toInt32) &&& (3 : Int32))), (.int v1), (.int v2), (.int v3), (.int v4)]) (hw _ (List.mem_of_getElem? (i := 1) rfl)) (hw _ (List.mem_of_getElem? (i := 2) rfl)) (hw _ (List.mem_of_getElem? (i := 4) rfl)) (hw _ (List.mem_of_getElem? (i := 3) rfl)) e98 (rm1 l Z a0 hw [] ((((p0).toUInt32 >>> ((4 : Int32) &&& 31).toUInt32).toInt32) &&& (3 : Int32)) v1 v2 v3 v4 h95 n0 Zs102 hq103 hq108 hq115 hq120) (lenOf pd_27687286 rfl) (by decide) (by decide) (by decide) (by decide) rfl (W := 2) (Nat.le_of_eq rfl) (by decide) at_81 rfl fun r127 T128 Lc129 X130 hQ131 => ?_
  obtain ⟨r132, rfl, hs133, Nq134, eh135⟩ := hQ131
  have N136 := Fr.app N101 Nq134
  show Goes _ _ _ _ _ _ 84 _ [(.int r132), (.int (2 : Int32)), (.ref o7)]
  obtain ⟨w137, hw137⟩ : ∃ z : Int32, ((r132).toUInt32.toUInt16.toUInt32.toInt32) = z := ⟨_, rfl⟩
  refine g_castore 85 rfl C X130 eh135 B100 2 (by decide) (by decide) w137 hw137 at_84 N136 gn13 fun T138 h139 ls140 X141 e142 W143 B144 N145 => ?_
  have Zs146 := Nat.le_trans Zs102 (Nat.le_of_eq W143.size.symm)
  refine g_aload 87 rfl C X141 at_85 rfl rfl ?_
  refine g_iconst 88 rfl C X141 (3 : Int32) at_87 rfl ?_
  refine g_iloadN 89 rfl C X141 at_88 rfl ?_
  refine g_bipush 91 rfl C X141 (6 : Int32) at_89 rfl ?_
  refine g_iushr 92 rfl C X141 at_91 ?_
  refine g_iconst 93 rfl C X141 (3 : Int32) at_92 rfl ?_
  refine g_iand 94 rfl C X141 at_93 ?_
  refine g_iload 96 rfl C X141 at_94 rfl ?_
  refine g_iload 98 rfl C X141 at_96 rfl ?_
  refine g_iload 100 rfl C X141 at_98 rfl ?_
  refine g_iload 102 rfl C X141 at_100 rfl ?_
  have hq147 : 0 ≤ v1.toInt ∧ v1.toInt < 65536 := by
    have fr148 := rng32 v1
    have fr149 := rng32 p1
    have fo150 := c_i2c p1
    have fe151 : ((p1).toUInt32.toUInt16.toUInt32.toInt32).toInt = v1.toInt := congrArg Int32.toInt hv1
    omega
  have hq152 : 0 ≤ v2.toInt ∧ v2.toInt < 65536 := by
    have fr153 := rng32 v2
    have fr154 := rng32 p1
    have fc155 : (16 : Int32).toInt = 16 := rfl
    have fo156 : ((((p1).toUInt32 >>> ((16 : Int32) &&& 31).toUInt32).toInt32)).toInt = (p1.toInt % 4294967296) / 65536 := c_iushr p1 (16 : Int32) 16 (by decide) (by decide)
    have fo157 := c_i2c (((p1).toUInt32 >>> ((16 : Int32) &&& 31).toUInt32).toInt32)
    have fe158 : (((((p1).toUInt32 >>> ((16 : Int32) &&& 31).toUInt32).toInt32)).toUInt32.toUInt16.toUInt32.toInt32).toInt = v2.toInt := congrArg Int32.toInt hv2
    omega
  have hq159 : 0 ≤ v3.toInt ∧ v3.toInt < 65536 := by
    have fr160 := rng32 v3
    have fr161 := rng32 p2
    have fo162 := c_i2c p2
    have fe163 : ((p2).toUInt32.toUInt16.toUInt32.toInt32).toInt = v3.toInt := congrArg Int32.toInt hv3
    omega
  have hq164 : 0 ≤ v4.toInt ∧ v4.toInt < 65536 := by
    have fr165 := rng32 v4
    have fr166 := rng32 p2
    have fc167 : (16 : Int32).toInt = 16 := rfl
    have fo168 : ((((p2).toUInt32 >>> ((16 : Int32) &&& 31).toUInt32).toInt32)).toInt = (p2.toInt % 4294967296) / 65536 := c_iushr p2 (16 : Int32) 16 (by decide) (by decide)
    have fo169 := c_i2c (((p2).toUInt32 >>> ((16 : Int32) &&& 31).toUInt32).toInt32)
    have fe170 : (((((p2).toUInt32 >>> ((16 : Int32) &&& 31).toUInt32).toInt32)).toUInt32.toUInt16.toUInt32.toInt32).toInt = v4.toInt := congrArg Int32.toInt hv4
    omega
  refine g_callS 105 rfl C X141 (argsL := [(.int ((((p0).toUInt32 >>> ((6 : Int32) &&& 31).toUInt32).toInt32) &&& (3 : Int32))), (.int v1), (.int v2), (.int v3), (.int v4)]) (hw _ (List.mem_of_getElem? (i := 1) rfl)) (hw _ (List.mem_of_getElem? (i := 2) rfl)) (hw _ (List.mem_of_getElem? (i := 4) rfl)) (hw _ (List.mem_of_getElem? (i := 3) rfl)) e142 (rm1 l Z a0 hw [] ((((p0).toUInt32 >>> ((6 : Int32) &&& 31).toUInt32).toInt32) &&& (3 : Int32)) v1 v2 v3 v4 h139 n0 Zs146 hq147 hq152 hq159 hq164) (lenOf pd_27687286 rfl) (by decide) (by decide) (by decide) (by decide) rfl (W := 2) (Nat.le_of_eq rfl) (by decide) at_102 rfl fun r171 T172 Lc173 X174 hQ175 => ?_
  obtain ⟨r176, rfl, hs177, Nq178, eh179⟩ := hQ175
  have N180 := Fr.app N145 Nq178
  show Goes _ _ _ _ _ _ 105 _ [(.int r176), (.int (3 : Int32)), (.ref o7)]
  obtain ⟨w181, hw181⟩ : ∃ z : Int32, ((r176).toUInt32.toUInt16.toUInt32.toInt32) = z := ⟨_, rfl⟩
  refine g_castore 106 rfl C X174 eh179 B144 3 (by decide) (by decide) w181 hw181 at_105 N180 gn13 fun T182 h183 ls184 X185 e186 W187 B188 N189 => ?_
  have Zs190 := Nat.le_trans Zs146 (Nat.le_of_eq W187.size.symm)
  refine g_iloadN 107 rfl C X185 at_106 rfl ?_
  refine g_bipush 109 rfl C X185 (8 : Int32) at_107 rfl ?_
  refine g_iushr 110 rfl C X185 at_109 ?_
  refine g_bipush 112 rfl C X185 (7 : Int32) at_110 rfl ?_
  refine g_iand 113 rfl C X185 at_112 ?_
  obtain ⟨v191, hv191⟩ : ∃ z : Int32, ((((p0).toUInt32 >>> ((8 : Int32) &&& 31).toUInt32).toInt32) &&& (7 : Int32)) = z := ⟨_, rfl⟩
  refine g_istore 115 rfl C X185 v191 hv191 #[.val (.int p0), .val (.int p1), .val (.int p2), .val (.int p3), .val (.int p4), .val (.int v1), .val (.int v2), .val (.int v3), .val (.int v4), .val (.ref o7), .val (.int v191), .unset, .unset, .unset, .unset, .unset, .unset] at_113 rfl ?_
  refine g_iload 117 rfl C X185 at_115 rfl ?_
  refine g_iconst 118 rfl C X185 (4 : Int32) at_117 rfl ?_
  by_cases hb192 : v191.toInt < (4 : Int32).toInt
  · skip
    refine g_icmp_ge_f 121 rfl C X185 at_118 hb192 ?_
    refine g_iload 123 rfl C X185 at_121 rfl ?_
    refine g_iload 125 rfl C X185 at_123 rfl ?_
    refine g_iload 127 rfl C X185 at_125 rfl ?_
    refine g_iload 129 rfl C X185 at_127 rfl ?_
    refine g_iload 131 rfl C X185 at_129 rfl ?_
    have hq193 : 0 ≤ v1.toInt ∧ v1.toInt < 65536 := by
      have fr194 := rng32 v1
      have fr195 := rng32 p1
      have fo196 := c_i2c p1
      have fe197 : ((p1).toUInt32.toUInt16.toUInt32.toInt32).toInt = v1.toInt := congrArg Int32.toInt hv1
      omega
    have hq198 : 0 ≤ v2.toInt ∧ v2.toInt < 65536 := by
      have fr199 := rng32 v2
      have fr200 := rng32 p1
      have fc201 : (16 : Int32).toInt = 16 := rfl
      have fo202 : ((((p1).toUInt32 >>> ((16 : Int32) &&& 31).toUInt32).toInt32)).toInt = (p1.toInt % 4294967296) / 65536 := c_iushr p1 (16 : Int32) 16 (by decide) (by decide)
      have fo203 := c_i2c (((p1).toUInt32 >>> ((16 : Int32) &&& 31).toUInt32).toInt32)
      have fe204 : (((((p1).toUInt32 >>> ((16 : Int32) &&& 31).toUInt32).toInt32)).toUInt32.toUInt16.toUInt32.toInt32).toInt = v2.toInt := congrArg Int32.toInt hv2
      omega
    have hq205 : 0 ≤ v3.toInt ∧ v3.toInt < 65536 := by
      have fr206 := rng32 v3
      have fr207 := rng32 p2
      have fo208 := c_i2c p2
      have fe209 : ((p2).toUInt32.toUInt16.toUInt32.toInt32).toInt = v3.toInt := congrArg Int32.toInt hv3
      omega
    have hq210 : 0 ≤ v4.toInt ∧ v4.toInt < 65536 := by
      have fr211 := rng32 v4
      have fr212 := rng32 p2
      have fc213 : (16 : Int32).toInt = 16 := rfl
      have fo214 : ((((p2).toUInt32 >>> ((16 : Int32) &&& 31).toUInt32).toInt32)).toInt = (p2.toInt % 4294967296) / 65536 := c_iushr p2 (16 : Int32) 16 (by decide) (by decide)
      have fo215 := c_i2c (((p2).toUInt32 >>> ((16 : Int32) &&& 31).toUInt32).toInt32)
      have fe216 : (((((p2).toUInt32 >>> ((16 : Int32) &&& 31).toUInt32).toInt32)).toUInt32.toUInt16.toUInt32.toInt32).toInt = v4.toInt := congrArg Int32.toInt hv4
      omega
    refine g_callS 134 rfl C X185 (argsL := [(.int v191), (.int v1), (.int v2), (.int v3), (.int v4)]) (hw _ (List.mem_of_getElem? (i := 1) rfl)) (hw _ (List.mem_of_getElem? (i := 2) rfl)) (hw _ (List.mem_of_getElem? (i := 4) rfl)) (hw _ (List.mem_of_getElem? (i := 3) rfl)) e186 (rm1 l Z a0 hw [] v191 v1 v2 v3 v4 h183 n0 Zs190 hq193 hq198 hq205 hq210) (lenOf pd_27687286 rfl) (by decide) (by decide) (by decide) (by decide) rfl (W := 0) (Nat.le_of_eq rfl) (by decide) at_131 rfl fun r217 T218 Lc219 X220 hQ221 => ?_
    obtain ⟨r222, rfl, hs223, Nq224, eh225⟩ := hQ221
    have N226 := Fr.app N189 Nq224
    show Goes _ _ _ _ _ _ 134 _ [(.int r222)]
    refine g_istore 136 rfl C X220 r222 rfl #[.val (.int p0), .val (.int p1), .val (.int p2), .val (.int p3), .val (.int p4), .val (.int v1), .val (.int v2), .val (.int v3), .val (.int v4), .val (.ref o7), .val (.int v191), .val (.int r222), .unset, .unset, .unset, .unset, .unset] at_134 rfl ?_
    refine g_goto 144 C X220 at_136 (by decide) (by decide) ?_
    refine g_iconst 145 rfl C X220 (4 : Int32) at_144 rfl ?_
    refine g_newP 147 rfl C X220 4 (by decide) 4 (by decide) (by decide) rfl (hw _ (List.mem_of_getElem? (i := 5) rfl)) eh225 at_145 (by decide) (by decide) fun T227 h228 o229 g230 X231 e232 E233 B234 => ?_
    have ne235 : o7 ≠ o229 := by rw [g230]; exact Nat.ne_of_lt B188.lt
    have gn236 : n0 ≤ o229 := by rw [g230]; exact Zs190
    have F237 := B188.ext E233
    have Zs238 := Nat.le_trans Zs190 E233.1
    refine g_astore 149 rfl C X231 #[.val (.int p0), .val (.int p1), .val (.int p2), .val (.int p3), .val (.int p4), .val (.int v1), .val (.int v2), .val (.int v3), .val (.int v4), .val (.ref o7), .val (.int v191), .val (.int r222), .val (.ref o229), .unset, .unset, .unset, .unset] at_147 rfl rfl ?_
    refine g_aload 151 rfl C X231 at_149 rfl rfl ?_
    refine g_iconst 152 rfl C X231 (0 : Int32) at_151 rfl ?_
    refine g_aload 154 rfl C X231 at_152 rfl rfl ?_
    refine g_aload 156 rfl C X231 at_154 rfl rfl ?_
    refine g_iconst 157 rfl C X231 (1 : Int32) at_156 rfl ?_
    refine g_iconst 158 rfl C X231 (0 : Int32) at_157 rfl ?_
    refine g_callS 161 rfl C X231 (argsL := [(.ref o7), (.ref o7), (.int (1 : Int32)), (.int (0 : Int32))]) (hw _ (List.mem_of_getElem? (i := 6) rfl)) (hw _ (List.mem_of_getElem? (i := 7) rfl)) (hw _ (List.mem_of_getElem? (i := 8) rfl)) (hw _ (List.mem_of_getElem? (i := 3) rfl)) e232 (rm2_1_0 l Z a0 hw [] o7 o7 (upd (upd (upd (upd (fun _ => 0) 0 w49) 1 w93) 2 w137) 3 w181) (upd (upd (upd (upd (fun _ => 0) 0 w49) 1 w93) 2 w137) 3 w181) w49 w93 w137 w181 w49 w93 w137 w181 h228 n0 Zs238 F237 F237 ((upd_ne (by omega)).trans ((upd_ne (by omega)).trans ((upd_ne (by omega)).trans (upd_same (by omega))))) ((upd_ne (by omega)).trans ((upd_ne (by omega)).trans (upd_same (by omega)))) ((upd_ne (by omega)).trans (upd_same (by omega))) (upd_same (by omega)) ((upd_ne (by omega)).trans ((upd_ne (by omega)).trans ((upd_ne (by omega)).trans (upd_same (by omega))))) ((upd_ne (by omega)).trans ((upd_ne (by omega)).trans (upd_same (by omega)))) ((upd_ne (by omega)).trans (upd_same (by omega))) (upd_same (by omega))) (lenOf pd_50052781 rfl) (by decide) (by decide) (by decide) (by decide) rfl (W := 2) (Nat.le_of_eq rfl) (by decide) at_158 rfl fun r239 T240 Lc241 X242 hQ243 => ?_
    obtain ⟨r244, rfl, hs245, Nq246, eh247⟩ := hQ243
    have hq248 : 0 ≤ r244.toInt ∧ r244.toInt ≤ 0 := by
      omega
    have N249 := Fr.app N226 Nq246
    show Goes _ _ _ _ _ _ 161 _ [(.int r244), (.int (0 : Int32)), (.ref o229)]
    refine g_iastore 162 rfl C X242 eh247 B234 0 (by decide) (by decide) r244 rfl at_161 N249 gn236 fun T250 h251 ls252 X253 e254 W255 B256 N257 => ?_
    have F258 := F237.other W255 ne235
    have Zs259 := Nat.le_trans Zs238 (Nat.le_of_eq W255.size.symm)
    refine g_aload 164 rfl C X253 at_162 rfl rfl ?_
    refine g_iconst 165 rfl C X253 (1 : Int32) at_164 rfl ?_
    refine g_aload 167 rfl C X253 at_165 rfl rfl ?_
    refine g_aload 169 rfl C X253 at_167 rfl rfl ?_
    refine g_iconst 170 rfl C X253 (2 : Int32) at_169 rfl ?_
    refine g_iconst 171 rfl C X253 (1 : Int32) at_170 rfl ?_
    refine g_callS 174 rfl C X253 (argsL := [(.ref o7), (.ref o7), (.int (2 : Int32)), (.int (1 : Int32))]) (hw _ (List.mem_of_getElem? (i := 6) rfl)) (hw _ (List.mem_of_getElem? (i := 7) rfl)) (hw _ (List.mem_of_getElem? (i := 8) rfl)) (hw _ (List.mem_of_getElem? (i := 3) rfl)) e254 (rm2_2_1 l Z a0 hw [] o7 o7 (upd (upd (upd (upd (fun _ => 0) 0 w49) 1 w93) 2 w137) 3 w181) (upd (upd (upd (upd (fun _ => 0) 0 w49) 1 w93) 2 w137) 3 w181) w49 w93 w137 w181 w49 w93 w137 w181 h251 n0 Zs259 F258 F258 ((upd_ne (by omega)).trans ((upd_ne (by omega)).trans ((upd_ne (by omega)).trans (upd_same (by omega))))) ((upd_ne (by omega)).trans ((upd_ne (by omega)).trans (upd_same (by omega)))) ((upd_ne (by omega)).trans (upd_same (by omega))) (upd_same (by omega)) ((upd_ne (by omega)).trans ((upd_ne (by omega)).trans ((upd_ne (by omega)).trans (upd_same (by omega))))) ((upd_ne (by omega)).trans ((upd_ne (by omega)).trans (upd_same (by omega)))) ((upd_ne (by omega)).trans (upd_same (by omega))) (upd_same (by omega))) (lenOf pd_50052781 rfl) (by decide) (by decide) (by decide) (by decide) rfl (W := 2) (Nat.le_of_eq rfl) (by decide) at_171 rfl fun r260 T261 Lc262 X263 hQ264 => ?_
    obtain ⟨r265, rfl, hs266, Nq267, eh268⟩ := hQ264
    have hq269 : 0 ≤ r265.toInt ∧ r265.toInt ≤ 1 := by
      clear hs245
      omega
    have N270 := Fr.app N257 Nq267
    show Goes _ _ _ _ _ _ 174 _ [(.int r265), (.int (1 : Int32)), (.ref o229)]
    refine g_iastore 175 rfl C X263 eh268 B256 1 (by decide) (by decide) r265 rfl at_174 N270 gn236 fun T271 h272 ls273 X274 e275 W276 B277 N278 => ?_
    have F279 := F258.other W276 ne235
    have Zs280 := Nat.le_trans Zs259 (Nat.le_of_eq W276.size.symm)
    refine g_aload 177 rfl C X274 at_175 rfl rfl ?_
    refine g_iconst 178 rfl C X274 (2 : Int32) at_177 rfl ?_
    refine g_aload 180 rfl C X274 at_178 rfl rfl ?_
    refine g_aload 182 rfl C X274 at_180 rfl rfl ?_
    refine g_iconst 183 rfl C X274 (3 : Int32) at_182 rfl ?_
    refine g_iconst 184 rfl C X274 (2 : Int32) at_183 rfl ?_
    refine g_callS 187 rfl C X274 (argsL := [(.ref o7), (.ref o7), (.int (3 : Int32)), (.int (2 : Int32))]) (hw _ (List.mem_of_getElem? (i := 6) rfl)) (hw _ (List.mem_of_getElem? (i := 7) rfl)) (hw _ (List.mem_of_getElem? (i := 8) rfl)) (hw _ (List.mem_of_getElem? (i := 3) rfl)) e275 (rm2_3_2 l Z a0 hw [] o7 o7 (upd (upd (upd (upd (fun _ => 0) 0 w49) 1 w93) 2 w137) 3 w181) (upd (upd (upd (upd (fun _ => 0) 0 w49) 1 w93) 2 w137) 3 w181) w49 w93 w137 w181 w49 w93 w137 w181 h272 n0 Zs280 F279 F279 ((upd_ne (by omega)).trans ((upd_ne (by omega)).trans ((upd_ne (by omega)).trans (upd_same (by omega))))) ((upd_ne (by omega)).trans ((upd_ne (by omega)).trans (upd_same (by omega)))) ((upd_ne (by omega)).trans (upd_same (by omega))) (upd_same (by omega)) ((upd_ne (by omega)).trans ((upd_ne (by omega)).trans ((upd_ne (by omega)).trans (upd_same (by omega))))) ((upd_ne (by omega)).trans ((upd_ne (by omega)).trans (upd_same (by omega)))) ((upd_ne (by omega)).trans (upd_same (by omega))) (upd_same (by omega))) (lenOf pd_50052781 rfl) (by decide) (by decide) (by decide) (by decide) rfl (W := 2) (Nat.le_of_eq rfl) (by decide) at_184 rfl fun r281 T282 Lc283 X284 hQ285 => ?_
    obtain ⟨r286, rfl, hs287, Nq288, eh289⟩ := hQ285
    have hq290 : 0 ≤ r286.toInt ∧ r286.toInt ≤ 2 := by
      clear hs245 hs266
      omega
    have N291 := Fr.app N278 Nq288
    show Goes _ _ _ _ _ _ 187 _ [(.int r286), (.int (2 : Int32)), (.ref o229)]
    refine g_iastore 188 rfl C X284 eh289 B277 2 (by decide) (by decide) r286 rfl at_187 N291 gn236 fun T292 h293 ls294 X295 e296 W297 B298 N299 => ?_
    have F300 := F279.other W297 ne235
    have Zs301 := Nat.le_trans Zs280 (Nat.le_of_eq W297.size.symm)
    refine g_aload 190 rfl C X295 at_188 rfl rfl ?_
    refine g_iconst 191 rfl C X295 (3 : Int32) at_190 rfl ?_
    refine g_aload 193 rfl C X295 at_191 rfl rfl ?_
    refine g_aload 195 rfl C X295 at_193 rfl rfl ?_
    refine g_iconst 196 rfl C X295 (4 : Int32) at_195 rfl ?_
    refine g_iconst 197 rfl C X295 (3 : Int32) at_196 rfl ?_
    refine g_callS 200 rfl C X295 (argsL := [(.ref o7), (.ref o7), (.int (4 : Int32)), (.int (3 : Int32))]) (hw _ (List.mem_of_getElem? (i := 6) rfl)) (hw _ (List.mem_of_getElem? (i := 7) rfl)) (hw _ (List.mem_of_getElem? (i := 8) rfl)) (hw _ (List.mem_of_getElem? (i := 3) rfl)) e296 (rm2_4_3 l Z a0 hw [] o7 o7 (upd (upd (upd (upd (fun _ => 0) 0 w49) 1 w93) 2 w137) 3 w181) (upd (upd (upd (upd (fun _ => 0) 0 w49) 1 w93) 2 w137) 3 w181) w49 w93 w137 w181 w49 w93 w137 w181 h293 n0 Zs301 F300 F300 ((upd_ne (by omega)).trans ((upd_ne (by omega)).trans ((upd_ne (by omega)).trans (upd_same (by omega))))) ((upd_ne (by omega)).trans ((upd_ne (by omega)).trans (upd_same (by omega)))) ((upd_ne (by omega)).trans (upd_same (by omega))) (upd_same (by omega)) ((upd_ne (by omega)).trans ((upd_ne (by omega)).trans ((upd_ne (by omega)).trans (upd_same (by omega))))) ((upd_ne (by omega)).trans ((upd_ne (by omega)).trans (upd_same (by omega)))) ((upd_ne (by omega)).trans (upd_same (by omega))) (upd_same (by omega))) (lenOf pd_50052781 rfl) (by decide) (by decide) (by decide) (by decide) rfl (W := 2) (Nat.le_of_eq rfl) (by decide) at_197 rfl fun r302 T303 Lc304 X305 hQ306 => ?_
    obtain ⟨r307, rfl, hs308, Nq309, eh310⟩ := hQ306
    have hq311 : 0 ≤ r307.toInt ∧ r307.toInt ≤ 3 := by
      clear hs245 hs266 hs287
      omega
    have N312 := Fr.app N299 Nq309
    show Goes _ _ _ _ _ _ 200 _ [(.int r307), (.int (3 : Int32)), (.ref o229)]
    refine g_iastore 201 rfl C X305 eh310 B298 3 (by decide) (by decide) r307 rfl at_200 N312 gn236 fun T313 h314 ls315 X316 e317 W318 B319 N320 => ?_
    have F321 := F300.other W318 ne235
    have Zs322 := Nat.le_trans Zs301 (Nat.le_of_eq W318.size.symm)
    refine g_iloadN 202 rfl C X316 at_201 rfl ?_
    refine g_iconst 203 rfl C X316 (3 : Int32) at_202 rfl ?_
    refine g_iand 204 rfl C X316 at_203 ?_
    obtain ⟨v323, hv323⟩ : ∃ z : Int32, (p3 &&& (3 : Int32)) = z := ⟨_, rfl⟩
    refine g_istore 206 rfl C X316 v323 hv323 #[.val (.int p0), .val (.int p1), .val (.int p2), .val (.int p3), .val (.int p4), .val (.int v1), .val (.int v2), .val (.int v3), .val (.int v4), .val (.ref o7), .val (.int v191), .val (.int r222), .val (.ref o229), .val (.int v323), .unset, .unset, .unset] at_204 rfl ?_
    have hq324 : v323.toInt = 0 ∨ v323.toInt = 1 ∨ v323.toInt = 2 ∨ v323.toInt = 3 := by
      have fr325 := rng32 v323
      have fr326 := rng32 p3
      have fc327 : (3 : Int32).toInt = 3 := rfl
      have fo328 : (p3 &&& (3 : Int32)).toInt = p3.toInt % 4 := c_mask p3 (3 : Int32) 2 (by decide) (by decide)
      have fe329 : (p3 &&& (3 : Int32)).toInt = v323.toInt := congrArg Int32.toInt hv323
      omega
    have hc330 : v323 = (0 : Int32) ∨ v323 = (1 : Int32) ∨ v323 = (2 : Int32) ∨ v323 = (3 : Int32) := by
      rcases hq324 with q | q | q | q
      · exact (Or.inl (own_eq q))
      · exact (Or.inr (Or.inl (own_eq q)))
      · exact (Or.inr (Or.inr (Or.inl (own_eq q))))
      · exact (Or.inr (Or.inr (Or.inr (own_eq q))))
    clear hq324
    rcases hc330 with rfl | rfl | rfl | rfl
    · skip
      refine g_iconst 207 rfl C X316 (4 : Int32) at_206 rfl ?_
      refine g_newP 209 rfl C X316 4 (by decide) 4 (by decide) (by decide) rfl (hw _ (List.mem_of_getElem? (i := 0) rfl)) e317 at_207 (by decide) (by decide) fun T331 h332 o333 g334 X335 e336 E337 B338 => ?_
      have ne339 : o229 ≠ o333 := by rw [g334]; exact Nat.ne_of_lt B319.lt
      have ne340 : o7 ≠ o333 := by rw [g334]; exact Nat.ne_of_lt F321.lt
      have gn341 : n0 ≤ o333 := by rw [g334]; exact Zs322
      have F342 := F321.ext E337
      have F343 := B319.ext E337
      have Zs344 := Nat.le_trans Zs322 E337.1
      refine g_astore 211 rfl C X335 #[.val (.int p0), .val (.int p1), .val (.int p2), .val (.int p3), .val (.int p4), .val (.int v1), .val (.int v2), .val (.int v3), .val (.int v4), .val (.ref o7), .val (.int v191), .val (.int r222), .val (.ref o229), .val (.int (0 : Int32)), .val (.ref o333), .unset, .unset] at_209 rfl rfl ?_
      refine g_aload 213 rfl C X335 at_211 rfl rfl ?_
      refine g_iconst 214 rfl C X335 (0 : Int32) at_213 rfl ?_
      refine g_aload 216 rfl C X335 at_214 rfl rfl ?_
      refine g_iconst 217 rfl C X335 (0 : Int32) at_216 rfl ?_
      refine g_caload 218 rfl C X335 e336 F342 0 (by decide) (by decide) w49 ((upd_ne (by omega)).trans ((upd_ne (by omega)).trans ((upd_ne (by omega)).trans (upd_same (by omega))))) at_217 ?_
      obtain ⟨w345, hw345⟩ : ∃ z : Int32, ((w49).toUInt32.toUInt16.toUInt32.toInt32) = z := ⟨_, rfl⟩
      refine g_castore 219 rfl C X335 e336 B338 0 (by decide) (by decide) w345 hw345 at_218 N320 gn341 fun T346 h347 ls348 X349 e350 W351 B352 N353 => ?_
      have F354 := F342.other W351 ne340
      have F355 := F343.other W351 ne339
      have Zs356 := Nat.le_trans Zs344 (Nat.le_of_eq W351.size.symm)
      refine g_aload 221 rfl C X349 at_219 rfl rfl ?_
      refine g_iconst 222 rfl C X349 (1 : Int32) at_221 rfl ?_
      refine g_aload 224 rfl C X349 at_222 rfl rfl ?_
      refine g_iconst 225 rfl C X349 (1 : Int32) at_224 rfl ?_
      refine g_caload 226 rfl C X349 e350 F354 1 (by decide) (by decide) w93 ((upd_ne (by omega)).trans ((upd_ne (by omega)).trans (upd_same (by omega)))) at_225 ?_
      obtain ⟨w357, hw357⟩ : ∃ z : Int32, ((w93).toUInt32.toUInt16.toUInt32.toInt32) = z := ⟨_, rfl⟩
      refine g_castore 227 rfl C X349 e350 B352 1 (by decide) (by decide) w357 hw357 at_226 N353 gn341 fun T358 h359 ls360 X361 e362 W363 B364 N365 => ?_
      have F366 := F354.other W363 ne340
      have F367 := F355.other W363 ne339
      have Zs368 := Nat.le_trans Zs356 (Nat.le_of_eq W363.size.symm)
      refine g_aload 229 rfl C X361 at_227 rfl rfl ?_
      refine g_iconst 230 rfl C X361 (2 : Int32) at_229 rfl ?_
      refine g_aload 232 rfl C X361 at_230 rfl rfl ?_
      refine g_iconst 233 rfl C X361 (2 : Int32) at_232 rfl ?_
      refine g_caload 234 rfl C X361 e362 F366 2 (by decide) (by decide) w137 ((upd_ne (by omega)).trans (upd_same (by omega))) at_233 ?_
      obtain ⟨w369, hw369⟩ : ∃ z : Int32, ((w137).toUInt32.toUInt16.toUInt32.toInt32) = z := ⟨_, rfl⟩
      refine g_castore 235 rfl C X361 e362 B364 2 (by decide) (by decide) w369 hw369 at_234 N365 gn341 fun T370 h371 ls372 X373 e374 W375 B376 N377 => ?_
      have F378 := F366.other W375 ne340
      have F379 := F367.other W375 ne339
      have Zs380 := Nat.le_trans Zs368 (Nat.le_of_eq W375.size.symm)
      refine g_aload 237 rfl C X373 at_235 rfl rfl ?_
      refine g_iconst 238 rfl C X373 (3 : Int32) at_237 rfl ?_
      refine g_aload 240 rfl C X373 at_238 rfl rfl ?_
      refine g_iconst 241 rfl C X373 (3 : Int32) at_240 rfl ?_
      refine g_caload 242 rfl C X373 e374 F378 3 (by decide) (by decide) w181 (upd_same (by omega)) at_241 ?_
      obtain ⟨w381, hw381⟩ : ∃ z : Int32, ((w181).toUInt32.toUInt16.toUInt32.toInt32) = z := ⟨_, rfl⟩
      refine g_castore 243 rfl C X373 e374 B376 3 (by decide) (by decide) w381 hw381 at_242 N377 gn341 fun T382 h383 ls384 X385 e386 W387 B388 N389 => ?_
      have F390 := F378.other W387 ne340
      have F391 := F379.other W387 ne339
      have Zs392 := Nat.le_trans Zs380 (Nat.le_of_eq W387.size.symm)
      refine g_aload 245 rfl C X385 at_243 rfl rfl ?_
      refine g_iload 247 rfl C X385 at_245 rfl ?_
      refine g_iload 249 rfl C X385 at_247 rfl ?_
      obtain ⟨w393, hw393⟩ : ∃ z : Int32, ((r222).toUInt32.toUInt16.toUInt32.toInt32) = z := ⟨_, rfl⟩
      refine g_castore 250 rfl C X385 e386 B388 0 (by decide) (by decide) w393 hw393 at_249 N389 gn341 fun T394 h395 ls396 X397 e398 W399 B400 N401 => ?_
      have F402 := F390.other W399 ne340
      have F403 := F391.other W399 ne339
      have Zs404 := Nat.le_trans Zs392 (Nat.le_of_eq W399.size.symm)
      refine g_aload 252 rfl C X397 at_250 rfl rfl ?_
      refine g_aload 254 rfl C X397 at_252 rfl rfl ?_
      refine g_iload 256 rfl C X397 at_254 rfl ?_
      refine g_iconst 257 rfl C X397 (1 : Int32) at_256 rfl ?_
      refine g_iadd 258 rfl C X397 at_257 ?_
      refine g_iload 260 rfl C X397 at_258 rfl ?_
      refine g_iconst 261 rfl C X397 (1 : Int32) at_260 rfl ?_
      refine g_iadd 262 rfl C X397 at_261 ?_
      refine g_callS 265 rfl C X397 (argsL := [(.ref o7), (.ref o333), (.int ((0 : Int32) + (1 : Int32))), (.int ((0 : Int32) + (1 : Int32)))]) (hw _ (List.mem_of_getElem? (i := 6) rfl)) (hw _ (List.mem_of_getElem? (i := 7) rfl)) (hw _ (List.mem_of_getElem? (i := 8) rfl)) (hw _ (List.mem_of_getElem? (i := 3) rfl)) e398 (rm2_1_1 l Z a0 hw [] o7 o333 (upd (upd (upd (upd (fun _ => 0) 0 w49) 1 w93) 2 w137) 3 w181) (upd (upd (upd (upd (upd (fun _ => 0) 0 w345) 1 w357) 2 w369) 3 w381) 0 w393) w49 w93 w137 w181 w393 w357 w369 w381 h395 n0 Zs404 F402 B400 ((upd_ne (by omega)).trans ((upd_ne (by omega)).trans ((upd_ne (by omega)).trans (upd_same (by omega))))) ((upd_ne (by omega)).trans ((upd_ne (by omega)).trans (upd_same (by omega)))) ((upd_ne (by omega)).trans (upd_same (by omega))) (upd_same (by omega)) (upd_same (by omega)) ((upd_ne (by omega)).trans ((upd_ne (by omega)).trans ((upd_ne (by omega)).trans (upd_same (by omega))))) ((upd_ne (by omega)).trans ((upd_ne (by omega)).trans (upd_same (by omega)))) ((upd_ne (by omega)).trans (upd_same (by omega)))) (lenOf pd_50052781 rfl) (by decide) (by decide) (by decide) (by decide) rfl (W := 0) (Nat.le_of_eq rfl) (by decide) at_262 rfl fun r405 T406 Lc407 X408 hQ409 => ?_
      obtain ⟨r410, rfl, hs411, Nq412, eh413⟩ := hQ409
      have hq414 : 0 ≤ r410.toInt ∧ r410.toInt ≤ 1 := by
        clear hs245 hs266 hs287 hs308
        omega
      have N415 := Fr.app N401 Nq412
      show Goes _ _ _ _ _ _ 265 _ [(.int r410)]
      refine g_istore 267 rfl C X408 r410 rfl #[.val (.int p0), .val (.int p1), .val (.int p2), .val (.int p3), .val (.int p4), .val (.int v1), .val (.int v2), .val (.int v3), .val (.int v4), .val (.ref o7), .val (.int v191), .val (.int r222), .val (.ref o229), .val (.int (0 : Int32)), .val (.ref o333), .val (.int r410), .unset] at_265 rfl ?_
      refine g_aload 269 rfl C X408 at_267 rfl rfl ?_
      refine g_aload 271 rfl C X408 at_269 rfl rfl ?_
      refine g_iload 273 rfl C X408 at_271 rfl ?_
      refine g_iload 275 rfl C X408 at_273 rfl ?_
      refine g_callS 278 rfl C X408 (argsL := [(.ref o7), (.ref o229), (.int (0 : Int32)), (.int r222)]) (hw _ (List.mem_of_getElem? (i := 12) rfl)) (hw _ (List.mem_of_getElem? (i := 13) rfl)) (hw _ (List.mem_of_getElem? (i := 15) rfl)) (hw _ (List.mem_of_getElem? (i := 14) rfl)) eh413 (rm4_0 l Z a0 hw [] o7 o229 r222 (upd (upd (upd (upd (fun _ => 0) 0 w49) 1 w93) 2 w137) 3 w181) (upd (upd (upd (upd (fun _ => 0) 0 r244) 1 r265) 2 r286) 3 r307) w49 w93 w137 w181 r244 r265 r286 h395 n0 Zs404 F402 F403 ((upd_ne (by omega)).trans ((upd_ne (by omega)).trans ((upd_ne (by omega)).trans (upd_same (by omega))))) ((upd_ne (by omega)).trans ((upd_ne (by omega)).trans (upd_same (by omega)))) ((upd_ne (by omega)).trans (upd_same (by omega))) (upd_same (by omega)) ((upd_ne (by omega)).trans ((upd_ne (by omega)).trans ((upd_ne (by omega)).trans (upd_same (by omega))))) ((upd_ne (by omega)).trans ((upd_ne (by omega)).trans (upd_same (by omega)))) ((upd_ne (by omega)).trans (upd_same (by omega))) hq248 hq269 hq290) (lenOf pd_16949341 rfl) (by decide) (by decide) (by decide) (by decide) rfl (W := 0) (Nat.le_of_eq rfl) (by decide) at_275 rfl fun r416 T417 Lc418 X419 hQ420 => ?_
      obtain ⟨r421, rfl, hs422, Nq423, eh424⟩ := hQ420
      have N425 := Fr.app N415 Nq423
      show Goes _ _ _ _ _ _ 278 _ [(.int r421)]
      refine g_istore 280 rfl C X419 r421 rfl #[.val (.int p0), .val (.int p1), .val (.int p2), .val (.int p3), .val (.int p4), .val (.int v1), .val (.int v2), .val (.int v3), .val (.int v4), .val (.ref o7), .val (.int v191), .val (.int r222), .val (.ref o229), .val (.int (0 : Int32)), .val (.ref o333), .val (.int r410), .val (.int r421)] at_278 rfl ?_
      refine g_iload 282 rfl C X419 at_280 rfl ?_
      refine g_iload 284 rfl C X419 at_282 rfl ?_
      have hq426 : w393.toInt = r222.toInt := by
        clear hs245 hs266 hs287 hs308 hs411 hs422
        have fr427 := rng32 w393
        have fr428 := rng32 r222
        have fo429 := c_i2c r222
        have fe430 : ((r222).toUInt32.toUInt16.toUInt32.toInt32).toInt = w393.toInt := congrArg Int32.toInt hw393
        omega
      have hq431 : w357.toInt = w93.toInt := by
        clear hs245 hs266 hs287 hs308 hs411 hs422
        have fr432 := rng32 w357
        have fr433 := rng32 w93
        have fr434 := rng32 r88
        have fo435 := c_i2c r88
        have fe436 : ((r88).toUInt32.toUInt16.toUInt32.toInt32).toInt = w93.toInt := congrArg Int32.toInt hw93
        have fo437 := c_i2c w93
        have fe438 : ((w93).toUInt32.toUInt16.toUInt32.toInt32).toInt = w357.toInt := congrArg Int32.toInt hw357
        omega
      have hq439 : w369.toInt = w137.toInt := by
        clear hs245 hs266 hs287 hs308 hs411 hs422
        have fr440 := rng32 w369
        have fr441 := rng32 w137
        have fr442 := rng32 r132
        have fo443 := c_i2c r132
        have fe444 : ((r132).toUInt32.toUInt16.toUInt32.toInt32).toInt = w137.toInt := congrArg Int32.toInt hw137
        have fo445 := c_i2c w137
        have fe446 : ((w137).toUInt32.toUInt16.toUInt32.toInt32).toInt = w369.toInt := congrArg Int32.toInt hw369
        omega
      have hq447 : w381.toInt = w181.toInt := by
        clear hs245 hs266 hs287 hs308 hs411 hs422
        have fr448 := rng32 w381
        have fr449 := rng32 w181
        have fr450 := rng32 r176
        have fo451 := c_i2c r176
        have fe452 : ((r176).toUInt32.toUInt16.toUInt32.toInt32).toInt = w181.toInt := congrArg Int32.toInt hw181
        have fo453 := c_i2c w181
        have fe454 : ((w181).toUInt32.toUInt16.toUInt32.toInt32).toInt = w381.toInt := congrArg Int32.toInt hw381
        omega
      try rw [hq426] at hs411
      try rw [hq431] at hs411
      try rw [hq439] at hs411
      try rw [hq447] at hs411
      have hg455 : r421.toInt = r410.toInt := own_k0 w49.toInt w93.toInt w137.toInt w181.toInt r222.toInt r265.toInt r286.toInt r410.toInt r421.toInt hs266 hs287 hs411 hs422
      have hb456 : r421.toInt = r410.toInt := hg455
      refine g_icmp_ne_f 287 rfl C X419 at_284 hb456 ?_
      refine g_iconst 288 rfl C X419 (1 : Int32) at_287 rfl ?_
      refine g_goto 292 C X419 at_288 (by decide) (by decide) ?_
      exact g_retN C X419 (z' := (1 : Int32)) rfl (Or.inl rfl) at_292 eh424 (by decide) (by decide) rfl ⟨rfl, N425⟩
    · skip
      refine g_iconst 207 rfl C X316 (4 : Int32) at_206 rfl ?_
      refine g_newP 209 rfl C X316 4 (by decide) 4 (by decide) (by decide) rfl (hw _ (List.mem_of_getElem? (i := 0) rfl)) e317 at_207 (by decide) (by decide) fun T457 h458 o459 g460 X461 e462 E463 B464 => ?_
      have ne465 : o229 ≠ o459 := by rw [g460]; exact Nat.ne_of_lt B319.lt
      have ne466 : o7 ≠ o459 := by rw [g460]; exact Nat.ne_of_lt F321.lt
      have gn467 : n0 ≤ o459 := by rw [g460]; exact Zs322
      have F468 := F321.ext E463
      have F469 := B319.ext E463
      have Zs470 := Nat.le_trans Zs322 E463.1
      refine g_astore 211 rfl C X461 #[.val (.int p0), .val (.int p1), .val (.int p2), .val (.int p3), .val (.int p4), .val (.int v1), .val (.int v2), .val (.int v3), .val (.int v4), .val (.ref o7), .val (.int v191), .val (.int r222), .val (.ref o229), .val (.int (1 : Int32)), .val (.ref o459), .unset, .unset] at_209 rfl rfl ?_
      refine g_aload 213 rfl C X461 at_211 rfl rfl ?_
      refine g_iconst 214 rfl C X461 (0 : Int32) at_213 rfl ?_
      refine g_aload 216 rfl C X461 at_214 rfl rfl ?_
      refine g_iconst 217 rfl C X461 (0 : Int32) at_216 rfl ?_
      refine g_caload 218 rfl C X461 e462 F468 0 (by decide) (by decide) w49 ((upd_ne (by omega)).trans ((upd_ne (by omega)).trans ((upd_ne (by omega)).trans (upd_same (by omega))))) at_217 ?_
      obtain ⟨w471, hw471⟩ : ∃ z : Int32, ((w49).toUInt32.toUInt16.toUInt32.toInt32) = z := ⟨_, rfl⟩
      refine g_castore 219 rfl C X461 e462 B464 0 (by decide) (by decide) w471 hw471 at_218 N320 gn467 fun T472 h473 ls474 X475 e476 W477 B478 N479 => ?_
      have F480 := F468.other W477 ne466
      have F481 := F469.other W477 ne465
      have Zs482 := Nat.le_trans Zs470 (Nat.le_of_eq W477.size.symm)
      refine g_aload 221 rfl C X475 at_219 rfl rfl ?_
      refine g_iconst 222 rfl C X475 (1 : Int32) at_221 rfl ?_
      refine g_aload 224 rfl C X475 at_222 rfl rfl ?_
      refine g_iconst 225 rfl C X475 (1 : Int32) at_224 rfl ?_
      refine g_caload 226 rfl C X475 e476 F480 1 (by decide) (by decide) w93 ((upd_ne (by omega)).trans ((upd_ne (by omega)).trans (upd_same (by omega)))) at_225 ?_
      obtain ⟨w483, hw483⟩ : ∃ z : Int32, ((w93).toUInt32.toUInt16.toUInt32.toInt32) = z := ⟨_, rfl⟩
      refine g_castore 227 rfl C X475 e476 B478 1 (by decide) (by decide) w483 hw483 at_226 N479 gn467 fun T484 h485 ls486 X487 e488 W489 B490 N491 => ?_
      have F492 := F480.other W489 ne466
      have F493 := F481.other W489 ne465
      have Zs494 := Nat.le_trans Zs482 (Nat.le_of_eq W489.size.symm)
      refine g_aload 229 rfl C X487 at_227 rfl rfl ?_
      refine g_iconst 230 rfl C X487 (2 : Int32) at_229 rfl ?_
      refine g_aload 232 rfl C X487 at_230 rfl rfl ?_
      refine g_iconst 233 rfl C X487 (2 : Int32) at_232 rfl ?_
      refine g_caload 234 rfl C X487 e488 F492 2 (by decide) (by decide) w137 ((upd_ne (by omega)).trans (upd_same (by omega))) at_233 ?_
      obtain ⟨w495, hw495⟩ : ∃ z : Int32, ((w137).toUInt32.toUInt16.toUInt32.toInt32) = z := ⟨_, rfl⟩
      refine g_castore 235 rfl C X487 e488 B490 2 (by decide) (by decide) w495 hw495 at_234 N491 gn467 fun T496 h497 ls498 X499 e500 W501 B502 N503 => ?_
      have F504 := F492.other W501 ne466
      have F505 := F493.other W501 ne465
      have Zs506 := Nat.le_trans Zs494 (Nat.le_of_eq W501.size.symm)
      refine g_aload 237 rfl C X499 at_235 rfl rfl ?_
      refine g_iconst 238 rfl C X499 (3 : Int32) at_237 rfl ?_
      refine g_aload 240 rfl C X499 at_238 rfl rfl ?_
      refine g_iconst 241 rfl C X499 (3 : Int32) at_240 rfl ?_
      refine g_caload 242 rfl C X499 e500 F504 3 (by decide) (by decide) w181 (upd_same (by omega)) at_241 ?_
      obtain ⟨w507, hw507⟩ : ∃ z : Int32, ((w181).toUInt32.toUInt16.toUInt32.toInt32) = z := ⟨_, rfl⟩
      refine g_castore 243 rfl C X499 e500 B502 3 (by decide) (by decide) w507 hw507 at_242 N503 gn467 fun T508 h509 ls510 X511 e512 W513 B514 N515 => ?_
      have F516 := F504.other W513 ne466
      have F517 := F505.other W513 ne465
      have Zs518 := Nat.le_trans Zs506 (Nat.le_of_eq W513.size.symm)
      refine g_aload 245 rfl C X511 at_243 rfl rfl ?_
      refine g_iload 247 rfl C X511 at_245 rfl ?_
      refine g_iload 249 rfl C X511 at_247 rfl ?_
      obtain ⟨w519, hw519⟩ : ∃ z : Int32, ((r222).toUInt32.toUInt16.toUInt32.toInt32) = z := ⟨_, rfl⟩
      refine g_castore 250 rfl C X511 e512 B514 1 (by decide) (by decide) w519 hw519 at_249 N515 gn467 fun T520 h521 ls522 X523 e524 W525 B526 N527 => ?_
      have F528 := F516.other W525 ne466
      have F529 := F517.other W525 ne465
      have Zs530 := Nat.le_trans Zs518 (Nat.le_of_eq W525.size.symm)
      refine g_aload 252 rfl C X523 at_250 rfl rfl ?_
      refine g_aload 254 rfl C X523 at_252 rfl rfl ?_
      refine g_iload 256 rfl C X523 at_254 rfl ?_
      refine g_iconst 257 rfl C X523 (1 : Int32) at_256 rfl ?_
      refine g_iadd 258 rfl C X523 at_257 ?_
      refine g_iload 260 rfl C X523 at_258 rfl ?_
      refine g_iconst 261 rfl C X523 (1 : Int32) at_260 rfl ?_
      refine g_iadd 262 rfl C X523 at_261 ?_
      refine g_callS 265 rfl C X523 (argsL := [(.ref o7), (.ref o459), (.int ((1 : Int32) + (1 : Int32))), (.int ((1 : Int32) + (1 : Int32)))]) (hw _ (List.mem_of_getElem? (i := 6) rfl)) (hw _ (List.mem_of_getElem? (i := 7) rfl)) (hw _ (List.mem_of_getElem? (i := 8) rfl)) (hw _ (List.mem_of_getElem? (i := 3) rfl)) e524 (rm2_2_2 l Z a0 hw [] o7 o459 (upd (upd (upd (upd (fun _ => 0) 0 w49) 1 w93) 2 w137) 3 w181) (upd (upd (upd (upd (upd (fun _ => 0) 0 w471) 1 w483) 2 w495) 3 w507) 1 w519) w49 w93 w137 w181 w471 w519 w495 w507 h521 n0 Zs530 F528 B526 ((upd_ne (by omega)).trans ((upd_ne (by omega)).trans ((upd_ne (by omega)).trans (upd_same (by omega))))) ((upd_ne (by omega)).trans ((upd_ne (by omega)).trans (upd_same (by omega)))) ((upd_ne (by omega)).trans (upd_same (by omega))) (upd_same (by omega)) ((upd_ne (by omega)).trans ((upd_ne (by omega)).trans ((upd_ne (by omega)).trans ((upd_ne (by omega)).trans (upd_same (by omega)))))) (upd_same (by omega)) ((upd_ne (by omega)).trans ((upd_ne (by omega)).trans (upd_same (by omega)))) ((upd_ne (by omega)).trans (upd_same (by omega)))) (lenOf pd_50052781 rfl) (by decide) (by decide) (by decide) (by decide) rfl (W := 0) (Nat.le_of_eq rfl) (by decide) at_262 rfl fun r531 T532 Lc533 X534 hQ535 => ?_
      obtain ⟨r536, rfl, hs537, Nq538, eh539⟩ := hQ535
      have hq540 : 0 ≤ r536.toInt ∧ r536.toInt ≤ 2 := by
        clear hs245 hs266 hs287 hs308
        omega
      have N541 := Fr.app N527 Nq538
      show Goes _ _ _ _ _ _ 265 _ [(.int r536)]
      refine g_istore 267 rfl C X534 r536 rfl #[.val (.int p0), .val (.int p1), .val (.int p2), .val (.int p3), .val (.int p4), .val (.int v1), .val (.int v2), .val (.int v3), .val (.int v4), .val (.ref o7), .val (.int v191), .val (.int r222), .val (.ref o229), .val (.int (1 : Int32)), .val (.ref o459), .val (.int r536), .unset] at_265 rfl ?_
      refine g_aload 269 rfl C X534 at_267 rfl rfl ?_
      refine g_aload 271 rfl C X534 at_269 rfl rfl ?_
      refine g_iload 273 rfl C X534 at_271 rfl ?_
      refine g_iload 275 rfl C X534 at_273 rfl ?_
      refine g_callS 278 rfl C X534 (argsL := [(.ref o7), (.ref o229), (.int (1 : Int32)), (.int r222)]) (hw _ (List.mem_of_getElem? (i := 12) rfl)) (hw _ (List.mem_of_getElem? (i := 13) rfl)) (hw _ (List.mem_of_getElem? (i := 15) rfl)) (hw _ (List.mem_of_getElem? (i := 14) rfl)) eh539 (rm4_1 l Z a0 hw [] o7 o229 r222 (upd (upd (upd (upd (fun _ => 0) 0 w49) 1 w93) 2 w137) 3 w181) (upd (upd (upd (upd (fun _ => 0) 0 r244) 1 r265) 2 r286) 3 r307) w49 w93 w137 w181 r244 r265 r286 h521 n0 Zs530 F528 F529 ((upd_ne (by omega)).trans ((upd_ne (by omega)).trans ((upd_ne (by omega)).trans (upd_same (by omega))))) ((upd_ne (by omega)).trans ((upd_ne (by omega)).trans (upd_same (by omega)))) ((upd_ne (by omega)).trans (upd_same (by omega))) (upd_same (by omega)) ((upd_ne (by omega)).trans ((upd_ne (by omega)).trans ((upd_ne (by omega)).trans (upd_same (by omega))))) ((upd_ne (by omega)).trans ((upd_ne (by omega)).trans (upd_same (by omega)))) ((upd_ne (by omega)).trans (upd_same (by omega))) hq248 hq269 hq290) (lenOf pd_16949341 rfl) (by decide) (by decide) (by decide) (by decide) rfl (W := 0) (Nat.le_of_eq rfl) (by decide) at_275 rfl fun r542 T543 Lc544 X545 hQ546 => ?_
      obtain ⟨r547, rfl, hs548, Nq549, eh550⟩ := hQ546
      have N551 := Fr.app N541 Nq549
      show Goes _ _ _ _ _ _ 278 _ [(.int r547)]
      refine g_istore 280 rfl C X545 r547 rfl #[.val (.int p0), .val (.int p1), .val (.int p2), .val (.int p3), .val (.int p4), .val (.int v1), .val (.int v2), .val (.int v3), .val (.int v4), .val (.ref o7), .val (.int v191), .val (.int r222), .val (.ref o229), .val (.int (1 : Int32)), .val (.ref o459), .val (.int r536), .val (.int r547)] at_278 rfl ?_
      refine g_iload 282 rfl C X545 at_280 rfl ?_
      refine g_iload 284 rfl C X545 at_282 rfl ?_
      have hq552 : w471.toInt = w49.toInt := by
        clear hs245 hs266 hs287 hs308 hs537 hs548
        have fr553 := rng32 w471
        have fr554 := rng32 w49
        have fr555 := rng32 r44
        have fo556 := c_i2c r44
        have fe557 : ((r44).toUInt32.toUInt16.toUInt32.toInt32).toInt = w49.toInt := congrArg Int32.toInt hw49
        have fo558 := c_i2c w49
        have fe559 : ((w49).toUInt32.toUInt16.toUInt32.toInt32).toInt = w471.toInt := congrArg Int32.toInt hw471
        omega
      have hq560 : w519.toInt = r222.toInt := by
        clear hs245 hs266 hs287 hs308 hs537 hs548
        have fr561 := rng32 w519
        have fr562 := rng32 r222
        have fo563 := c_i2c r222
        have fe564 : ((r222).toUInt32.toUInt16.toUInt32.toInt32).toInt = w519.toInt := congrArg Int32.toInt hw519
        omega
      have hq565 : w495.toInt = w137.toInt := by
        clear hs245 hs266 hs287 hs308 hs537 hs548
        have fr566 := rng32 w495
        have fr567 := rng32 w137
        have fr568 := rng32 r132
        have fo569 := c_i2c r132
        have fe570 : ((r132).toUInt32.toUInt16.toUInt32.toInt32).toInt = w137.toInt := congrArg Int32.toInt hw137
        have fo571 := c_i2c w137
        have fe572 : ((w137).toUInt32.toUInt16.toUInt32.toInt32).toInt = w495.toInt := congrArg Int32.toInt hw495
        omega
      have hq573 : w507.toInt = w181.toInt := by
        clear hs245 hs266 hs287 hs308 hs537 hs548
        have fr574 := rng32 w507
        have fr575 := rng32 w181
        have fr576 := rng32 r176
        have fo577 := c_i2c r176
        have fe578 : ((r176).toUInt32.toUInt16.toUInt32.toInt32).toInt = w181.toInt := congrArg Int32.toInt hw181
        have fo579 := c_i2c w181
        have fe580 : ((w181).toUInt32.toUInt16.toUInt32.toInt32).toInt = w507.toInt := congrArg Int32.toInt hw507
        omega
      try rw [hq552] at hs537
      try rw [hq560] at hs537
      try rw [hq565] at hs537
      try rw [hq573] at hs537
      have hg581 : r547.toInt = r536.toInt := own_k1 w49.toInt w93.toInt w137.toInt w181.toInt r222.toInt r265.toInt r286.toInt r536.toInt r547.toInt hs266 hs287 hs537 hs548
      have hb582 : r547.toInt = r536.toInt := hg581
      refine g_icmp_ne_f 287 rfl C X545 at_284 hb582 ?_
      refine g_iconst 288 rfl C X545 (1 : Int32) at_287 rfl ?_
      refine g_goto 292 C X545 at_288 (by decide) (by decide) ?_
      exact g_retN C X545 (z' := (1 : Int32)) rfl (Or.inl rfl) at_292 eh550 (by decide) (by decide) rfl ⟨rfl, N551⟩
    · skip
      refine g_iconst 207 rfl C X316 (4 : Int32) at_206 rfl ?_
      refine g_newP 209 rfl C X316 4 (by decide) 4 (by decide) (by decide) rfl (hw _ (List.mem_of_getElem? (i := 0) rfl)) e317 at_207 (by decide) (by decide) fun T583 h584 o585 g586 X587 e588 E589 B590 => ?_
      have ne591 : o229 ≠ o585 := by rw [g586]; exact Nat.ne_of_lt B319.lt
      have ne592 : o7 ≠ o585 := by rw [g586]; exact Nat.ne_of_lt F321.lt
      have gn593 : n0 ≤ o585 := by rw [g586]; exact Zs322
      have F594 := F321.ext E589
      have F595 := B319.ext E589
      have Zs596 := Nat.le_trans Zs322 E589.1
      refine g_astore 211 rfl C X587 #[.val (.int p0), .val (.int p1), .val (.int p2), .val (.int p3), .val (.int p4), .val (.int v1), .val (.int v2), .val (.int v3), .val (.int v4), .val (.ref o7), .val (.int v191), .val (.int r222), .val (.ref o229), .val (.int (2 : Int32)), .val (.ref o585), .unset, .unset] at_209 rfl rfl ?_
      refine g_aload 213 rfl C X587 at_211 rfl rfl ?_
      refine g_iconst 214 rfl C X587 (0 : Int32) at_213 rfl ?_
      refine g_aload 216 rfl C X587 at_214 rfl rfl ?_
      refine g_iconst 217 rfl C X587 (0 : Int32) at_216 rfl ?_
      refine g_caload 218 rfl C X587 e588 F594 0 (by decide) (by decide) w49 ((upd_ne (by omega)).trans ((upd_ne (by omega)).trans ((upd_ne (by omega)).trans (upd_same (by omega))))) at_217 ?_
      obtain ⟨w597, hw597⟩ : ∃ z : Int32, ((w49).toUInt32.toUInt16.toUInt32.toInt32) = z := ⟨_, rfl⟩
      refine g_castore 219 rfl C X587 e588 B590 0 (by decide) (by decide) w597 hw597 at_218 N320 gn593 fun T598 h599 ls600 X601 e602 W603 B604 N605 => ?_
      have F606 := F594.other W603 ne592
      have F607 := F595.other W603 ne591
      have Zs608 := Nat.le_trans Zs596 (Nat.le_of_eq W603.size.symm)
      refine g_aload 221 rfl C X601 at_219 rfl rfl ?_
      refine g_iconst 222 rfl C X601 (1 : Int32) at_221 rfl ?_
      refine g_aload 224 rfl C X601 at_222 rfl rfl ?_
      refine g_iconst 225 rfl C X601 (1 : Int32) at_224 rfl ?_
      refine g_caload 226 rfl C X601 e602 F606 1 (by decide) (by decide) w93 ((upd_ne (by omega)).trans ((upd_ne (by omega)).trans (upd_same (by omega)))) at_225 ?_
      obtain ⟨w609, hw609⟩ : ∃ z : Int32, ((w93).toUInt32.toUInt16.toUInt32.toInt32) = z := ⟨_, rfl⟩
      refine g_castore 227 rfl C X601 e602 B604 1 (by decide) (by decide) w609 hw609 at_226 N605 gn593 fun T610 h611 ls612 X613 e614 W615 B616 N617 => ?_
      have F618 := F606.other W615 ne592
      have F619 := F607.other W615 ne591
      have Zs620 := Nat.le_trans Zs608 (Nat.le_of_eq W615.size.symm)
      refine g_aload 229 rfl C X613 at_227 rfl rfl ?_
      refine g_iconst 230 rfl C X613 (2 : Int32) at_229 rfl ?_
      refine g_aload 232 rfl C X613 at_230 rfl rfl ?_
      refine g_iconst 233 rfl C X613 (2 : Int32) at_232 rfl ?_
      refine g_caload 234 rfl C X613 e614 F618 2 (by decide) (by decide) w137 ((upd_ne (by omega)).trans (upd_same (by omega))) at_233 ?_
      obtain ⟨w621, hw621⟩ : ∃ z : Int32, ((w137).toUInt32.toUInt16.toUInt32.toInt32) = z := ⟨_, rfl⟩
      refine g_castore 235 rfl C X613 e614 B616 2 (by decide) (by decide) w621 hw621 at_234 N617 gn593 fun T622 h623 ls624 X625 e626 W627 B628 N629 => ?_
      have F630 := F618.other W627 ne592
      have F631 := F619.other W627 ne591
      have Zs632 := Nat.le_trans Zs620 (Nat.le_of_eq W627.size.symm)
      refine g_aload 237 rfl C X625 at_235 rfl rfl ?_
      refine g_iconst 238 rfl C X625 (3 : Int32) at_237 rfl ?_
      refine g_aload 240 rfl C X625 at_238 rfl rfl ?_
      refine g_iconst 241 rfl C X625 (3 : Int32) at_240 rfl ?_
      refine g_caload 242 rfl C X625 e626 F630 3 (by decide) (by decide) w181 (upd_same (by omega)) at_241 ?_
      obtain ⟨w633, hw633⟩ : ∃ z : Int32, ((w181).toUInt32.toUInt16.toUInt32.toInt32) = z := ⟨_, rfl⟩
      refine g_castore 243 rfl C X625 e626 B628 3 (by decide) (by decide) w633 hw633 at_242 N629 gn593 fun T634 h635 ls636 X637 e638 W639 B640 N641 => ?_
      have F642 := F630.other W639 ne592
      have F643 := F631.other W639 ne591
      have Zs644 := Nat.le_trans Zs632 (Nat.le_of_eq W639.size.symm)
      refine g_aload 245 rfl C X637 at_243 rfl rfl ?_
      refine g_iload 247 rfl C X637 at_245 rfl ?_
      refine g_iload 249 rfl C X637 at_247 rfl ?_
      obtain ⟨w645, hw645⟩ : ∃ z : Int32, ((r222).toUInt32.toUInt16.toUInt32.toInt32) = z := ⟨_, rfl⟩
      refine g_castore 250 rfl C X637 e638 B640 2 (by decide) (by decide) w645 hw645 at_249 N641 gn593 fun T646 h647 ls648 X649 e650 W651 B652 N653 => ?_
      have F654 := F642.other W651 ne592
      have F655 := F643.other W651 ne591
      have Zs656 := Nat.le_trans Zs644 (Nat.le_of_eq W651.size.symm)
      refine g_aload 252 rfl C X649 at_250 rfl rfl ?_
      refine g_aload 254 rfl C X649 at_252 rfl rfl ?_
      refine g_iload 256 rfl C X649 at_254 rfl ?_
      refine g_iconst 257 rfl C X649 (1 : Int32) at_256 rfl ?_
      refine g_iadd 258 rfl C X649 at_257 ?_
      refine g_iload 260 rfl C X649 at_258 rfl ?_
      refine g_iconst 261 rfl C X649 (1 : Int32) at_260 rfl ?_
      refine g_iadd 262 rfl C X649 at_261 ?_
      refine g_callS 265 rfl C X649 (argsL := [(.ref o7), (.ref o585), (.int ((2 : Int32) + (1 : Int32))), (.int ((2 : Int32) + (1 : Int32)))]) (hw _ (List.mem_of_getElem? (i := 6) rfl)) (hw _ (List.mem_of_getElem? (i := 7) rfl)) (hw _ (List.mem_of_getElem? (i := 8) rfl)) (hw _ (List.mem_of_getElem? (i := 3) rfl)) e650 (rm2_3_3 l Z a0 hw [] o7 o585 (upd (upd (upd (upd (fun _ => 0) 0 w49) 1 w93) 2 w137) 3 w181) (upd (upd (upd (upd (upd (fun _ => 0) 0 w597) 1 w609) 2 w621) 3 w633) 2 w645) w49 w93 w137 w181 w597 w609 w645 w633 h647 n0 Zs656 F654 B652 ((upd_ne (by omega)).trans ((upd_ne (by omega)).trans ((upd_ne (by omega)).trans (upd_same (by omega))))) ((upd_ne (by omega)).trans ((upd_ne (by omega)).trans (upd_same (by omega)))) ((upd_ne (by omega)).trans (upd_same (by omega))) (upd_same (by omega)) ((upd_ne (by omega)).trans ((upd_ne (by omega)).trans ((upd_ne (by omega)).trans ((upd_ne (by omega)).trans (upd_same (by omega)))))) ((upd_ne (by omega)).trans ((upd_ne (by omega)).trans ((upd_ne (by omega)).trans (upd_same (by omega))))) (upd_same (by omega)) ((upd_ne (by omega)).trans (upd_same (by omega)))) (lenOf pd_50052781 rfl) (by decide) (by decide) (by decide) (by decide) rfl (W := 0) (Nat.le_of_eq rfl) (by decide) at_262 rfl fun r657 T658 Lc659 X660 hQ661 => ?_
      obtain ⟨r662, rfl, hs663, Nq664, eh665⟩ := hQ661
      have hq666 : 0 ≤ r662.toInt ∧ r662.toInt ≤ 3 := by
        clear hs245 hs266 hs287 hs308
        omega
      have N667 := Fr.app N653 Nq664
      show Goes _ _ _ _ _ _ 265 _ [(.int r662)]
      refine g_istore 267 rfl C X660 r662 rfl #[.val (.int p0), .val (.int p1), .val (.int p2), .val (.int p3), .val (.int p4), .val (.int v1), .val (.int v2), .val (.int v3), .val (.int v4), .val (.ref o7), .val (.int v191), .val (.int r222), .val (.ref o229), .val (.int (2 : Int32)), .val (.ref o585), .val (.int r662), .unset] at_265 rfl ?_
      refine g_aload 269 rfl C X660 at_267 rfl rfl ?_
      refine g_aload 271 rfl C X660 at_269 rfl rfl ?_
      refine g_iload 273 rfl C X660 at_271 rfl ?_
      refine g_iload 275 rfl C X660 at_273 rfl ?_
      refine g_callS 278 rfl C X660 (argsL := [(.ref o7), (.ref o229), (.int (2 : Int32)), (.int r222)]) (hw _ (List.mem_of_getElem? (i := 12) rfl)) (hw _ (List.mem_of_getElem? (i := 13) rfl)) (hw _ (List.mem_of_getElem? (i := 15) rfl)) (hw _ (List.mem_of_getElem? (i := 14) rfl)) eh665 (rm4_2 l Z a0 hw [] o7 o229 r222 (upd (upd (upd (upd (fun _ => 0) 0 w49) 1 w93) 2 w137) 3 w181) (upd (upd (upd (upd (fun _ => 0) 0 r244) 1 r265) 2 r286) 3 r307) w49 w93 w137 w181 r244 r265 r286 h647 n0 Zs656 F654 F655 ((upd_ne (by omega)).trans ((upd_ne (by omega)).trans ((upd_ne (by omega)).trans (upd_same (by omega))))) ((upd_ne (by omega)).trans ((upd_ne (by omega)).trans (upd_same (by omega)))) ((upd_ne (by omega)).trans (upd_same (by omega))) (upd_same (by omega)) ((upd_ne (by omega)).trans ((upd_ne (by omega)).trans ((upd_ne (by omega)).trans (upd_same (by omega))))) ((upd_ne (by omega)).trans ((upd_ne (by omega)).trans (upd_same (by omega)))) ((upd_ne (by omega)).trans (upd_same (by omega))) hq248 hq269 hq290) (lenOf pd_16949341 rfl) (by decide) (by decide) (by decide) (by decide) rfl (W := 0) (Nat.le_of_eq rfl) (by decide) at_275 rfl fun r668 T669 Lc670 X671 hQ672 => ?_
      obtain ⟨r673, rfl, hs674, Nq675, eh676⟩ := hQ672
      have N677 := Fr.app N667 Nq675
      show Goes _ _ _ _ _ _ 278 _ [(.int r673)]
      refine g_istore 280 rfl C X671 r673 rfl #[.val (.int p0), .val (.int p1), .val (.int p2), .val (.int p3), .val (.int p4), .val (.int v1), .val (.int v2), .val (.int v3), .val (.int v4), .val (.ref o7), .val (.int v191), .val (.int r222), .val (.ref o229), .val (.int (2 : Int32)), .val (.ref o585), .val (.int r662), .val (.int r673)] at_278 rfl ?_
      refine g_iload 282 rfl C X671 at_280 rfl ?_
      refine g_iload 284 rfl C X671 at_282 rfl ?_
      have hq678 : w597.toInt = w49.toInt := by
        clear hs245 hs266 hs287 hs308 hs663 hs674
        have fr679 := rng32 w597
        have fr680 := rng32 w49
        have fr681 := rng32 r44
        have fo682 := c_i2c r44
        have fe683 : ((r44).toUInt32.toUInt16.toUInt32.toInt32).toInt = w49.toInt := congrArg Int32.toInt hw49
        have fo684 := c_i2c w49
        have fe685 : ((w49).toUInt32.toUInt16.toUInt32.toInt32).toInt = w597.toInt := congrArg Int32.toInt hw597
        omega
      have hq686 : w609.toInt = w93.toInt := by
        clear hs245 hs266 hs287 hs308 hs663 hs674
        have fr687 := rng32 w609
        have fr688 := rng32 w93
        have fr689 := rng32 r88
        have fo690 := c_i2c r88
        have fe691 : ((r88).toUInt32.toUInt16.toUInt32.toInt32).toInt = w93.toInt := congrArg Int32.toInt hw93
        have fo692 := c_i2c w93
        have fe693 : ((w93).toUInt32.toUInt16.toUInt32.toInt32).toInt = w609.toInt := congrArg Int32.toInt hw609
        omega
      have hq694 : w645.toInt = r222.toInt := by
        clear hs245 hs266 hs287 hs308 hs663 hs674
        have fr695 := rng32 w645
        have fr696 := rng32 r222
        have fo697 := c_i2c r222
        have fe698 : ((r222).toUInt32.toUInt16.toUInt32.toInt32).toInt = w645.toInt := congrArg Int32.toInt hw645
        omega
      have hq699 : w633.toInt = w181.toInt := by
        clear hs245 hs266 hs287 hs308 hs663 hs674
        have fr700 := rng32 w633
        have fr701 := rng32 w181
        have fr702 := rng32 r176
        have fo703 := c_i2c r176
        have fe704 : ((r176).toUInt32.toUInt16.toUInt32.toInt32).toInt = w181.toInt := congrArg Int32.toInt hw181
        have fo705 := c_i2c w181
        have fe706 : ((w181).toUInt32.toUInt16.toUInt32.toInt32).toInt = w633.toInt := congrArg Int32.toInt hw633
        omega
      try rw [hq678] at hs663
      try rw [hq686] at hs663
      try rw [hq694] at hs663
      try rw [hq699] at hs663
      have hg707 : r673.toInt = r662.toInt := own_k2 w49.toInt w93.toInt w137.toInt w181.toInt r222.toInt r265.toInt r286.toInt r662.toInt r673.toInt hs266 hs287 hs663 hs674
      have hb708 : r673.toInt = r662.toInt := hg707
      refine g_icmp_ne_f 287 rfl C X671 at_284 hb708 ?_
      refine g_iconst 288 rfl C X671 (1 : Int32) at_287 rfl ?_
      refine g_goto 292 C X671 at_288 (by decide) (by decide) ?_
      exact g_retN C X671 (z' := (1 : Int32)) rfl (Or.inl rfl) at_292 eh676 (by decide) (by decide) rfl ⟨rfl, N677⟩
    · skip
      refine g_iconst 207 rfl C X316 (4 : Int32) at_206 rfl ?_
      refine g_newP 209 rfl C X316 4 (by decide) 4 (by decide) (by decide) rfl (hw _ (List.mem_of_getElem? (i := 0) rfl)) e317 at_207 (by decide) (by decide) fun T709 h710 o711 g712 X713 e714 E715 B716 => ?_
      have ne717 : o229 ≠ o711 := by rw [g712]; exact Nat.ne_of_lt B319.lt
      have ne718 : o7 ≠ o711 := by rw [g712]; exact Nat.ne_of_lt F321.lt
      have gn719 : n0 ≤ o711 := by rw [g712]; exact Zs322
      have F720 := F321.ext E715
      have F721 := B319.ext E715
      have Zs722 := Nat.le_trans Zs322 E715.1
      refine g_astore 211 rfl C X713 #[.val (.int p0), .val (.int p1), .val (.int p2), .val (.int p3), .val (.int p4), .val (.int v1), .val (.int v2), .val (.int v3), .val (.int v4), .val (.ref o7), .val (.int v191), .val (.int r222), .val (.ref o229), .val (.int (3 : Int32)), .val (.ref o711), .unset, .unset] at_209 rfl rfl ?_
      refine g_aload 213 rfl C X713 at_211 rfl rfl ?_
      refine g_iconst 214 rfl C X713 (0 : Int32) at_213 rfl ?_
      refine g_aload 216 rfl C X713 at_214 rfl rfl ?_
      refine g_iconst 217 rfl C X713 (0 : Int32) at_216 rfl ?_
      refine g_caload 218 rfl C X713 e714 F720 0 (by decide) (by decide) w49 ((upd_ne (by omega)).trans ((upd_ne (by omega)).trans ((upd_ne (by omega)).trans (upd_same (by omega))))) at_217 ?_
      obtain ⟨w723, hw723⟩ : ∃ z : Int32, ((w49).toUInt32.toUInt16.toUInt32.toInt32) = z := ⟨_, rfl⟩
      refine g_castore 219 rfl C X713 e714 B716 0 (by decide) (by decide) w723 hw723 at_218 N320 gn719 fun T724 h725 ls726 X727 e728 W729 B730 N731 => ?_
      have F732 := F720.other W729 ne718
      have F733 := F721.other W729 ne717
      have Zs734 := Nat.le_trans Zs722 (Nat.le_of_eq W729.size.symm)
      refine g_aload 221 rfl C X727 at_219 rfl rfl ?_
      refine g_iconst 222 rfl C X727 (1 : Int32) at_221 rfl ?_
      refine g_aload 224 rfl C X727 at_222 rfl rfl ?_
      refine g_iconst 225 rfl C X727 (1 : Int32) at_224 rfl ?_
      refine g_caload 226 rfl C X727 e728 F732 1 (by decide) (by decide) w93 ((upd_ne (by omega)).trans ((upd_ne (by omega)).trans (upd_same (by omega)))) at_225 ?_
      obtain ⟨w735, hw735⟩ : ∃ z : Int32, ((w93).toUInt32.toUInt16.toUInt32.toInt32) = z := ⟨_, rfl⟩
      refine g_castore 227 rfl C X727 e728 B730 1 (by decide) (by decide) w735 hw735 at_226 N731 gn719 fun T736 h737 ls738 X739 e740 W741 B742 N743 => ?_
      have F744 := F732.other W741 ne718
      have F745 := F733.other W741 ne717
      have Zs746 := Nat.le_trans Zs734 (Nat.le_of_eq W741.size.symm)
      refine g_aload 229 rfl C X739 at_227 rfl rfl ?_
      refine g_iconst 230 rfl C X739 (2 : Int32) at_229 rfl ?_
      refine g_aload 232 rfl C X739 at_230 rfl rfl ?_
      refine g_iconst 233 rfl C X739 (2 : Int32) at_232 rfl ?_
      refine g_caload 234 rfl C X739 e740 F744 2 (by decide) (by decide) w137 ((upd_ne (by omega)).trans (upd_same (by omega))) at_233 ?_
      obtain ⟨w747, hw747⟩ : ∃ z : Int32, ((w137).toUInt32.toUInt16.toUInt32.toInt32) = z := ⟨_, rfl⟩
      refine g_castore 235 rfl C X739 e740 B742 2 (by decide) (by decide) w747 hw747 at_234 N743 gn719 fun T748 h749 ls750 X751 e752 W753 B754 N755 => ?_
      have F756 := F744.other W753 ne718
      have F757 := F745.other W753 ne717
      have Zs758 := Nat.le_trans Zs746 (Nat.le_of_eq W753.size.symm)
      refine g_aload 237 rfl C X751 at_235 rfl rfl ?_
      refine g_iconst 238 rfl C X751 (3 : Int32) at_237 rfl ?_
      refine g_aload 240 rfl C X751 at_238 rfl rfl ?_
      refine g_iconst 241 rfl C X751 (3 : Int32) at_240 rfl ?_
      refine g_caload 242 rfl C X751 e752 F756 3 (by decide) (by decide) w181 (upd_same (by omega)) at_241 ?_
      obtain ⟨w759, hw759⟩ : ∃ z : Int32, ((w181).toUInt32.toUInt16.toUInt32.toInt32) = z := ⟨_, rfl⟩
      refine g_castore 243 rfl C X751 e752 B754 3 (by decide) (by decide) w759 hw759 at_242 N755 gn719 fun T760 h761 ls762 X763 e764 W765 B766 N767 => ?_
      have F768 := F756.other W765 ne718
      have F769 := F757.other W765 ne717
      have Zs770 := Nat.le_trans Zs758 (Nat.le_of_eq W765.size.symm)
      refine g_aload 245 rfl C X763 at_243 rfl rfl ?_
      refine g_iload 247 rfl C X763 at_245 rfl ?_
      refine g_iload 249 rfl C X763 at_247 rfl ?_
      obtain ⟨w771, hw771⟩ : ∃ z : Int32, ((r222).toUInt32.toUInt16.toUInt32.toInt32) = z := ⟨_, rfl⟩
      refine g_castore 250 rfl C X763 e764 B766 3 (by decide) (by decide) w771 hw771 at_249 N767 gn719 fun T772 h773 ls774 X775 e776 W777 B778 N779 => ?_
      have F780 := F768.other W777 ne718
      have F781 := F769.other W777 ne717
      have Zs782 := Nat.le_trans Zs770 (Nat.le_of_eq W777.size.symm)
      refine g_aload 252 rfl C X775 at_250 rfl rfl ?_
      refine g_aload 254 rfl C X775 at_252 rfl rfl ?_
      refine g_iload 256 rfl C X775 at_254 rfl ?_
      refine g_iconst 257 rfl C X775 (1 : Int32) at_256 rfl ?_
      refine g_iadd 258 rfl C X775 at_257 ?_
      refine g_iload 260 rfl C X775 at_258 rfl ?_
      refine g_iconst 261 rfl C X775 (1 : Int32) at_260 rfl ?_
      refine g_iadd 262 rfl C X775 at_261 ?_
      refine g_callS 265 rfl C X775 (argsL := [(.ref o7), (.ref o711), (.int ((3 : Int32) + (1 : Int32))), (.int ((3 : Int32) + (1 : Int32)))]) (hw _ (List.mem_of_getElem? (i := 6) rfl)) (hw _ (List.mem_of_getElem? (i := 7) rfl)) (hw _ (List.mem_of_getElem? (i := 8) rfl)) (hw _ (List.mem_of_getElem? (i := 3) rfl)) e776 (rm2_4_4 l Z a0 hw [] o7 o711 (upd (upd (upd (upd (fun _ => 0) 0 w49) 1 w93) 2 w137) 3 w181) (upd (upd (upd (upd (upd (fun _ => 0) 0 w723) 1 w735) 2 w747) 3 w759) 3 w771) w49 w93 w137 w181 w723 w735 w747 w771 h773 n0 Zs782 F780 B778 ((upd_ne (by omega)).trans ((upd_ne (by omega)).trans ((upd_ne (by omega)).trans (upd_same (by omega))))) ((upd_ne (by omega)).trans ((upd_ne (by omega)).trans (upd_same (by omega)))) ((upd_ne (by omega)).trans (upd_same (by omega))) (upd_same (by omega)) ((upd_ne (by omega)).trans ((upd_ne (by omega)).trans ((upd_ne (by omega)).trans ((upd_ne (by omega)).trans (upd_same (by omega)))))) ((upd_ne (by omega)).trans ((upd_ne (by omega)).trans ((upd_ne (by omega)).trans (upd_same (by omega))))) ((upd_ne (by omega)).trans ((upd_ne (by omega)).trans (upd_same (by omega)))) (upd_same (by omega))) (lenOf pd_50052781 rfl) (by decide) (by decide) (by decide) (by decide) rfl (W := 0) (Nat.le_of_eq rfl) (by decide) at_262 rfl fun r783 T784 Lc785 X786 hQ787 => ?_
      obtain ⟨r788, rfl, hs789, Nq790, eh791⟩ := hQ787
      have hq792 : 0 ≤ r788.toInt ∧ r788.toInt ≤ 4 := by
        clear hs245 hs266 hs287 hs308
        omega
      have N793 := Fr.app N779 Nq790
      show Goes _ _ _ _ _ _ 265 _ [(.int r788)]
      refine g_istore 267 rfl C X786 r788 rfl #[.val (.int p0), .val (.int p1), .val (.int p2), .val (.int p3), .val (.int p4), .val (.int v1), .val (.int v2), .val (.int v3), .val (.int v4), .val (.ref o7), .val (.int v191), .val (.int r222), .val (.ref o229), .val (.int (3 : Int32)), .val (.ref o711), .val (.int r788), .unset] at_265 rfl ?_
      refine g_aload 269 rfl C X786 at_267 rfl rfl ?_
      refine g_aload 271 rfl C X786 at_269 rfl rfl ?_
      refine g_iload 273 rfl C X786 at_271 rfl ?_
      refine g_iload 275 rfl C X786 at_273 rfl ?_
      refine g_callS 278 rfl C X786 (argsL := [(.ref o7), (.ref o229), (.int (3 : Int32)), (.int r222)]) (hw _ (List.mem_of_getElem? (i := 12) rfl)) (hw _ (List.mem_of_getElem? (i := 13) rfl)) (hw _ (List.mem_of_getElem? (i := 15) rfl)) (hw _ (List.mem_of_getElem? (i := 14) rfl)) eh791 (rm4_3 l Z a0 hw [] o7 o229 r222 (upd (upd (upd (upd (fun _ => 0) 0 w49) 1 w93) 2 w137) 3 w181) (upd (upd (upd (upd (fun _ => 0) 0 r244) 1 r265) 2 r286) 3 r307) w49 w93 w137 w181 r244 r265 r286 h773 n0 Zs782 F780 F781 ((upd_ne (by omega)).trans ((upd_ne (by omega)).trans ((upd_ne (by omega)).trans (upd_same (by omega))))) ((upd_ne (by omega)).trans ((upd_ne (by omega)).trans (upd_same (by omega)))) ((upd_ne (by omega)).trans (upd_same (by omega))) (upd_same (by omega)) ((upd_ne (by omega)).trans ((upd_ne (by omega)).trans ((upd_ne (by omega)).trans (upd_same (by omega))))) ((upd_ne (by omega)).trans ((upd_ne (by omega)).trans (upd_same (by omega)))) ((upd_ne (by omega)).trans (upd_same (by omega))) hq248 hq269 hq290) (lenOf pd_16949341 rfl) (by decide) (by decide) (by decide) (by decide) rfl (W := 0) (Nat.le_of_eq rfl) (by decide) at_275 rfl fun r794 T795 Lc796 X797 hQ798 => ?_
      obtain ⟨r799, rfl, hs800, Nq801, eh802⟩ := hQ798
      have N803 := Fr.app N793 Nq801
      show Goes _ _ _ _ _ _ 278 _ [(.int r799)]
      refine g_istore 280 rfl C X797 r799 rfl #[.val (.int p0), .val (.int p1), .val (.int p2), .val (.int p3), .val (.int p4), .val (.int v1), .val (.int v2), .val (.int v3), .val (.int v4), .val (.ref o7), .val (.int v191), .val (.int r222), .val (.ref o229), .val (.int (3 : Int32)), .val (.ref o711), .val (.int r788), .val (.int r799)] at_278 rfl ?_
      refine g_iload 282 rfl C X797 at_280 rfl ?_
      refine g_iload 284 rfl C X797 at_282 rfl ?_
      have hq804 : w723.toInt = w49.toInt := by
        clear hs245 hs266 hs287 hs308 hs789 hs800
        have fr805 := rng32 w723
        have fr806 := rng32 w49
        have fr807 := rng32 r44
        have fo808 := c_i2c r44
        have fe809 : ((r44).toUInt32.toUInt16.toUInt32.toInt32).toInt = w49.toInt := congrArg Int32.toInt hw49
        have fo810 := c_i2c w49
        have fe811 : ((w49).toUInt32.toUInt16.toUInt32.toInt32).toInt = w723.toInt := congrArg Int32.toInt hw723
        omega
      have hq812 : w735.toInt = w93.toInt := by
        clear hs245 hs266 hs287 hs308 hs789 hs800
        have fr813 := rng32 w735
        have fr814 := rng32 w93
        have fr815 := rng32 r88
        have fo816 := c_i2c r88
        have fe817 : ((r88).toUInt32.toUInt16.toUInt32.toInt32).toInt = w93.toInt := congrArg Int32.toInt hw93
        have fo818 := c_i2c w93
        have fe819 : ((w93).toUInt32.toUInt16.toUInt32.toInt32).toInt = w735.toInt := congrArg Int32.toInt hw735
        omega
      have hq820 : w747.toInt = w137.toInt := by
        clear hs245 hs266 hs287 hs308 hs789 hs800
        have fr821 := rng32 w747
        have fr822 := rng32 w137
        have fr823 := rng32 r132
        have fo824 := c_i2c r132
        have fe825 : ((r132).toUInt32.toUInt16.toUInt32.toInt32).toInt = w137.toInt := congrArg Int32.toInt hw137
        have fo826 := c_i2c w137
        have fe827 : ((w137).toUInt32.toUInt16.toUInt32.toInt32).toInt = w747.toInt := congrArg Int32.toInt hw747
        omega
      have hq828 : w771.toInt = r222.toInt := by
        clear hs245 hs266 hs287 hs308 hs789 hs800
        have fr829 := rng32 w771
        have fr830 := rng32 r222
        have fo831 := c_i2c r222
        have fe832 : ((r222).toUInt32.toUInt16.toUInt32.toInt32).toInt = w771.toInt := congrArg Int32.toInt hw771
        omega
      try rw [hq804] at hs789
      try rw [hq812] at hs789
      try rw [hq820] at hs789
      try rw [hq828] at hs789
      have hg833 : r799.toInt = r788.toInt := own_k3 w49.toInt w93.toInt w137.toInt w181.toInt r222.toInt r265.toInt r286.toInt r788.toInt r799.toInt hs266 hs287 hs789 hs800
      have hb834 : r799.toInt = r788.toInt := hg833
      refine g_icmp_ne_f 287 rfl C X797 at_284 hb834 ?_
      refine g_iconst 288 rfl C X797 (1 : Int32) at_287 rfl ?_
      refine g_goto 292 C X797 at_288 (by decide) (by decide) ?_
      exact g_retN C X797 (z' := (1 : Int32)) rfl (Or.inl rfl) at_292 eh802 (by decide) (by decide) rfl ⟨rfl, N803⟩
  · skip
    refine g_icmp_ge_t 139 C X185 at_118 (by decide) (by decide) hb192 ?_
    refine g_iload 141 rfl C X185 at_139 rfl ?_
    refine g_i2c 142 rfl C X185 at_141 ?_
    obtain ⟨v835, hv835⟩ : ∃ z : Int32, ((p4).toUInt32.toUInt16.toUInt32.toInt32) = z := ⟨_, rfl⟩
    refine g_istore 144 rfl C X185 v835 hv835 #[.val (.int p0), .val (.int p1), .val (.int p2), .val (.int p3), .val (.int p4), .val (.int v1), .val (.int v2), .val (.int v3), .val (.int v4), .val (.ref o7), .val (.int v191), .val (.int v835), .unset, .unset, .unset, .unset, .unset] at_142 rfl ?_
    refine g_iconst 145 rfl C X185 (4 : Int32) at_144 rfl ?_
    refine g_newP 147 rfl C X185 4 (by decide) 4 (by decide) (by decide) rfl (hw _ (List.mem_of_getElem? (i := 5) rfl)) e186 at_145 (by decide) (by decide) fun T836 h837 o838 g839 X840 e841 E842 B843 => ?_
    have ne844 : o7 ≠ o838 := by rw [g839]; exact Nat.ne_of_lt B188.lt
    have gn845 : n0 ≤ o838 := by rw [g839]; exact Zs190
    have F846 := B188.ext E842
    have Zs847 := Nat.le_trans Zs190 E842.1
    refine g_astore 149 rfl C X840 #[.val (.int p0), .val (.int p1), .val (.int p2), .val (.int p3), .val (.int p4), .val (.int v1), .val (.int v2), .val (.int v3), .val (.int v4), .val (.ref o7), .val (.int v191), .val (.int v835), .val (.ref o838), .unset, .unset, .unset, .unset] at_147 rfl rfl ?_
    refine g_aload 151 rfl C X840 at_149 rfl rfl ?_
    refine g_iconst 152 rfl C X840 (0 : Int32) at_151 rfl ?_
    refine g_aload 154 rfl C X840 at_152 rfl rfl ?_
    refine g_aload 156 rfl C X840 at_154 rfl rfl ?_
    refine g_iconst 157 rfl C X840 (1 : Int32) at_156 rfl ?_
    refine g_iconst 158 rfl C X840 (0 : Int32) at_157 rfl ?_
    refine g_callS 161 rfl C X840 (argsL := [(.ref o7), (.ref o7), (.int (1 : Int32)), (.int (0 : Int32))]) (hw _ (List.mem_of_getElem? (i := 6) rfl)) (hw _ (List.mem_of_getElem? (i := 7) rfl)) (hw _ (List.mem_of_getElem? (i := 8) rfl)) (hw _ (List.mem_of_getElem? (i := 3) rfl)) e841 (rm2_1_0 l Z a0 hw [] o7 o7 (upd (upd (upd (upd (fun _ => 0) 0 w49) 1 w93) 2 w137) 3 w181) (upd (upd (upd (upd (fun _ => 0) 0 w49) 1 w93) 2 w137) 3 w181) w49 w93 w137 w181 w49 w93 w137 w181 h837 n0 Zs847 F846 F846 ((upd_ne (by omega)).trans ((upd_ne (by omega)).trans ((upd_ne (by omega)).trans (upd_same (by omega))))) ((upd_ne (by omega)).trans ((upd_ne (by omega)).trans (upd_same (by omega)))) ((upd_ne (by omega)).trans (upd_same (by omega))) (upd_same (by omega)) ((upd_ne (by omega)).trans ((upd_ne (by omega)).trans ((upd_ne (by omega)).trans (upd_same (by omega))))) ((upd_ne (by omega)).trans ((upd_ne (by omega)).trans (upd_same (by omega)))) ((upd_ne (by omega)).trans (upd_same (by omega))) (upd_same (by omega))) (lenOf pd_50052781 rfl) (by decide) (by decide) (by decide) (by decide) rfl (W := 2) (Nat.le_of_eq rfl) (by decide) at_158 rfl fun r848 T849 Lc850 X851 hQ852 => ?_
    obtain ⟨r853, rfl, hs854, Nq855, eh856⟩ := hQ852
    have hq857 : 0 ≤ r853.toInt ∧ r853.toInt ≤ 0 := by
      omega
    have N858 := Fr.app N189 Nq855
    show Goes _ _ _ _ _ _ 161 _ [(.int r853), (.int (0 : Int32)), (.ref o838)]
    refine g_iastore 162 rfl C X851 eh856 B843 0 (by decide) (by decide) r853 rfl at_161 N858 gn845 fun T859 h860 ls861 X862 e863 W864 B865 N866 => ?_
    have F867 := F846.other W864 ne844
    have Zs868 := Nat.le_trans Zs847 (Nat.le_of_eq W864.size.symm)
    refine g_aload 164 rfl C X862 at_162 rfl rfl ?_
    refine g_iconst 165 rfl C X862 (1 : Int32) at_164 rfl ?_
    refine g_aload 167 rfl C X862 at_165 rfl rfl ?_
    refine g_aload 169 rfl C X862 at_167 rfl rfl ?_
    refine g_iconst 170 rfl C X862 (2 : Int32) at_169 rfl ?_
    refine g_iconst 171 rfl C X862 (1 : Int32) at_170 rfl ?_
    refine g_callS 174 rfl C X862 (argsL := [(.ref o7), (.ref o7), (.int (2 : Int32)), (.int (1 : Int32))]) (hw _ (List.mem_of_getElem? (i := 6) rfl)) (hw _ (List.mem_of_getElem? (i := 7) rfl)) (hw _ (List.mem_of_getElem? (i := 8) rfl)) (hw _ (List.mem_of_getElem? (i := 3) rfl)) e863 (rm2_2_1 l Z a0 hw [] o7 o7 (upd (upd (upd (upd (fun _ => 0) 0 w49) 1 w93) 2 w137) 3 w181) (upd (upd (upd (upd (fun _ => 0) 0 w49) 1 w93) 2 w137) 3 w181) w49 w93 w137 w181 w49 w93 w137 w181 h860 n0 Zs868 F867 F867 ((upd_ne (by omega)).trans ((upd_ne (by omega)).trans ((upd_ne (by omega)).trans (upd_same (by omega))))) ((upd_ne (by omega)).trans ((upd_ne (by omega)).trans (upd_same (by omega)))) ((upd_ne (by omega)).trans (upd_same (by omega))) (upd_same (by omega)) ((upd_ne (by omega)).trans ((upd_ne (by omega)).trans ((upd_ne (by omega)).trans (upd_same (by omega))))) ((upd_ne (by omega)).trans ((upd_ne (by omega)).trans (upd_same (by omega)))) ((upd_ne (by omega)).trans (upd_same (by omega))) (upd_same (by omega))) (lenOf pd_50052781 rfl) (by decide) (by decide) (by decide) (by decide) rfl (W := 2) (Nat.le_of_eq rfl) (by decide) at_171 rfl fun r869 T870 Lc871 X872 hQ873 => ?_
    obtain ⟨r874, rfl, hs875, Nq876, eh877⟩ := hQ873
    have hq878 : 0 ≤ r874.toInt ∧ r874.toInt ≤ 1 := by
      clear hs854
      omega
    have N879 := Fr.app N866 Nq876
    show Goes _ _ _ _ _ _ 174 _ [(.int r874), (.int (1 : Int32)), (.ref o838)]
    refine g_iastore 175 rfl C X872 eh877 B865 1 (by decide) (by decide) r874 rfl at_174 N879 gn845 fun T880 h881 ls882 X883 e884 W885 B886 N887 => ?_
    have F888 := F867.other W885 ne844
    have Zs889 := Nat.le_trans Zs868 (Nat.le_of_eq W885.size.symm)
    refine g_aload 177 rfl C X883 at_175 rfl rfl ?_
    refine g_iconst 178 rfl C X883 (2 : Int32) at_177 rfl ?_
    refine g_aload 180 rfl C X883 at_178 rfl rfl ?_
    refine g_aload 182 rfl C X883 at_180 rfl rfl ?_
    refine g_iconst 183 rfl C X883 (3 : Int32) at_182 rfl ?_
    refine g_iconst 184 rfl C X883 (2 : Int32) at_183 rfl ?_
    refine g_callS 187 rfl C X883 (argsL := [(.ref o7), (.ref o7), (.int (3 : Int32)), (.int (2 : Int32))]) (hw _ (List.mem_of_getElem? (i := 6) rfl)) (hw _ (List.mem_of_getElem? (i := 7) rfl)) (hw _ (List.mem_of_getElem? (i := 8) rfl)) (hw _ (List.mem_of_getElem? (i := 3) rfl)) e884 (rm2_3_2 l Z a0 hw [] o7 o7 (upd (upd (upd (upd (fun _ => 0) 0 w49) 1 w93) 2 w137) 3 w181) (upd (upd (upd (upd (fun _ => 0) 0 w49) 1 w93) 2 w137) 3 w181) w49 w93 w137 w181 w49 w93 w137 w181 h881 n0 Zs889 F888 F888 ((upd_ne (by omega)).trans ((upd_ne (by omega)).trans ((upd_ne (by omega)).trans (upd_same (by omega))))) ((upd_ne (by omega)).trans ((upd_ne (by omega)).trans (upd_same (by omega)))) ((upd_ne (by omega)).trans (upd_same (by omega))) (upd_same (by omega)) ((upd_ne (by omega)).trans ((upd_ne (by omega)).trans ((upd_ne (by omega)).trans (upd_same (by omega))))) ((upd_ne (by omega)).trans ((upd_ne (by omega)).trans (upd_same (by omega)))) ((upd_ne (by omega)).trans (upd_same (by omega))) (upd_same (by omega))) (lenOf pd_50052781 rfl) (by decide) (by decide) (by decide) (by decide) rfl (W := 2) (Nat.le_of_eq rfl) (by decide) at_184 rfl fun r890 T891 Lc892 X893 hQ894 => ?_
    obtain ⟨r895, rfl, hs896, Nq897, eh898⟩ := hQ894
    have hq899 : 0 ≤ r895.toInt ∧ r895.toInt ≤ 2 := by
      clear hs854 hs875
      omega
    have N900 := Fr.app N887 Nq897
    show Goes _ _ _ _ _ _ 187 _ [(.int r895), (.int (2 : Int32)), (.ref o838)]
    refine g_iastore 188 rfl C X893 eh898 B886 2 (by decide) (by decide) r895 rfl at_187 N900 gn845 fun T901 h902 ls903 X904 e905 W906 B907 N908 => ?_
    have F909 := F888.other W906 ne844
    have Zs910 := Nat.le_trans Zs889 (Nat.le_of_eq W906.size.symm)
    refine g_aload 190 rfl C X904 at_188 rfl rfl ?_
    refine g_iconst 191 rfl C X904 (3 : Int32) at_190 rfl ?_
    refine g_aload 193 rfl C X904 at_191 rfl rfl ?_
    refine g_aload 195 rfl C X904 at_193 rfl rfl ?_
    refine g_iconst 196 rfl C X904 (4 : Int32) at_195 rfl ?_
    refine g_iconst 197 rfl C X904 (3 : Int32) at_196 rfl ?_
    refine g_callS 200 rfl C X904 (argsL := [(.ref o7), (.ref o7), (.int (4 : Int32)), (.int (3 : Int32))]) (hw _ (List.mem_of_getElem? (i := 6) rfl)) (hw _ (List.mem_of_getElem? (i := 7) rfl)) (hw _ (List.mem_of_getElem? (i := 8) rfl)) (hw _ (List.mem_of_getElem? (i := 3) rfl)) e905 (rm2_4_3 l Z a0 hw [] o7 o7 (upd (upd (upd (upd (fun _ => 0) 0 w49) 1 w93) 2 w137) 3 w181) (upd (upd (upd (upd (fun _ => 0) 0 w49) 1 w93) 2 w137) 3 w181) w49 w93 w137 w181 w49 w93 w137 w181 h902 n0 Zs910 F909 F909 ((upd_ne (by omega)).trans ((upd_ne (by omega)).trans ((upd_ne (by omega)).trans (upd_same (by omega))))) ((upd_ne (by omega)).trans ((upd_ne (by omega)).trans (upd_same (by omega)))) ((upd_ne (by omega)).trans (upd_same (by omega))) (upd_same (by omega)) ((upd_ne (by omega)).trans ((upd_ne (by omega)).trans ((upd_ne (by omega)).trans (upd_same (by omega))))) ((upd_ne (by omega)).trans ((upd_ne (by omega)).trans (upd_same (by omega)))) ((upd_ne (by omega)).trans (upd_same (by omega))) (upd_same (by omega))) (lenOf pd_50052781 rfl) (by decide) (by decide) (by decide) (by decide) rfl (W := 2) (Nat.le_of_eq rfl) (by decide) at_197 rfl fun r911 T912 Lc913 X914 hQ915 => ?_
    obtain ⟨r916, rfl, hs917, Nq918, eh919⟩ := hQ915
    have hq920 : 0 ≤ r916.toInt ∧ r916.toInt ≤ 3 := by
      clear hs854 hs875 hs896
      omega
    have N921 := Fr.app N908 Nq918
    show Goes _ _ _ _ _ _ 200 _ [(.int r916), (.int (3 : Int32)), (.ref o838)]
    refine g_iastore 201 rfl C X914 eh919 B907 3 (by decide) (by decide) r916 rfl at_200 N921 gn845 fun T922 h923 ls924 X925 e926 W927 B928 N929 => ?_
    have F930 := F909.other W927 ne844
    have Zs931 := Nat.le_trans Zs910 (Nat.le_of_eq W927.size.symm)
    refine g_iloadN 202 rfl C X925 at_201 rfl ?_
    refine g_iconst 203 rfl C X925 (3 : Int32) at_202 rfl ?_
    refine g_iand 204 rfl C X925 at_203 ?_
    obtain ⟨v932, hv932⟩ : ∃ z : Int32, (p3 &&& (3 : Int32)) = z := ⟨_, rfl⟩
    refine g_istore 206 rfl C X925 v932 hv932 #[.val (.int p0), .val (.int p1), .val (.int p2), .val (.int p3), .val (.int p4), .val (.int v1), .val (.int v2), .val (.int v3), .val (.int v4), .val (.ref o7), .val (.int v191), .val (.int v835), .val (.ref o838), .val (.int v932), .unset, .unset, .unset] at_204 rfl ?_
    have hq933 : v932.toInt = 0 ∨ v932.toInt = 1 ∨ v932.toInt = 2 ∨ v932.toInt = 3 := by
      have fr934 := rng32 v932
      have fr935 := rng32 p3
      have fc936 : (3 : Int32).toInt = 3 := rfl
      have fo937 : (p3 &&& (3 : Int32)).toInt = p3.toInt % 4 := c_mask p3 (3 : Int32) 2 (by decide) (by decide)
      have fe938 : (p3 &&& (3 : Int32)).toInt = v932.toInt := congrArg Int32.toInt hv932
      omega
    have hc939 : v932 = (0 : Int32) ∨ v932 = (1 : Int32) ∨ v932 = (2 : Int32) ∨ v932 = (3 : Int32) := by
      rcases hq933 with q | q | q | q
      · exact (Or.inl (own_eq q))
      · exact (Or.inr (Or.inl (own_eq q)))
      · exact (Or.inr (Or.inr (Or.inl (own_eq q))))
      · exact (Or.inr (Or.inr (Or.inr (own_eq q))))
    clear hq933
    rcases hc939 with rfl | rfl | rfl | rfl
    · skip
      refine g_iconst 207 rfl C X925 (4 : Int32) at_206 rfl ?_
      refine g_newP 209 rfl C X925 4 (by decide) 4 (by decide) (by decide) rfl (hw _ (List.mem_of_getElem? (i := 0) rfl)) e926 at_207 (by decide) (by decide) fun T940 h941 o942 g943 X944 e945 E946 B947 => ?_
      have ne948 : o7 ≠ o942 := by rw [g943]; exact Nat.ne_of_lt F930.lt
      have ne949 : o838 ≠ o942 := by rw [g943]; exact Nat.ne_of_lt B928.lt
      have gn950 : n0 ≤ o942 := by rw [g943]; exact Zs931
      have F951 := F930.ext E946
      have F952 := B928.ext E946
      have Zs953 := Nat.le_trans Zs931 E946.1
      refine g_astore 211 rfl C X944 #[.val (.int p0), .val (.int p1), .val (.int p2), .val (.int p3), .val (.int p4), .val (.int v1), .val (.int v2), .val (.int v3), .val (.int v4), .val (.ref o7), .val (.int v191), .val (.int v835), .val (.ref o838), .val (.int (0 : Int32)), .val (.ref o942), .unset, .unset] at_209 rfl rfl ?_
      refine g_aload 213 rfl C X944 at_211 rfl rfl ?_
      refine g_iconst 214 rfl C X944 (0 : Int32) at_213 rfl ?_
      refine g_aload 216 rfl C X944 at_214 rfl rfl ?_
      refine g_iconst 217 rfl C X944 (0 : Int32) at_216 rfl ?_
      refine g_caload 218 rfl C X944 e945 F951 0 (by decide) (by decide) w49 ((upd_ne (by omega)).trans ((upd_ne (by omega)).trans ((upd_ne (by omega)).trans (upd_same (by omega))))) at_217 ?_
      obtain ⟨w954, hw954⟩ : ∃ z : Int32, ((w49).toUInt32.toUInt16.toUInt32.toInt32) = z := ⟨_, rfl⟩
      refine g_castore 219 rfl C X944 e945 B947 0 (by decide) (by decide) w954 hw954 at_218 N929 gn950 fun T955 h956 ls957 X958 e959 W960 B961 N962 => ?_
      have F963 := F951.other W960 ne948
      have F964 := F952.other W960 ne949
      have Zs965 := Nat.le_trans Zs953 (Nat.le_of_eq W960.size.symm)
      refine g_aload 221 rfl C X958 at_219 rfl rfl ?_
      refine g_iconst 222 rfl C X958 (1 : Int32) at_221 rfl ?_
      refine g_aload 224 rfl C X958 at_222 rfl rfl ?_
      refine g_iconst 225 rfl C X958 (1 : Int32) at_224 rfl ?_
      refine g_caload 226 rfl C X958 e959 F963 1 (by decide) (by decide) w93 ((upd_ne (by omega)).trans ((upd_ne (by omega)).trans (upd_same (by omega)))) at_225 ?_
      obtain ⟨w966, hw966⟩ : ∃ z : Int32, ((w93).toUInt32.toUInt16.toUInt32.toInt32) = z := ⟨_, rfl⟩
      refine g_castore 227 rfl C X958 e959 B961 1 (by decide) (by decide) w966 hw966 at_226 N962 gn950 fun T967 h968 ls969 X970 e971 W972 B973 N974 => ?_
      have F975 := F963.other W972 ne948
      have F976 := F964.other W972 ne949
      have Zs977 := Nat.le_trans Zs965 (Nat.le_of_eq W972.size.symm)
      refine g_aload 229 rfl C X970 at_227 rfl rfl ?_
      refine g_iconst 230 rfl C X970 (2 : Int32) at_229 rfl ?_
      refine g_aload 232 rfl C X970 at_230 rfl rfl ?_
      refine g_iconst 233 rfl C X970 (2 : Int32) at_232 rfl ?_
      refine g_caload 234 rfl C X970 e971 F975 2 (by decide) (by decide) w137 ((upd_ne (by omega)).trans (upd_same (by omega))) at_233 ?_
      obtain ⟨w978, hw978⟩ : ∃ z : Int32, ((w137).toUInt32.toUInt16.toUInt32.toInt32) = z := ⟨_, rfl⟩
      refine g_castore 235 rfl C X970 e971 B973 2 (by decide) (by decide) w978 hw978 at_234 N974 gn950 fun T979 h980 ls981 X982 e983 W984 B985 N986 => ?_
      have F987 := F975.other W984 ne948
      have F988 := F976.other W984 ne949
      have Zs989 := Nat.le_trans Zs977 (Nat.le_of_eq W984.size.symm)
      refine g_aload 237 rfl C X982 at_235 rfl rfl ?_
      refine g_iconst 238 rfl C X982 (3 : Int32) at_237 rfl ?_
      refine g_aload 240 rfl C X982 at_238 rfl rfl ?_
      refine g_iconst 241 rfl C X982 (3 : Int32) at_240 rfl ?_
      refine g_caload 242 rfl C X982 e983 F987 3 (by decide) (by decide) w181 (upd_same (by omega)) at_241 ?_
      obtain ⟨w990, hw990⟩ : ∃ z : Int32, ((w181).toUInt32.toUInt16.toUInt32.toInt32) = z := ⟨_, rfl⟩
      refine g_castore 243 rfl C X982 e983 B985 3 (by decide) (by decide) w990 hw990 at_242 N986 gn950 fun T991 h992 ls993 X994 e995 W996 B997 N998 => ?_
      have F999 := F987.other W996 ne948
      have F1000 := F988.other W996 ne949
      have Zs1001 := Nat.le_trans Zs989 (Nat.le_of_eq W996.size.symm)
      refine g_aload 245 rfl C X994 at_243 rfl rfl ?_
      refine g_iload 247 rfl C X994 at_245 rfl ?_
      refine g_iload 249 rfl C X994 at_247 rfl ?_
      obtain ⟨w1002, hw1002⟩ : ∃ z : Int32, ((v835).toUInt32.toUInt16.toUInt32.toInt32) = z := ⟨_, rfl⟩
      refine g_castore 250 rfl C X994 e995 B997 0 (by decide) (by decide) w1002 hw1002 at_249 N998 gn950 fun T1003 h1004 ls1005 X1006 e1007 W1008 B1009 N1010 => ?_
      have F1011 := F999.other W1008 ne948
      have F1012 := F1000.other W1008 ne949
      have Zs1013 := Nat.le_trans Zs1001 (Nat.le_of_eq W1008.size.symm)
      refine g_aload 252 rfl C X1006 at_250 rfl rfl ?_
      refine g_aload 254 rfl C X1006 at_252 rfl rfl ?_
      refine g_iload 256 rfl C X1006 at_254 rfl ?_
      refine g_iconst 257 rfl C X1006 (1 : Int32) at_256 rfl ?_
      refine g_iadd 258 rfl C X1006 at_257 ?_
      refine g_iload 260 rfl C X1006 at_258 rfl ?_
      refine g_iconst 261 rfl C X1006 (1 : Int32) at_260 rfl ?_
      refine g_iadd 262 rfl C X1006 at_261 ?_
      refine g_callS 265 rfl C X1006 (argsL := [(.ref o7), (.ref o942), (.int ((0 : Int32) + (1 : Int32))), (.int ((0 : Int32) + (1 : Int32)))]) (hw _ (List.mem_of_getElem? (i := 6) rfl)) (hw _ (List.mem_of_getElem? (i := 7) rfl)) (hw _ (List.mem_of_getElem? (i := 8) rfl)) (hw _ (List.mem_of_getElem? (i := 3) rfl)) e1007 (rm2_1_1 l Z a0 hw [] o7 o942 (upd (upd (upd (upd (fun _ => 0) 0 w49) 1 w93) 2 w137) 3 w181) (upd (upd (upd (upd (upd (fun _ => 0) 0 w954) 1 w966) 2 w978) 3 w990) 0 w1002) w49 w93 w137 w181 w1002 w966 w978 w990 h1004 n0 Zs1013 F1011 B1009 ((upd_ne (by omega)).trans ((upd_ne (by omega)).trans ((upd_ne (by omega)).trans (upd_same (by omega))))) ((upd_ne (by omega)).trans ((upd_ne (by omega)).trans (upd_same (by omega)))) ((upd_ne (by omega)).trans (upd_same (by omega))) (upd_same (by omega)) (upd_same (by omega)) ((upd_ne (by omega)).trans ((upd_ne (by omega)).trans ((upd_ne (by omega)).trans (upd_same (by omega))))) ((upd_ne (by omega)).trans ((upd_ne (by omega)).trans (upd_same (by omega)))) ((upd_ne (by omega)).trans (upd_same (by omega)))) (lenOf pd_50052781 rfl) (by decide) (by decide) (by decide) (by decide) rfl (W := 0) (Nat.le_of_eq rfl) (by decide) at_262 rfl fun r1014 T1015 Lc1016 X1017 hQ1018 => ?_
      obtain ⟨r1019, rfl, hs1020, Nq1021, eh1022⟩ := hQ1018
      have hq1023 : 0 ≤ r1019.toInt ∧ r1019.toInt ≤ 1 := by
        clear hs854 hs875 hs896 hs917
        omega
      have N1024 := Fr.app N1010 Nq1021
      show Goes _ _ _ _ _ _ 265 _ [(.int r1019)]
      refine g_istore 267 rfl C X1017 r1019 rfl #[.val (.int p0), .val (.int p1), .val (.int p2), .val (.int p3), .val (.int p4), .val (.int v1), .val (.int v2), .val (.int v3), .val (.int v4), .val (.ref o7), .val (.int v191), .val (.int v835), .val (.ref o838), .val (.int (0 : Int32)), .val (.ref o942), .val (.int r1019), .unset] at_265 rfl ?_
      refine g_aload 269 rfl C X1017 at_267 rfl rfl ?_
      refine g_aload 271 rfl C X1017 at_269 rfl rfl ?_
      refine g_iload 273 rfl C X1017 at_271 rfl ?_
      refine g_iload 275 rfl C X1017 at_273 rfl ?_
      refine g_callS 278 rfl C X1017 (argsL := [(.ref o7), (.ref o838), (.int (0 : Int32)), (.int v835)]) (hw _ (List.mem_of_getElem? (i := 12) rfl)) (hw _ (List.mem_of_getElem? (i := 13) rfl)) (hw _ (List.mem_of_getElem? (i := 15) rfl)) (hw _ (List.mem_of_getElem? (i := 14) rfl)) eh1022 (rm4_0 l Z a0 hw [] o7 o838 v835 (upd (upd (upd (upd (fun _ => 0) 0 w49) 1 w93) 2 w137) 3 w181) (upd (upd (upd (upd (fun _ => 0) 0 r853) 1 r874) 2 r895) 3 r916) w49 w93 w137 w181 r853 r874 r895 h1004 n0 Zs1013 F1011 F1012 ((upd_ne (by omega)).trans ((upd_ne (by omega)).trans ((upd_ne (by omega)).trans (upd_same (by omega))))) ((upd_ne (by omega)).trans ((upd_ne (by omega)).trans (upd_same (by omega)))) ((upd_ne (by omega)).trans (upd_same (by omega))) (upd_same (by omega)) ((upd_ne (by omega)).trans ((upd_ne (by omega)).trans ((upd_ne (by omega)).trans (upd_same (by omega))))) ((upd_ne (by omega)).trans ((upd_ne (by omega)).trans (upd_same (by omega)))) ((upd_ne (by omega)).trans (upd_same (by omega))) hq857 hq878 hq899) (lenOf pd_16949341 rfl) (by decide) (by decide) (by decide) (by decide) rfl (W := 0) (Nat.le_of_eq rfl) (by decide) at_275 rfl fun r1025 T1026 Lc1027 X1028 hQ1029 => ?_
      obtain ⟨r1030, rfl, hs1031, Nq1032, eh1033⟩ := hQ1029
      have N1034 := Fr.app N1024 Nq1032
      show Goes _ _ _ _ _ _ 278 _ [(.int r1030)]
      refine g_istore 280 rfl C X1028 r1030 rfl #[.val (.int p0), .val (.int p1), .val (.int p2), .val (.int p3), .val (.int p4), .val (.int v1), .val (.int v2), .val (.int v3), .val (.int v4), .val (.ref o7), .val (.int v191), .val (.int v835), .val (.ref o838), .val (.int (0 : Int32)), .val (.ref o942), .val (.int r1019), .val (.int r1030)] at_278 rfl ?_
      refine g_iload 282 rfl C X1028 at_280 rfl ?_
      refine g_iload 284 rfl C X1028 at_282 rfl ?_
      have hq1035 : w1002.toInt = v835.toInt := by
        clear hs854 hs875 hs896 hs917 hs1020 hs1031
        have fr1036 := rng32 w1002
        have fr1037 := rng32 v835
        have fr1038 := rng32 p4
        have fo1039 := c_i2c p4
        have fe1040 : ((p4).toUInt32.toUInt16.toUInt32.toInt32).toInt = v835.toInt := congrArg Int32.toInt hv835
        have fo1041 := c_i2c v835
        have fe1042 : ((v835).toUInt32.toUInt16.toUInt32.toInt32).toInt = w1002.toInt := congrArg Int32.toInt hw1002
        omega
      have hq1043 : w966.toInt = w93.toInt := by
        clear hs854 hs875 hs896 hs917 hs1020 hs1031
        have fr1044 := rng32 w966
        have fr1045 := rng32 w93
        have fr1046 := rng32 r88
        have fo1047 := c_i2c r88
        have fe1048 : ((r88).toUInt32.toUInt16.toUInt32.toInt32).toInt = w93.toInt := congrArg Int32.toInt hw93
        have fo1049 := c_i2c w93
        have fe1050 : ((w93).toUInt32.toUInt16.toUInt32.toInt32).toInt = w966.toInt := congrArg Int32.toInt hw966
        omega
      have hq1051 : w978.toInt = w137.toInt := by
        clear hs854 hs875 hs896 hs917 hs1020 hs1031
        have fr1052 := rng32 w978
        have fr1053 := rng32 w137
        have fr1054 := rng32 r132
        have fo1055 := c_i2c r132
        have fe1056 : ((r132).toUInt32.toUInt16.toUInt32.toInt32).toInt = w137.toInt := congrArg Int32.toInt hw137
        have fo1057 := c_i2c w137
        have fe1058 : ((w137).toUInt32.toUInt16.toUInt32.toInt32).toInt = w978.toInt := congrArg Int32.toInt hw978
        omega
      have hq1059 : w990.toInt = w181.toInt := by
        clear hs854 hs875 hs896 hs917 hs1020 hs1031
        have fr1060 := rng32 w990
        have fr1061 := rng32 w181
        have fr1062 := rng32 r176
        have fo1063 := c_i2c r176
        have fe1064 : ((r176).toUInt32.toUInt16.toUInt32.toInt32).toInt = w181.toInt := congrArg Int32.toInt hw181
        have fo1065 := c_i2c w181
        have fe1066 : ((w181).toUInt32.toUInt16.toUInt32.toInt32).toInt = w990.toInt := congrArg Int32.toInt hw990
        omega
      try rw [hq1035] at hs1020
      try rw [hq1043] at hs1020
      try rw [hq1051] at hs1020
      try rw [hq1059] at hs1020
      have hg1067 : r1030.toInt = r1019.toInt := own_k0 w49.toInt w93.toInt w137.toInt w181.toInt v835.toInt r874.toInt r895.toInt r1019.toInt r1030.toInt hs875 hs896 hs1020 hs1031
      have hb1068 : r1030.toInt = r1019.toInt := hg1067
      refine g_icmp_ne_f 287 rfl C X1028 at_284 hb1068 ?_
      refine g_iconst 288 rfl C X1028 (1 : Int32) at_287 rfl ?_
      refine g_goto 292 C X1028 at_288 (by decide) (by decide) ?_
      exact g_retN C X1028 (z' := (1 : Int32)) rfl (Or.inl rfl) at_292 eh1033 (by decide) (by decide) rfl ⟨rfl, N1034⟩
    · skip
      refine g_iconst 207 rfl C X925 (4 : Int32) at_206 rfl ?_
      refine g_newP 209 rfl C X925 4 (by decide) 4 (by decide) (by decide) rfl (hw _ (List.mem_of_getElem? (i := 0) rfl)) e926 at_207 (by decide) (by decide) fun T1069 h1070 o1071 g1072 X1073 e1074 E1075 B1076 => ?_
      have ne1077 : o7 ≠ o1071 := by rw [g1072]; exact Nat.ne_of_lt F930.lt
      have ne1078 : o838 ≠ o1071 := by rw [g1072]; exact Nat.ne_of_lt B928.lt
      have gn1079 : n0 ≤ o1071 := by rw [g1072]; exact Zs931
      have F1080 := F930.ext E1075
      have F1081 := B928.ext E1075
      have Zs1082 := Nat.le_trans Zs931 E1075.1
      refine g_astore 211 rfl C X1073 #[.val (.int p0), .val (.int p1), .val (.int p2), .val (.int p3), .val (.int p4), .val (.int v1), .val (.int v2), .val (.int v3), .val (.int v4), .val (.ref o7), .val (.int v191), .val (.int v835), .val (.ref o838), .val (.int (1 : Int32)), .val (.ref o1071), .unset, .unset] at_209 rfl rfl ?_
      refine g_aload 213 rfl C X1073 at_211 rfl rfl ?_
      refine g_iconst 214 rfl C X1073 (0 : Int32) at_213 rfl ?_
      refine g_aload 216 rfl C X1073 at_214 rfl rfl ?_
      refine g_iconst 217 rfl C X1073 (0 : Int32) at_216 rfl ?_
      refine g_caload 218 rfl C X1073 e1074 F1080 0 (by decide) (by decide) w49 ((upd_ne (by omega)).trans ((upd_ne (by omega)).trans ((upd_ne (by omega)).trans (upd_same (by omega))))) at_217 ?_
      obtain ⟨w1083, hw1083⟩ : ∃ z : Int32, ((w49).toUInt32.toUInt16.toUInt32.toInt32) = z := ⟨_, rfl⟩
      refine g_castore 219 rfl C X1073 e1074 B1076 0 (by decide) (by decide) w1083 hw1083 at_218 N929 gn1079 fun T1084 h1085 ls1086 X1087 e1088 W1089 B1090 N1091 => ?_
      have F1092 := F1080.other W1089 ne1077
      have F1093 := F1081.other W1089 ne1078
      have Zs1094 := Nat.le_trans Zs1082 (Nat.le_of_eq W1089.size.symm)
      refine g_aload 221 rfl C X1087 at_219 rfl rfl ?_
      refine g_iconst 222 rfl C X1087 (1 : Int32) at_221 rfl ?_
      refine g_aload 224 rfl C X1087 at_222 rfl rfl ?_
      refine g_iconst 225 rfl C X1087 (1 : Int32) at_224 rfl ?_
      refine g_caload 226 rfl C X1087 e1088 F1092 1 (by decide) (by decide) w93 ((upd_ne (by omega)).trans ((upd_ne (by omega)).trans (upd_same (by omega)))) at_225 ?_
      obtain ⟨w1095, hw1095⟩ : ∃ z : Int32, ((w93).toUInt32.toUInt16.toUInt32.toInt32) = z := ⟨_, rfl⟩
      refine g_castore 227 rfl C X1087 e1088 B1090 1 (by decide) (by decide) w1095 hw1095 at_226 N1091 gn1079 fun T1096 h1097 ls1098 X1099 e1100 W1101 B1102 N1103 => ?_
      have F1104 := F1092.other W1101 ne1077
      have F1105 := F1093.other W1101 ne1078
      have Zs1106 := Nat.le_trans Zs1094 (Nat.le_of_eq W1101.size.symm)
      refine g_aload 229 rfl C X1099 at_227 rfl rfl ?_
      refine g_iconst 230 rfl C X1099 (2 : Int32) at_229 rfl ?_
      refine g_aload 232 rfl C X1099 at_230 rfl rfl ?_
      refine g_iconst 233 rfl C X1099 (2 : Int32) at_232 rfl ?_
      refine g_caload 234 rfl C X1099 e1100 F1104 2 (by decide) (by decide) w137 ((upd_ne (by omega)).trans (upd_same (by omega))) at_233 ?_
      obtain ⟨w1107, hw1107⟩ : ∃ z : Int32, ((w137).toUInt32.toUInt16.toUInt32.toInt32) = z := ⟨_, rfl⟩
      refine g_castore 235 rfl C X1099 e1100 B1102 2 (by decide) (by decide) w1107 hw1107 at_234 N1103 gn1079 fun T1108 h1109 ls1110 X1111 e1112 W1113 B1114 N1115 => ?_
      have F1116 := F1104.other W1113 ne1077
      have F1117 := F1105.other W1113 ne1078
      have Zs1118 := Nat.le_trans Zs1106 (Nat.le_of_eq W1113.size.symm)
      refine g_aload 237 rfl C X1111 at_235 rfl rfl ?_
      refine g_iconst 238 rfl C X1111 (3 : Int32) at_237 rfl ?_
      refine g_aload 240 rfl C X1111 at_238 rfl rfl ?_
      refine g_iconst 241 rfl C X1111 (3 : Int32) at_240 rfl ?_
      refine g_caload 242 rfl C X1111 e1112 F1116 3 (by decide) (by decide) w181 (upd_same (by omega)) at_241 ?_
      obtain ⟨w1119, hw1119⟩ : ∃ z : Int32, ((w181).toUInt32.toUInt16.toUInt32.toInt32) = z := ⟨_, rfl⟩
      refine g_castore 243 rfl C X1111 e1112 B1114 3 (by decide) (by decide) w1119 hw1119 at_242 N1115 gn1079 fun T1120 h1121 ls1122 X1123 e1124 W1125 B1126 N1127 => ?_
      have F1128 := F1116.other W1125 ne1077
      have F1129 := F1117.other W1125 ne1078
      have Zs1130 := Nat.le_trans Zs1118 (Nat.le_of_eq W1125.size.symm)
      refine g_aload 245 rfl C X1123 at_243 rfl rfl ?_
      refine g_iload 247 rfl C X1123 at_245 rfl ?_
      refine g_iload 249 rfl C X1123 at_247 rfl ?_
      obtain ⟨w1131, hw1131⟩ : ∃ z : Int32, ((v835).toUInt32.toUInt16.toUInt32.toInt32) = z := ⟨_, rfl⟩
      refine g_castore 250 rfl C X1123 e1124 B1126 1 (by decide) (by decide) w1131 hw1131 at_249 N1127 gn1079 fun T1132 h1133 ls1134 X1135 e1136 W1137 B1138 N1139 => ?_
      have F1140 := F1128.other W1137 ne1077
      have F1141 := F1129.other W1137 ne1078
      have Zs1142 := Nat.le_trans Zs1130 (Nat.le_of_eq W1137.size.symm)
      refine g_aload 252 rfl C X1135 at_250 rfl rfl ?_
      refine g_aload 254 rfl C X1135 at_252 rfl rfl ?_
      refine g_iload 256 rfl C X1135 at_254 rfl ?_
      refine g_iconst 257 rfl C X1135 (1 : Int32) at_256 rfl ?_
      refine g_iadd 258 rfl C X1135 at_257 ?_
      refine g_iload 260 rfl C X1135 at_258 rfl ?_
      refine g_iconst 261 rfl C X1135 (1 : Int32) at_260 rfl ?_
      refine g_iadd 262 rfl C X1135 at_261 ?_
      refine g_callS 265 rfl C X1135 (argsL := [(.ref o7), (.ref o1071), (.int ((1 : Int32) + (1 : Int32))), (.int ((1 : Int32) + (1 : Int32)))]) (hw _ (List.mem_of_getElem? (i := 6) rfl)) (hw _ (List.mem_of_getElem? (i := 7) rfl)) (hw _ (List.mem_of_getElem? (i := 8) rfl)) (hw _ (List.mem_of_getElem? (i := 3) rfl)) e1136 (rm2_2_2 l Z a0 hw [] o7 o1071 (upd (upd (upd (upd (fun _ => 0) 0 w49) 1 w93) 2 w137) 3 w181) (upd (upd (upd (upd (upd (fun _ => 0) 0 w1083) 1 w1095) 2 w1107) 3 w1119) 1 w1131) w49 w93 w137 w181 w1083 w1131 w1107 w1119 h1133 n0 Zs1142 F1140 B1138 ((upd_ne (by omega)).trans ((upd_ne (by omega)).trans ((upd_ne (by omega)).trans (upd_same (by omega))))) ((upd_ne (by omega)).trans ((upd_ne (by omega)).trans (upd_same (by omega)))) ((upd_ne (by omega)).trans (upd_same (by omega))) (upd_same (by omega)) ((upd_ne (by omega)).trans ((upd_ne (by omega)).trans ((upd_ne (by omega)).trans ((upd_ne (by omega)).trans (upd_same (by omega)))))) (upd_same (by omega)) ((upd_ne (by omega)).trans ((upd_ne (by omega)).trans (upd_same (by omega)))) ((upd_ne (by omega)).trans (upd_same (by omega)))) (lenOf pd_50052781 rfl) (by decide) (by decide) (by decide) (by decide) rfl (W := 0) (Nat.le_of_eq rfl) (by decide) at_262 rfl fun r1143 T1144 Lc1145 X1146 hQ1147 => ?_
      obtain ⟨r1148, rfl, hs1149, Nq1150, eh1151⟩ := hQ1147
      have hq1152 : 0 ≤ r1148.toInt ∧ r1148.toInt ≤ 2 := by
        clear hs854 hs875 hs896 hs917
        omega
      have N1153 := Fr.app N1139 Nq1150
      show Goes _ _ _ _ _ _ 265 _ [(.int r1148)]
      refine g_istore 267 rfl C X1146 r1148 rfl #[.val (.int p0), .val (.int p1), .val (.int p2), .val (.int p3), .val (.int p4), .val (.int v1), .val (.int v2), .val (.int v3), .val (.int v4), .val (.ref o7), .val (.int v191), .val (.int v835), .val (.ref o838), .val (.int (1 : Int32)), .val (.ref o1071), .val (.int r1148), .unset] at_265 rfl ?_
      refine g_aload 269 rfl C X1146 at_267 rfl rfl ?_
      refine g_aload 271 rfl C X1146 at_269 rfl rfl ?_
      refine g_iload 273 rfl C X1146 at_271 rfl ?_
      refine g_iload 275 rfl C X1146 at_273 rfl ?_
      refine g_callS 278 rfl C X1146 (argsL := [(.ref o7), (.ref o838), (.int (1 : Int32)), (.int v835)]) (hw _ (List.mem_of_getElem? (i := 12) rfl)) (hw _ (List.mem_of_getElem? (i := 13) rfl)) (hw _ (List.mem_of_getElem? (i := 15) rfl)) (hw _ (List.mem_of_getElem? (i := 14) rfl)) eh1151 (rm4_1 l Z a0 hw [] o7 o838 v835 (upd (upd (upd (upd (fun _ => 0) 0 w49) 1 w93) 2 w137) 3 w181) (upd (upd (upd (upd (fun _ => 0) 0 r853) 1 r874) 2 r895) 3 r916) w49 w93 w137 w181 r853 r874 r895 h1133 n0 Zs1142 F1140 F1141 ((upd_ne (by omega)).trans ((upd_ne (by omega)).trans ((upd_ne (by omega)).trans (upd_same (by omega))))) ((upd_ne (by omega)).trans ((upd_ne (by omega)).trans (upd_same (by omega)))) ((upd_ne (by omega)).trans (upd_same (by omega))) (upd_same (by omega)) ((upd_ne (by omega)).trans ((upd_ne (by omega)).trans ((upd_ne (by omega)).trans (upd_same (by omega))))) ((upd_ne (by omega)).trans ((upd_ne (by omega)).trans (upd_same (by omega)))) ((upd_ne (by omega)).trans (upd_same (by omega))) hq857 hq878 hq899) (lenOf pd_16949341 rfl) (by decide) (by decide) (by decide) (by decide) rfl (W := 0) (Nat.le_of_eq rfl) (by decide) at_275 rfl fun r1154 T1155 Lc1156 X1157 hQ1158 => ?_
      obtain ⟨r1159, rfl, hs1160, Nq1161, eh1162⟩ := hQ1158
      have N1163 := Fr.app N1153 Nq1161
      show Goes _ _ _ _ _ _ 278 _ [(.int r1159)]
      refine g_istore 280 rfl C X1157 r1159 rfl #[.val (.int p0), .val (.int p1), .val (.int p2), .val (.int p3), .val (.int p4), .val (.int v1), .val (.int v2), .val (.int v3), .val (.int v4), .val (.ref o7), .val (.int v191), .val (.int v835), .val (.ref o838), .val (.int (1 : Int32)), .val (.ref o1071), .val (.int r1148), .val (.int r1159)] at_278 rfl ?_
      refine g_iload 282 rfl C X1157 at_280 rfl ?_
      refine g_iload 284 rfl C X1157 at_282 rfl ?_
      have hq1164 : w1083.toInt = w49.toInt := by
        clear hs854 hs875 hs896 hs917 hs1149 hs1160
        have fr1165 := rng32 w1083
        have fr1166 := rng32 w49
        have fr1167 := rng32 r44
        have fo1168 := c_i2c r44
        have fe1169 : ((r44).toUInt32.toUInt16.toUInt32.toInt32).toInt = w49.toInt := congrArg Int32.toInt hw49
        have fo1170 := c_i2c w49
        have fe1171 : ((w49).toUInt32.toUInt16.toUInt32.toInt32).toInt = w1083.toInt := congrArg Int32.toInt hw1083
        omega
      have hq1172 : w1131.toInt = v835.toInt := by
        clear hs854 hs875 hs896 hs917 hs1149 hs1160
        have fr1173 := rng32 w1131
        have fr1174 := rng32 v835
        have fr1175 := rng32 p4
        have fo1176 := c_i2c p4
        have fe1177 : ((p4).toUInt32.toUInt16.toUInt32.toInt32).toInt = v835.toInt := congrArg Int32.toInt hv835
        have fo1178 := c_i2c v835
        have fe1179 : ((v835).toUInt32.toUInt16.toUInt32.toInt32).toInt = w1131.toInt := congrArg Int32.toInt hw1131
        omega
      have hq1180 : w1107.toInt = w137.toInt := by
        clear hs854 hs875 hs896 hs917 hs1149 hs1160
        have fr1181 := rng32 w1107
        have fr1182 := rng32 w137
        have fr1183 := rng32 r132
        have fo1184 := c_i2c r132
        have fe1185 : ((r132).toUInt32.toUInt16.toUInt32.toInt32).toInt = w137.toInt := congrArg Int32.toInt hw137
        have fo1186 := c_i2c w137
        have fe1187 : ((w137).toUInt32.toUInt16.toUInt32.toInt32).toInt = w1107.toInt := congrArg Int32.toInt hw1107
        omega
      have hq1188 : w1119.toInt = w181.toInt := by
        clear hs854 hs875 hs896 hs917 hs1149 hs1160
        have fr1189 := rng32 w1119
        have fr1190 := rng32 w181
        have fr1191 := rng32 r176
        have fo1192 := c_i2c r176
        have fe1193 : ((r176).toUInt32.toUInt16.toUInt32.toInt32).toInt = w181.toInt := congrArg Int32.toInt hw181
        have fo1194 := c_i2c w181
        have fe1195 : ((w181).toUInt32.toUInt16.toUInt32.toInt32).toInt = w1119.toInt := congrArg Int32.toInt hw1119
        omega
      try rw [hq1164] at hs1149
      try rw [hq1172] at hs1149
      try rw [hq1180] at hs1149
      try rw [hq1188] at hs1149
      have hg1196 : r1159.toInt = r1148.toInt := own_k1 w49.toInt w93.toInt w137.toInt w181.toInt v835.toInt r874.toInt r895.toInt r1148.toInt r1159.toInt hs875 hs896 hs1149 hs1160
      have hb1197 : r1159.toInt = r1148.toInt := hg1196
      refine g_icmp_ne_f 287 rfl C X1157 at_284 hb1197 ?_
      refine g_iconst 288 rfl C X1157 (1 : Int32) at_287 rfl ?_
      refine g_goto 292 C X1157 at_288 (by decide) (by decide) ?_
      exact g_retN C X1157 (z' := (1 : Int32)) rfl (Or.inl rfl) at_292 eh1162 (by decide) (by decide) rfl ⟨rfl, N1163⟩
    · skip
      refine g_iconst 207 rfl C X925 (4 : Int32) at_206 rfl ?_
      refine g_newP 209 rfl C X925 4 (by decide) 4 (by decide) (by decide) rfl (hw _ (List.mem_of_getElem? (i := 0) rfl)) e926 at_207 (by decide) (by decide) fun T1198 h1199 o1200 g1201 X1202 e1203 E1204 B1205 => ?_
      have ne1206 : o7 ≠ o1200 := by rw [g1201]; exact Nat.ne_of_lt F930.lt
      have ne1207 : o838 ≠ o1200 := by rw [g1201]; exact Nat.ne_of_lt B928.lt
      have gn1208 : n0 ≤ o1200 := by rw [g1201]; exact Zs931
      have F1209 := F930.ext E1204
      have F1210 := B928.ext E1204
      have Zs1211 := Nat.le_trans Zs931 E1204.1
      refine g_astore 211 rfl C X1202 #[.val (.int p0), .val (.int p1), .val (.int p2), .val (.int p3), .val (.int p4), .val (.int v1), .val (.int v2), .val (.int v3), .val (.int v4), .val (.ref o7), .val (.int v191), .val (.int v835), .val (.ref o838), .val (.int (2 : Int32)), .val (.ref o1200), .unset, .unset] at_209 rfl rfl ?_
      refine g_aload 213 rfl C X1202 at_211 rfl rfl ?_
      refine g_iconst 214 rfl C X1202 (0 : Int32) at_213 rfl ?_
      refine g_aload 216 rfl C X1202 at_214 rfl rfl ?_
      refine g_iconst 217 rfl C X1202 (0 : Int32) at_216 rfl ?_
      refine g_caload 218 rfl C X1202 e1203 F1209 0 (by decide) (by decide) w49 ((upd_ne (by omega)).trans ((upd_ne (by omega)).trans ((upd_ne (by omega)).trans (upd_same (by omega))))) at_217 ?_
      obtain ⟨w1212, hw1212⟩ : ∃ z : Int32, ((w49).toUInt32.toUInt16.toUInt32.toInt32) = z := ⟨_, rfl⟩
      refine g_castore 219 rfl C X1202 e1203 B1205 0 (by decide) (by decide) w1212 hw1212 at_218 N929 gn1208 fun T1213 h1214 ls1215 X1216 e1217 W1218 B1219 N1220 => ?_
      have F1221 := F1209.other W1218 ne1206
      have F1222 := F1210.other W1218 ne1207
      have Zs1223 := Nat.le_trans Zs1211 (Nat.le_of_eq W1218.size.symm)
      refine g_aload 221 rfl C X1216 at_219 rfl rfl ?_
      refine g_iconst 222 rfl C X1216 (1 : Int32) at_221 rfl ?_
      refine g_aload 224 rfl C X1216 at_222 rfl rfl ?_
      refine g_iconst 225 rfl C X1216 (1 : Int32) at_224 rfl ?_
      refine g_caload 226 rfl C X1216 e1217 F1221 1 (by decide) (by decide) w93 ((upd_ne (by omega)).trans ((upd_ne (by omega)).trans (upd_same (by omega)))) at_225 ?_
      obtain ⟨w1224, hw1224⟩ : ∃ z : Int32, ((w93).toUInt32.toUInt16.toUInt32.toInt32) = z := ⟨_, rfl⟩
      refine g_castore 227 rfl C X1216 e1217 B1219 1 (by decide) (by decide) w1224 hw1224 at_226 N1220 gn1208 fun T1225 h1226 ls1227 X1228 e1229 W1230 B1231 N1232 => ?_
      have F1233 := F1221.other W1230 ne1206
      have F1234 := F1222.other W1230 ne1207
      have Zs1235 := Nat.le_trans Zs1223 (Nat.le_of_eq W1230.size.symm)
      refine g_aload 229 rfl C X1228 at_227 rfl rfl ?_
      refine g_iconst 230 rfl C X1228 (2 : Int32) at_229 rfl ?_
      refine g_aload 232 rfl C X1228 at_230 rfl rfl ?_
      refine g_iconst 233 rfl C X1228 (2 : Int32) at_232 rfl ?_
      refine g_caload 234 rfl C X1228 e1229 F1233 2 (by decide) (by decide) w137 ((upd_ne (by omega)).trans (upd_same (by omega))) at_233 ?_
      obtain ⟨w1236, hw1236⟩ : ∃ z : Int32, ((w137).toUInt32.toUInt16.toUInt32.toInt32) = z := ⟨_, rfl⟩
      refine g_castore 235 rfl C X1228 e1229 B1231 2 (by decide) (by decide) w1236 hw1236 at_234 N1232 gn1208 fun T1237 h1238 ls1239 X1240 e1241 W1242 B1243 N1244 => ?_
      have F1245 := F1233.other W1242 ne1206
      have F1246 := F1234.other W1242 ne1207
      have Zs1247 := Nat.le_trans Zs1235 (Nat.le_of_eq W1242.size.symm)
      refine g_aload 237 rfl C X1240 at_235 rfl rfl ?_
      refine g_iconst 238 rfl C X1240 (3 : Int32) at_237 rfl ?_
      refine g_aload 240 rfl C X1240 at_238 rfl rfl ?_
      refine g_iconst 241 rfl C X1240 (3 : Int32) at_240 rfl ?_
      refine g_caload 242 rfl C X1240 e1241 F1245 3 (by decide) (by decide) w181 (upd_same (by omega)) at_241 ?_
      obtain ⟨w1248, hw1248⟩ : ∃ z : Int32, ((w181).toUInt32.toUInt16.toUInt32.toInt32) = z := ⟨_, rfl⟩
      refine g_castore 243 rfl C X1240 e1241 B1243 3 (by decide) (by decide) w1248 hw1248 at_242 N1244 gn1208 fun T1249 h1250 ls1251 X1252 e1253 W1254 B1255 N1256 => ?_
      have F1257 := F1245.other W1254 ne1206
      have F1258 := F1246.other W1254 ne1207
      have Zs1259 := Nat.le_trans Zs1247 (Nat.le_of_eq W1254.size.symm)
      refine g_aload 245 rfl C X1252 at_243 rfl rfl ?_
      refine g_iload 247 rfl C X1252 at_245 rfl ?_
      refine g_iload 249 rfl C X1252 at_247 rfl ?_
      obtain ⟨w1260, hw1260⟩ : ∃ z : Int32, ((v835).toUInt32.toUInt16.toUInt32.toInt32) = z := ⟨_, rfl⟩
      refine g_castore 250 rfl C X1252 e1253 B1255 2 (by decide) (by decide) w1260 hw1260 at_249 N1256 gn1208 fun T1261 h1262 ls1263 X1264 e1265 W1266 B1267 N1268 => ?_
      have F1269 := F1257.other W1266 ne1206
      have F1270 := F1258.other W1266 ne1207
      have Zs1271 := Nat.le_trans Zs1259 (Nat.le_of_eq W1266.size.symm)
      refine g_aload 252 rfl C X1264 at_250 rfl rfl ?_
      refine g_aload 254 rfl C X1264 at_252 rfl rfl ?_
      refine g_iload 256 rfl C X1264 at_254 rfl ?_
      refine g_iconst 257 rfl C X1264 (1 : Int32) at_256 rfl ?_
      refine g_iadd 258 rfl C X1264 at_257 ?_
      refine g_iload 260 rfl C X1264 at_258 rfl ?_
      refine g_iconst 261 rfl C X1264 (1 : Int32) at_260 rfl ?_
      refine g_iadd 262 rfl C X1264 at_261 ?_
      refine g_callS 265 rfl C X1264 (argsL := [(.ref o7), (.ref o1200), (.int ((2 : Int32) + (1 : Int32))), (.int ((2 : Int32) + (1 : Int32)))]) (hw _ (List.mem_of_getElem? (i := 6) rfl)) (hw _ (List.mem_of_getElem? (i := 7) rfl)) (hw _ (List.mem_of_getElem? (i := 8) rfl)) (hw _ (List.mem_of_getElem? (i := 3) rfl)) e1265 (rm2_3_3 l Z a0 hw [] o7 o1200 (upd (upd (upd (upd (fun _ => 0) 0 w49) 1 w93) 2 w137) 3 w181) (upd (upd (upd (upd (upd (fun _ => 0) 0 w1212) 1 w1224) 2 w1236) 3 w1248) 2 w1260) w49 w93 w137 w181 w1212 w1224 w1260 w1248 h1262 n0 Zs1271 F1269 B1267 ((upd_ne (by omega)).trans ((upd_ne (by omega)).trans ((upd_ne (by omega)).trans (upd_same (by omega))))) ((upd_ne (by omega)).trans ((upd_ne (by omega)).trans (upd_same (by omega)))) ((upd_ne (by omega)).trans (upd_same (by omega))) (upd_same (by omega)) ((upd_ne (by omega)).trans ((upd_ne (by omega)).trans ((upd_ne (by omega)).trans ((upd_ne (by omega)).trans (upd_same (by omega)))))) ((upd_ne (by omega)).trans ((upd_ne (by omega)).trans ((upd_ne (by omega)).trans (upd_same (by omega))))) (upd_same (by omega)) ((upd_ne (by omega)).trans (upd_same (by omega)))) (lenOf pd_50052781 rfl) (by decide) (by decide) (by decide) (by decide) rfl (W := 0) (Nat.le_of_eq rfl) (by decide) at_262 rfl fun r1272 T1273 Lc1274 X1275 hQ1276 => ?_
      obtain ⟨r1277, rfl, hs1278, Nq1279, eh1280⟩ := hQ1276
      have hq1281 : 0 ≤ r1277.toInt ∧ r1277.toInt ≤ 3 := by
        clear hs854 hs875 hs896 hs917
        omega
      have N1282 := Fr.app N1268 Nq1279
      show Goes _ _ _ _ _ _ 265 _ [(.int r1277)]
      refine g_istore 267 rfl C X1275 r1277 rfl #[.val (.int p0), .val (.int p1), .val (.int p2), .val (.int p3), .val (.int p4), .val (.int v1), .val (.int v2), .val (.int v3), .val (.int v4), .val (.ref o7), .val (.int v191), .val (.int v835), .val (.ref o838), .val (.int (2 : Int32)), .val (.ref o1200), .val (.int r1277), .unset] at_265 rfl ?_
      refine g_aload 269 rfl C X1275 at_267 rfl rfl ?_
      refine g_aload 271 rfl C X1275 at_269 rfl rfl ?_
      refine g_iload 273 rfl C X1275 at_271 rfl ?_
      refine g_iload 275 rfl C X1275 at_273 rfl ?_
      refine g_callS 278 rfl C X1275 (argsL := [(.ref o7), (.ref o838), (.int (2 : Int32)), (.int v835)]) (hw _ (List.mem_of_getElem? (i := 12) rfl)) (hw _ (List.mem_of_getElem? (i := 13) rfl)) (hw _ (List.mem_of_getElem? (i := 15) rfl)) (hw _ (List.mem_of_getElem? (i := 14) rfl)) eh1280 (rm4_2 l Z a0 hw [] o7 o838 v835 (upd (upd (upd (upd (fun _ => 0) 0 w49) 1 w93) 2 w137) 3 w181) (upd (upd (upd (upd (fun _ => 0) 0 r853) 1 r874) 2 r895) 3 r916) w49 w93 w137 w181 r853 r874 r895 h1262 n0 Zs1271 F1269 F1270 ((upd_ne (by omega)).trans ((upd_ne (by omega)).trans ((upd_ne (by omega)).trans (upd_same (by omega))))) ((upd_ne (by omega)).trans ((upd_ne (by omega)).trans (upd_same (by omega)))) ((upd_ne (by omega)).trans (upd_same (by omega))) (upd_same (by omega)) ((upd_ne (by omega)).trans ((upd_ne (by omega)).trans ((upd_ne (by omega)).trans (upd_same (by omega))))) ((upd_ne (by omega)).trans ((upd_ne (by omega)).trans (upd_same (by omega)))) ((upd_ne (by omega)).trans (upd_same (by omega))) hq857 hq878 hq899) (lenOf pd_16949341 rfl) (by decide) (by decide) (by decide) (by decide) rfl (W := 0) (Nat.le_of_eq rfl) (by decide) at_275 rfl fun r1283 T1284 Lc1285 X1286 hQ1287 => ?_
      obtain ⟨r1288, rfl, hs1289, Nq1290, eh1291⟩ := hQ1287
      have N1292 := Fr.app N1282 Nq1290
      show Goes _ _ _ _ _ _ 278 _ [(.int r1288)]
      refine g_istore 280 rfl C X1286 r1288 rfl #[.val (.int p0), .val (.int p1), .val (.int p2), .val (.int p3), .val (.int p4), .val (.int v1), .val (.int v2), .val (.int v3), .val (.int v4), .val (.ref o7), .val (.int v191), .val (.int v835), .val (.ref o838), .val (.int (2 : Int32)), .val (.ref o1200), .val (.int r1277), .val (.int r1288)] at_278 rfl ?_
      refine g_iload 282 rfl C X1286 at_280 rfl ?_
      refine g_iload 284 rfl C X1286 at_282 rfl ?_
      have hq1293 : w1212.toInt = w49.toInt := by
        clear hs854 hs875 hs896 hs917 hs1278 hs1289
        have fr1294 := rng32 w1212
        have fr1295 := rng32 w49
        have fr1296 := rng32 r44
        have fo1297 := c_i2c r44
        have fe1298 : ((r44).toUInt32.toUInt16.toUInt32.toInt32).toInt = w49.toInt := congrArg Int32.toInt hw49
        have fo1299 := c_i2c w49
        have fe1300 : ((w49).toUInt32.toUInt16.toUInt32.toInt32).toInt = w1212.toInt := congrArg Int32.toInt hw1212
        omega
      have hq1301 : w1224.toInt = w93.toInt := by
        clear hs854 hs875 hs896 hs917 hs1278 hs1289
        have fr1302 := rng32 w1224
        have fr1303 := rng32 w93
        have fr1304 := rng32 r88
        have fo1305 := c_i2c r88
        have fe1306 : ((r88).toUInt32.toUInt16.toUInt32.toInt32).toInt = w93.toInt := congrArg Int32.toInt hw93
        have fo1307 := c_i2c w93
        have fe1308 : ((w93).toUInt32.toUInt16.toUInt32.toInt32).toInt = w1224.toInt := congrArg Int32.toInt hw1224
        omega
      have hq1309 : w1260.toInt = v835.toInt := by
        clear hs854 hs875 hs896 hs917 hs1278 hs1289
        have fr1310 := rng32 w1260
        have fr1311 := rng32 v835
        have fr1312 := rng32 p4
        have fo1313 := c_i2c p4
        have fe1314 : ((p4).toUInt32.toUInt16.toUInt32.toInt32).toInt = v835.toInt := congrArg Int32.toInt hv835
        have fo1315 := c_i2c v835
        have fe1316 : ((v835).toUInt32.toUInt16.toUInt32.toInt32).toInt = w1260.toInt := congrArg Int32.toInt hw1260
        omega
      have hq1317 : w1248.toInt = w181.toInt := by
        clear hs854 hs875 hs896 hs917 hs1278 hs1289
        have fr1318 := rng32 w1248
        have fr1319 := rng32 w181
        have fr1320 := rng32 r176
        have fo1321 := c_i2c r176
        have fe1322 : ((r176).toUInt32.toUInt16.toUInt32.toInt32).toInt = w181.toInt := congrArg Int32.toInt hw181
        have fo1323 := c_i2c w181
        have fe1324 : ((w181).toUInt32.toUInt16.toUInt32.toInt32).toInt = w1248.toInt := congrArg Int32.toInt hw1248
        omega
      try rw [hq1293] at hs1278
      try rw [hq1301] at hs1278
      try rw [hq1309] at hs1278
      try rw [hq1317] at hs1278
      have hg1325 : r1288.toInt = r1277.toInt := own_k2 w49.toInt w93.toInt w137.toInt w181.toInt v835.toInt r874.toInt r895.toInt r1277.toInt r1288.toInt hs875 hs896 hs1278 hs1289
      have hb1326 : r1288.toInt = r1277.toInt := hg1325
      refine g_icmp_ne_f 287 rfl C X1286 at_284 hb1326 ?_
      refine g_iconst 288 rfl C X1286 (1 : Int32) at_287 rfl ?_
      refine g_goto 292 C X1286 at_288 (by decide) (by decide) ?_
      exact g_retN C X1286 (z' := (1 : Int32)) rfl (Or.inl rfl) at_292 eh1291 (by decide) (by decide) rfl ⟨rfl, N1292⟩
    · skip
      refine g_iconst 207 rfl C X925 (4 : Int32) at_206 rfl ?_
      refine g_newP 209 rfl C X925 4 (by decide) 4 (by decide) (by decide) rfl (hw _ (List.mem_of_getElem? (i := 0) rfl)) e926 at_207 (by decide) (by decide) fun T1327 h1328 o1329 g1330 X1331 e1332 E1333 B1334 => ?_
      have ne1335 : o7 ≠ o1329 := by rw [g1330]; exact Nat.ne_of_lt F930.lt
      have ne1336 : o838 ≠ o1329 := by rw [g1330]; exact Nat.ne_of_lt B928.lt
      have gn1337 : n0 ≤ o1329 := by rw [g1330]; exact Zs931
      have F1338 := F930.ext E1333
      have F1339 := B928.ext E1333
      have Zs1340 := Nat.le_trans Zs931 E1333.1
      refine g_astore 211 rfl C X1331 #[.val (.int p0), .val (.int p1), .val (.int p2), .val (.int p3), .val (.int p4), .val (.int v1), .val (.int v2), .val (.int v3), .val (.int v4), .val (.ref o7), .val (.int v191), .val (.int v835), .val (.ref o838), .val (.int (3 : Int32)), .val (.ref o1329), .unset, .unset] at_209 rfl rfl ?_
      refine g_aload 213 rfl C X1331 at_211 rfl rfl ?_
      refine g_iconst 214 rfl C X1331 (0 : Int32) at_213 rfl ?_
      refine g_aload 216 rfl C X1331 at_214 rfl rfl ?_
      refine g_iconst 217 rfl C X1331 (0 : Int32) at_216 rfl ?_
      refine g_caload 218 rfl C X1331 e1332 F1338 0 (by decide) (by decide) w49 ((upd_ne (by omega)).trans ((upd_ne (by omega)).trans ((upd_ne (by omega)).trans (upd_same (by omega))))) at_217 ?_
      obtain ⟨w1341, hw1341⟩ : ∃ z : Int32, ((w49).toUInt32.toUInt16.toUInt32.toInt32) = z := ⟨_, rfl⟩
      refine g_castore 219 rfl C X1331 e1332 B1334 0 (by decide) (by decide) w1341 hw1341 at_218 N929 gn1337 fun T1342 h1343 ls1344 X1345 e1346 W1347 B1348 N1349 => ?_
      have F1350 := F1338.other W1347 ne1335
      have F1351 := F1339.other W1347 ne1336
      have Zs1352 := Nat.le_trans Zs1340 (Nat.le_of_eq W1347.size.symm)
      refine g_aload 221 rfl C X1345 at_219 rfl rfl ?_
      refine g_iconst 222 rfl C X1345 (1 : Int32) at_221 rfl ?_
      refine g_aload 224 rfl C X1345 at_222 rfl rfl ?_
      refine g_iconst 225 rfl C X1345 (1 : Int32) at_224 rfl ?_
      refine g_caload 226 rfl C X1345 e1346 F1350 1 (by decide) (by decide) w93 ((upd_ne (by omega)).trans ((upd_ne (by omega)).trans (upd_same (by omega)))) at_225 ?_
      obtain ⟨w1353, hw1353⟩ : ∃ z : Int32, ((w93).toUInt32.toUInt16.toUInt32.toInt32) = z := ⟨_, rfl⟩
      refine g_castore 227 rfl C X1345 e1346 B1348 1 (by decide) (by decide) w1353 hw1353 at_226 N1349 gn1337 fun T1354 h1355 ls1356 X1357 e1358 W1359 B1360 N1361 => ?_
      have F1362 := F1350.other W1359 ne1335
      have F1363 := F1351.other W1359 ne1336
      have Zs1364 := Nat.le_trans Zs1352 (Nat.le_of_eq W1359.size.symm)
      refine g_aload 229 rfl C X1357 at_227 rfl rfl ?_
      refine g_iconst 230 rfl C X1357 (2 : Int32) at_229 rfl ?_
      refine g_aload 232 rfl C X1357 at_230 rfl rfl ?_
      refine g_iconst 233 rfl C X1357 (2 : Int32) at_232 rfl ?_
      refine g_caload 234 rfl C X1357 e1358 F1362 2 (by decide) (by decide) w137 ((upd_ne (by omega)).trans (upd_same (by omega))) at_233 ?_
      obtain ⟨w1365, hw1365⟩ : ∃ z : Int32, ((w137).toUInt32.toUInt16.toUInt32.toInt32) = z := ⟨_, rfl⟩
      refine g_castore 235 rfl C X1357 e1358 B1360 2 (by decide) (by decide) w1365 hw1365 at_234 N1361 gn1337 fun T1366 h1367 ls1368 X1369 e1370 W1371 B1372 N1373 => ?_
      have F1374 := F1362.other W1371 ne1335
      have F1375 := F1363.other W1371 ne1336
      have Zs1376 := Nat.le_trans Zs1364 (Nat.le_of_eq W1371.size.symm)
      refine g_aload 237 rfl C X1369 at_235 rfl rfl ?_
      refine g_iconst 238 rfl C X1369 (3 : Int32) at_237 rfl ?_
      refine g_aload 240 rfl C X1369 at_238 rfl rfl ?_
      refine g_iconst 241 rfl C X1369 (3 : Int32) at_240 rfl ?_
      refine g_caload 242 rfl C X1369 e1370 F1374 3 (by decide) (by decide) w181 (upd_same (by omega)) at_241 ?_
      obtain ⟨w1377, hw1377⟩ : ∃ z : Int32, ((w181).toUInt32.toUInt16.toUInt32.toInt32) = z := ⟨_, rfl⟩
      refine g_castore 243 rfl C X1369 e1370 B1372 3 (by decide) (by decide) w1377 hw1377 at_242 N1373 gn1337 fun T1378 h1379 ls1380 X1381 e1382 W1383 B1384 N1385 => ?_
      have F1386 := F1374.other W1383 ne1335
      have F1387 := F1375.other W1383 ne1336
      have Zs1388 := Nat.le_trans Zs1376 (Nat.le_of_eq W1383.size.symm)
      refine g_aload 245 rfl C X1381 at_243 rfl rfl ?_
      refine g_iload 247 rfl C X1381 at_245 rfl ?_
      refine g_iload 249 rfl C X1381 at_247 rfl ?_
      obtain ⟨w1389, hw1389⟩ : ∃ z : Int32, ((v835).toUInt32.toUInt16.toUInt32.toInt32) = z := ⟨_, rfl⟩
      refine g_castore 250 rfl C X1381 e1382 B1384 3 (by decide) (by decide) w1389 hw1389 at_249 N1385 gn1337 fun T1390 h1391 ls1392 X1393 e1394 W1395 B1396 N1397 => ?_
      have F1398 := F1386.other W1395 ne1335
      have F1399 := F1387.other W1395 ne1336
      have Zs1400 := Nat.le_trans Zs1388 (Nat.le_of_eq W1395.size.symm)
      refine g_aload 252 rfl C X1393 at_250 rfl rfl ?_
      refine g_aload 254 rfl C X1393 at_252 rfl rfl ?_
      refine g_iload 256 rfl C X1393 at_254 rfl ?_
      refine g_iconst 257 rfl C X1393 (1 : Int32) at_256 rfl ?_
      refine g_iadd 258 rfl C X1393 at_257 ?_
      refine g_iload 260 rfl C X1393 at_258 rfl ?_
      refine g_iconst 261 rfl C X1393 (1 : Int32) at_260 rfl ?_
      refine g_iadd 262 rfl C X1393 at_261 ?_
      refine g_callS 265 rfl C X1393 (argsL := [(.ref o7), (.ref o1329), (.int ((3 : Int32) + (1 : Int32))), (.int ((3 : Int32) + (1 : Int32)))]) (hw _ (List.mem_of_getElem? (i := 6) rfl)) (hw _ (List.mem_of_getElem? (i := 7) rfl)) (hw _ (List.mem_of_getElem? (i := 8) rfl)) (hw _ (List.mem_of_getElem? (i := 3) rfl)) e1394 (rm2_4_4 l Z a0 hw [] o7 o1329 (upd (upd (upd (upd (fun _ => 0) 0 w49) 1 w93) 2 w137) 3 w181) (upd (upd (upd (upd (upd (fun _ => 0) 0 w1341) 1 w1353) 2 w1365) 3 w1377) 3 w1389) w49 w93 w137 w181 w1341 w1353 w1365 w1389 h1391 n0 Zs1400 F1398 B1396 ((upd_ne (by omega)).trans ((upd_ne (by omega)).trans ((upd_ne (by omega)).trans (upd_same (by omega))))) ((upd_ne (by omega)).trans ((upd_ne (by omega)).trans (upd_same (by omega)))) ((upd_ne (by omega)).trans (upd_same (by omega))) (upd_same (by omega)) ((upd_ne (by omega)).trans ((upd_ne (by omega)).trans ((upd_ne (by omega)).trans ((upd_ne (by omega)).trans (upd_same (by omega)))))) ((upd_ne (by omega)).trans ((upd_ne (by omega)).trans ((upd_ne (by omega)).trans (upd_same (by omega))))) ((upd_ne (by omega)).trans ((upd_ne (by omega)).trans (upd_same (by omega)))) (upd_same (by omega))) (lenOf pd_50052781 rfl) (by decide) (by decide) (by decide) (by decide) rfl (W := 0) (Nat.le_of_eq rfl) (by decide) at_262 rfl fun r1401 T1402 Lc1403 X1404 hQ1405 => ?_
      obtain ⟨r1406, rfl, hs1407, Nq1408, eh1409⟩ := hQ1405
      have hq1410 : 0 ≤ r1406.toInt ∧ r1406.toInt ≤ 4 := by
        clear hs854 hs875 hs896 hs917
        omega
      have N1411 := Fr.app N1397 Nq1408
      show Goes _ _ _ _ _ _ 265 _ [(.int r1406)]
      refine g_istore 267 rfl C X1404 r1406 rfl #[.val (.int p0), .val (.int p1), .val (.int p2), .val (.int p3), .val (.int p4), .val (.int v1), .val (.int v2), .val (.int v3), .val (.int v4), .val (.ref o7), .val (.int v191), .val (.int v835), .val (.ref o838), .val (.int (3 : Int32)), .val (.ref o1329), .val (.int r1406), .unset] at_265 rfl ?_
      refine g_aload 269 rfl C X1404 at_267 rfl rfl ?_
      refine g_aload 271 rfl C X1404 at_269 rfl rfl ?_
      refine g_iload 273 rfl C X1404 at_271 rfl ?_
      refine g_iload 275 rfl C X1404 at_273 rfl ?_
      refine g_callS 278 rfl C X1404 (argsL := [(.ref o7), (.ref o838), (.int (3 : Int32)), (.int v835)]) (hw _ (List.mem_of_getElem? (i := 12) rfl)) (hw _ (List.mem_of_getElem? (i := 13) rfl)) (hw _ (List.mem_of_getElem? (i := 15) rfl)) (hw _ (List.mem_of_getElem? (i := 14) rfl)) eh1409 (rm4_3 l Z a0 hw [] o7 o838 v835 (upd (upd (upd (upd (fun _ => 0) 0 w49) 1 w93) 2 w137) 3 w181) (upd (upd (upd (upd (fun _ => 0) 0 r853) 1 r874) 2 r895) 3 r916) w49 w93 w137 w181 r853 r874 r895 h1391 n0 Zs1400 F1398 F1399 ((upd_ne (by omega)).trans ((upd_ne (by omega)).trans ((upd_ne (by omega)).trans (upd_same (by omega))))) ((upd_ne (by omega)).trans ((upd_ne (by omega)).trans (upd_same (by omega)))) ((upd_ne (by omega)).trans (upd_same (by omega))) (upd_same (by omega)) ((upd_ne (by omega)).trans ((upd_ne (by omega)).trans ((upd_ne (by omega)).trans (upd_same (by omega))))) ((upd_ne (by omega)).trans ((upd_ne (by omega)).trans (upd_same (by omega)))) ((upd_ne (by omega)).trans (upd_same (by omega))) hq857 hq878 hq899) (lenOf pd_16949341 rfl) (by decide) (by decide) (by decide) (by decide) rfl (W := 0) (Nat.le_of_eq rfl) (by decide) at_275 rfl fun r1412 T1413 Lc1414 X1415 hQ1416 => ?_
      obtain ⟨r1417, rfl, hs1418, Nq1419, eh1420⟩ := hQ1416
      have N1421 := Fr.app N1411 Nq1419
      show Goes _ _ _ _ _ _ 278 _ [(.int r1417)]
      refine g_istore 280 rfl C X1415 r1417 rfl #[.val (.int p0), .val (.int p1), .val (.int p2), .val (.int p3), .val (.int p4), .val (.int v1), .val (.int v2), .val (.int v3), .val (.int v4), .val (.ref o7), .val (.int v191), .val (.int v835), .val (.ref o838), .val (.int (3 : Int32)), .val (.ref o1329), .val (.int r1406), .val (.int r1417)] at_278 rfl ?_
      refine g_iload 282 rfl C X1415 at_280 rfl ?_
      refine g_iload 284 rfl C X1415 at_282 rfl ?_
      have hq1422 : w1341.toInt = w49.toInt := by
        clear hs854 hs875 hs896 hs917 hs1407 hs1418
        have fr1423 := rng32 w1341
        have fr1424 := rng32 w49
        have fr1425 := rng32 r44
        have fo1426 := c_i2c r44
        have fe1427 : ((r44).toUInt32.toUInt16.toUInt32.toInt32).toInt = w49.toInt := congrArg Int32.toInt hw49
        have fo1428 := c_i2c w49
        have fe1429 : ((w49).toUInt32.toUInt16.toUInt32.toInt32).toInt = w1341.toInt := congrArg Int32.toInt hw1341
        omega
      have hq1430 : w1353.toInt = w93.toInt := by
        clear hs854 hs875 hs896 hs917 hs1407 hs1418
        have fr1431 := rng32 w1353
        have fr1432 := rng32 w93
        have fr1433 := rng32 r88
        have fo1434 := c_i2c r88
        have fe1435 : ((r88).toUInt32.toUInt16.toUInt32.toInt32).toInt = w93.toInt := congrArg Int32.toInt hw93
        have fo1436 := c_i2c w93
        have fe1437 : ((w93).toUInt32.toUInt16.toUInt32.toInt32).toInt = w1353.toInt := congrArg Int32.toInt hw1353
        omega
      have hq1438 : w1365.toInt = w137.toInt := by
        clear hs854 hs875 hs896 hs917 hs1407 hs1418
        have fr1439 := rng32 w1365
        have fr1440 := rng32 w137
        have fr1441 := rng32 r132
        have fo1442 := c_i2c r132
        have fe1443 : ((r132).toUInt32.toUInt16.toUInt32.toInt32).toInt = w137.toInt := congrArg Int32.toInt hw137
        have fo1444 := c_i2c w137
        have fe1445 : ((w137).toUInt32.toUInt16.toUInt32.toInt32).toInt = w1365.toInt := congrArg Int32.toInt hw1365
        omega
      have hq1446 : w1389.toInt = v835.toInt := by
        clear hs854 hs875 hs896 hs917 hs1407 hs1418
        have fr1447 := rng32 w1389
        have fr1448 := rng32 v835
        have fr1449 := rng32 p4
        have fo1450 := c_i2c p4
        have fe1451 : ((p4).toUInt32.toUInt16.toUInt32.toInt32).toInt = v835.toInt := congrArg Int32.toInt hv835
        have fo1452 := c_i2c v835
        have fe1453 : ((v835).toUInt32.toUInt16.toUInt32.toInt32).toInt = w1389.toInt := congrArg Int32.toInt hw1389
        omega
      try rw [hq1422] at hs1407
      try rw [hq1430] at hs1407
      try rw [hq1438] at hs1407
      try rw [hq1446] at hs1407
      have hg1454 : r1417.toInt = r1406.toInt := own_k3 w49.toInt w93.toInt w137.toInt w181.toInt v835.toInt r874.toInt r895.toInt r1406.toInt r1417.toInt hs875 hs896 hs1407 hs1418
      have hb1455 : r1417.toInt = r1406.toInt := hg1454
      refine g_icmp_ne_f 287 rfl C X1415 at_284 hb1455 ?_
      refine g_iconst 288 rfl C X1415 (1 : Int32) at_287 rfl ?_
      refine g_goto 292 C X1415 at_288 (by decide) (by decide) ?_
      exact g_retN C X1415 (z' := (1 : Int32)) rfl (Or.inl rfl) at_292 eh1420 (by decide) (by decide) rfl ⟨rfl, N1421⟩
set_option maxRecDepth 65536 in
set_option maxHeartbeats 40000000 in
theorem comes_1 {Post : Tables → Env → Array Value → State → Outcome → State → Prop} (hpost : ∀ tb e args s v u, (limb_1_1.after args s (.returned v) u = true ∧ limb_1_2.after args s (.returned v) u = true ∧ True) → FrameEnd s (.returned v) u (Jvm.fieldLocs frame_1_writes args s ++ Jvm.arrayLocs frame_1_arrays args s ++ Jvm.staticLocs frame_1_statics s) 16 128 → Post tb e args s (.returned v) u) :
    ArmFor flags0 classFile x code maxLocals ret World_1 tables_1 room_1 Calls_1 rest_1 Pre_1 Post := by
  intro l hfl _ _ p e ha hc hk s m args below hf hA hF happ hP
  obtain ⟨hcalls, hrest, hpre⟩ := hP
  obtain ⟨-, -, -, hnamed, -, -, -, hat⟩ := (Spec.applies_iff hf).mp happ
  obtain ⟨hg, hn⟩ := and_e (Cond.before_iff.mp (show (Jvm.Cond.and given_1 narrow_1).before args s = true from hpre))
  obtain ⟨g1, g2⟩ := and_e hg
  obtain ⟨g3, g4⟩ := and_e g2
  obtain ⟨g5, g6⟩ := and_e g4
  obtain ⟨g7, g8⟩ := and_e g6
  obtain ⟨g9, g10⟩ := and_e g8
  obtain ⟨w0, w1, w2, w3, w4, rfl⟩ : ∃ w0 w1 w2 w3 w4 : Value, args = #[w0, w1, w2, w3, w4] := by
    have hs : args.size = 5 := by simpa [Cond.value, given_1] using g1
    obtain ⟨L⟩ := args
    match L, hs with
    | [w0, w1, w2, w3, w4], _ => exact ⟨w0, w1, w2, w3, w4, rfl⟩
  have hw := fun d (hd : d ∈ tables_1) => atoms_spec (ws := Jvm.Cond.code x code maxLocals ret :: tables_1) hat d (List.mem_cons_of_mem _ hd)
  obtain ⟨i0, ei0⟩ := is_v g3
  obtain rfl : w0 = (.int i0) := Option.some.inj ei0
  obtain ⟨i1, ei1⟩ := is_v g5
  obtain rfl : w1 = (.int i1) := Option.some.inj ei1
  obtain ⟨i2, ei2⟩ := is_v g7
  obtain rfl : w2 = (.int i2) := Option.some.inj ei2
  obtain ⟨i3, ei3⟩ := is_v g9
  obtain rfl : w3 = (.int i3) := Option.some.inj ei3
  obtain ⟨i4, ei4⟩ := is_v g10
  obtain rfl : w4 = (.int i4) := Option.some.inj ei4
  obtain ⟨n, o, h1, h2, h3, _, L, rfl, ⟨rfl, N⟩, hq⟩ := rm0 l s _ hw tables_1 i0 i1 i2 i3 i4 s.heap s.heap.size (Nat.le_refl _) p e ha hc hk s m _ below hf ((Spec.applies_iff_loose hf).mp happ).1 ⟨rfl, State.Warmed39.refl s, rfl⟩ trivial
  refine ⟨n, _, h1, h2, h3, hpost _ _ _ _ _ _ ⟨Cond.after_iff.mpr rfl, Cond.after_iff.mpr (eq_i res_at (Term.int_eval (1)) rfl), trivial⟩ ⟨hq.1, hq.2.1, (hq.2.2.sift fun y hy => Or.inr (N y hy)).mono (by decide) (by decide)⟩⟩
theorem main_1_1 : Claimed_1_1 := comes_1 fun _ _ _ _ _ _ h hF => ⟨h.1, hF⟩
theorem main_1_2 : Claimed_1_2 := comes_1 fun _ _ _ _ _ _ h hF => ⟨h.2.1, hF⟩
end Jvm.Pilot.@@N@@
namespace Jvm.Pilot.@@N@@
open Jvm Jvm.ClassFile Sem Op Lib Jvm.Free Jvm.Stand Jvm.Pilot.@@N@@.Jvm.D
/-! MADE BY PROGRAM (witnessworld.py) out of the Statement's table words and the real class files: 11 classes; the members and pool entries that the words name. The judged class is class 1, her method 1. -/
namespace start1
open Jvm.ClassFile
def u (s : String) : CpInfo := .utf8 (stringToUtf16 s)
/-- a pool by its gaps: so many unusable entries, then the entry; so many at the end -/
def gap : Nat → List CpInfo → List CpInfo
  | 0, r => r
  | n + 1, r => .unusable :: gap n r
def poolList (es : List (Nat × CpInfo)) (last : Nat) : List CpInfo := es.foldr (fun e r => gap e.1 (e.2 :: r)) (gap last [])
def pool (es : List (Nat × CpInfo)) (last : Nat) : Array CpInfo := ⟨poolList es last⟩
def fileOf (pool : Array CpInfo) (this : Nat) (attrs : Array Attribute := #[]) (ms : Array MethodInfo := #[]) (fl : Nat := 33) (sup : Nat := 0) (ifs : Array Nat := #[]) (fds : Array FieldInfo := #[]) : ClassFile where
  minorVersion := 0
  majorVersion := 65
  constantPool := pool
  accessFlags := fl
  thisClass := this
  superClass := sup
  interfaces := ifs
  fields := fds
  methods := ms
  attributes := attrs
def plain (name : String) (sup : Option ClassId) : Class where
  name := name
  kind := .ordinary
  loader := none
  accessFlags := 33
  super := sup
  interfaces := #[]
  cf := none
  fields := #[]
  methods := #[]
  instanceTypes := #[]
  staticTypes := #[]
  resolved := #[]
  callSites := []
  init := .initialized
  statics := none
  mirror := none

def pool0 : Array CpInfo := pool [(5, u "<init>"), (0, u "()V"), (1, .class_ 10), (1, u "java/lang/Object")] 113

def k0m0 : Method := { name := "<init>", desc := "()V", sig := { parameters := [], returnType := none }, accessFlags := 1, code := none }
/-- java/lang/Object -/
def k0 : Class := { plain "java/lang/Object" none with
  accessFlags := 33
  interfaces := #[]
  cf := some (fileOf pool0 8 #[] #[{ accessFlags := 1, nameIndex := 5, descriptorIndex := 6, attributes := #[] }] 33 0 #[] #[])
  fields := #[]
  methods := #[k0m0]
  instanceTypes := #[]
  staticTypes := #[]
  resolved := Array.replicate 124 none
  statics := none }

def pool1 : Array CpInfo := pool [(2, .class_ 4), (1, u "java/lang/Object"), (0, u "<init>"), (0, u "()V"), (0, .methodref 8 9), (0, .class_ 10), (0, .nameAndType 11 12), (0, u "com/example/otsing/otsing/algorithm/PartialMatchTableExtendPinLaw"), (0, u "pick"), (0, u "(ICCCC)C"), (0, .methodref 8 14), (0, .nameAndType 15 16), (0, u "longest"), (0, u "([C[CII)I"), (0, .methodref 18 19), (0, .class_ 20), (0, .nameAndType 21 22), (0, u "com/example/otsing/otsing/algorithm/PartialMatchTable"), (0, u "extend"), (0, u "([C[IIC)I"), (0, .methodref 8 24), (0, .nameAndType 25 26), (0, u "matches"), (0, u "([C[CII)Z"), (2, u "law"), (0, u "(IIIII)Z")] 7

def k1m0 : Method := { name := "<init>", desc := "()V", sig := { parameters := [], returnType := none }, accessFlags := 2, code := none }
def k1c1 : Code := { maxStack := 7, maxLocals := 17, code := code, exceptionTable := #[], attributes := #[] }
def k1m1 : Method := { name := "law", desc := "(IIIII)Z", sig := { parameters := [.int, .int, .int, .int, .int], returnType := some .boolean }, accessFlags := 9, code := some k1c1 }
def k1c2 : Code := { maxStack := 2, maxLocals := 5, code := method_3_code, exceptionTable := #[], attributes := #[] }
def k1m2 : Method := { name := "pick", desc := "(ICCCC)C", sig := { parameters := [.int, .char, .char, .char, .char], returnType := some .char }, accessFlags := 10, code := some k1c2 }
def k1c3 : Code := { maxStack := 4, maxLocals := 6, code := method_4_code, exceptionTable := #[], attributes := #[] }
def k1m3 : Method := { name := "matches", desc := "([C[CII)Z", sig := { parameters := [(.array .char), (.array .char), .int, .int], returnType := some .boolean }, accessFlags := 10, code := some k1c3 }
def k1c4 : Code := { maxStack := 4, maxLocals := 4, code := method_5_code, exceptionTable := #[], attributes := #[] }
def k1m4 : Method := { name := "longest", desc := "([C[CII)I", sig := { parameters := [(.array .char), (.array .char), .int, .int], returnType := some .int }, accessFlags := 10, code := some k1c4 }
/-- com/example/otsing/otsing/algorithm/PartialMatchTableExtendPinLaw -/
def k1 : Class := { plain "com/example/otsing/otsing/algorithm/PartialMatchTableExtendPinLaw" (some 0) with
  accessFlags := 49
  interfaces := #[]
  cf := some (fileOf pool1 8 #[] #[{ accessFlags := 2, nameIndex := 5, descriptorIndex := 6, attributes := #[] }, { accessFlags := 9, nameIndex := 29, descriptorIndex := 30, attributes := #[] }, { accessFlags := 10, nameIndex := 11, descriptorIndex := 12, attributes := #[] }, { accessFlags := 10, nameIndex := 25, descriptorIndex := 26, attributes := #[] }, { accessFlags := 10, nameIndex := 15, descriptorIndex := 16, attributes := #[] }] 49 2 #[] #[])
  fields := #[]
  methods := #[k1m0, k1m1, k1m2, k1m3, k1m4]
  instanceTypes := #[]
  staticTypes := #[]
  resolved := Array.replicate 38 none
  statics := none }

def pool2 : Array CpInfo := pool [(2, .class_ 4), (1, u "java/lang/Object"), (0, u "<init>"), (0, u "()V"), (1, .class_ 10), (1, u "com/example/otsing/otsing/algorithm/PartialMatchTable"), (0, u "extend"), (0, u "([C[IIC)I")] 9

def k2m0 : Method := { name := "<init>", desc := "()V", sig := { parameters := [], returnType := none }, accessFlags := 2, code := none }
def k2c1 : Code := { maxStack := 3, maxLocals := 5, code := prog_43_method_3_code, exceptionTable := #[], attributes := #[] }
def k2m1 : Method := { name := "extend", desc := "([C[IIC)I", sig := { parameters := [(.array .char), (.array .int), .int, .char], returnType := some .int }, accessFlags := 8, code := some k2c1 }
/-- com/example/otsing/otsing/algorithm/PartialMatchTable -/
def k2 : Class := { plain "com/example/otsing/otsing/algorithm/PartialMatchTable" (some 0) with
  accessFlags := 49
  interfaces := #[]
  cf := some (fileOf pool2 8 #[] #[{ accessFlags := 2, nameIndex := 5, descriptorIndex := 6, attributes := #[] }, { accessFlags := 8, nameIndex := 11, descriptorIndex := 12, attributes := #[] }] 49 2 #[] #[])
  fields := #[]
  methods := #[k2m0, k2m1]
  instanceTypes := #[]
  staticTypes := #[]
  resolved := Array.replicate 22 none
  statics := none }

def pool3 : Array CpInfo := pool [(1, u "java/lang/Cloneable"), (0, .class_ 1), (0, u "java/lang/Object"), (0, .class_ 3)] 3

/-- java/lang/Cloneable -/
def k3 : Class := { plain "java/lang/Cloneable" (some 0) with
  accessFlags := 1537
  interfaces := #[]
  cf := some (fileOf pool3 2 #[] #[] 1537 4 #[] #[])
  fields := #[]
  methods := #[]
  instanceTypes := #[]
  staticTypes := #[]
  resolved := Array.replicate 8 none
  statics := none }

def pool4 : Array CpInfo := pool [(1, u "java/io/Serializable"), (0, .class_ 1), (0, u "java/lang/Object"), (0, .class_ 3)] 3

/-- java/io/Serializable -/
def k4 : Class := { plain "java/io/Serializable" (some 0) with
  accessFlags := 1537
  interfaces := #[]
  cf := some (fileOf pool4 2 #[] #[] 1537 4 #[] #[])
  fields := #[]
  methods := #[]
  instanceTypes := #[]
  staticTypes := #[]
  resolved := Array.replicate 8 none
  statics := none }

/-- the primitive byte -/
def k5 : Class := { plain "byte" none with kind := .primitive 'B', accessFlags := 0x411 }
/-- [B -/
def k6 : Class := { plain "[B" (some 0) with kind := .array 5 .byte, interfaces := #[3, 4], accessFlags := 1041 }

/-- the primitive char -/
def k7 : Class := { plain "char" none with kind := .primitive 'C', accessFlags := 0x411 }
/-- [C -/
def k8 : Class := { plain "[C" (some 0) with kind := .array 7 .char, interfaces := #[3, 4], accessFlags := 1041 }

/-- the primitive int -/
def k9 : Class := { plain "int" none with kind := .primitive 'I', accessFlags := 0x411 }
/-- [I -/
def k10 : Class := { plain "[I" (some 0) with kind := .array 9 .int, interfaces := #[3, 4], accessFlags := 1041 }

def heap : Heap := #[]
def classes : Array Class := #[k0, k1, k2, k3, k4, k5, k6, k7, k8, k9, k10]
def interned : List (Array UInt16 × Addr) := []
def slotsUsed : Nat := 0
def theMethod : MethodId := ⟨1, 1⟩
def args0 : Array Value := #[.int 5, .int 7, .int 9, .int 2, .int 3]
def aboutOver (below : List Frame) : State where
  vm := { classes := classes, interned := interned.toArray }
  heap := heap
  slotsUsed := slotsUsed
  threads := #[{ frames := .invoking theMethod args0 :: below }]
def below0 : List Frame := [.native { method := ⟨0, 0⟩, args := #[] }]
def about1 : State := aboutOver below0
def p0 : Program := .bare "" "" ""
def e0 : Env := launch0.env 0 0 0
theorem w_frames : about1.frames = Frame.invoking theMethod args0 :: below0 := rfl
set_option maxRecDepth 65536 in
theorem w_args : argsFit about1.vm theMethod args0 = true := by decide +kernel
set_option maxRecDepth 65536 in
theorem w_heap : heapFits about1 = true := by decide +kernel
set_option maxRecDepth 65536 in
theorem w_runnable : about1.curStatus? = some .runnable := by decide +kernel
set_option maxRecDepth 65536 in
theorem w_alone : about1.alone = true := by decide +kernel
set_option maxRecDepth 65536 in
theorem w_named : about1.methodNamed? x = some theMethod := by decide +kernel
set_option maxRecDepth 65536 in
theorem w_hears : about1.hears theMethod below0 = true := by decide +kernel
set_option maxRecDepth 65536 in
theorem w_ripe : about1.ripe theMethod args0 below0 = true := by decide +kernel
theorem w_running : about1.status = .running := rfl
set_option maxRecDepth 65536 in
theorem w_room : about1.hasRoom e0.platform room_1 = true :=
  launch0.hasRoom_least _ room_1 (by decide +kernel) (by decide +kernel) (by decide +kernel) (by decide +kernel) (by decide +kernel) (by decide +kernel)
theorem allAtoms_all (ts : List Jvm.Cond) (a : Array Jvm.Value) (st : Jvm.State) : (allAtoms ts).before a st = ts.all (fun c => c.before a st) := by
  induction ts with
  | nil => rfl
  | cons c t ih =>
    show (Jvm.Cond.and c (allAtoms t)).before a st = _
    rw [Jvm.Cond.before_and, ih, List.all_cons]
def words1 : List Jvm.Cond := Jvm.Cond.code x code maxLocals ret :: tables_1
/-- a 'code' word, met by the world's own term for the bytes: nothing is compared byte by byte -/
theorem code_word {y : MethodName} {bytes : ByteArray} {mx : Nat} {rt : Option FieldType} {a : Array Value} {s : State} {m : MethodId} {meth : Method} {c : Code} (h1 : s.methodNamed? y = some m) (h2 : s.vm.method? m = some meth) (h3 : meth.code = some c) (h4 : c.code = bytes)
    (h5 : (c.maxLocals == mx && c.exceptionTable.isEmpty && decide (c.maxStack ≤ mostOperands) && decide (meth.sig.returnType = rt) && !meth.locks && decide (parseMethodDescriptor y.desc = some meth.sig)) = true) : (Jvm.Cond.code y bytes mx rt).before a s = true := by
  simp only [Bool.and_eq_true, beq_iff_eq, Bool.not_eq_true', decide_eq_true_eq] at h5
  obtain ⟨⟨⟨⟨⟨g1, g2⟩, g3⟩, g4⟩, g5⟩, g6⟩ := h5
  simp [Cond.before, Cond.holds, Cond.value, h1, h2, h3, h4, g1, g2, g3, g4, g5, g6]
def isCode : Jvm.Cond → Bool
  | .code _ _ _ _ => true
  | _ => false
theorem all_split {L : List Jvm.Cond} {P : Jvm.Cond → Bool} (h1 : L.all (fun c => isCode c || P c) = true) (h2 : ∀ c ∈ L.filter isCode, P c = true) : L.all P = true := by
  refine List.all_eq_true.mpr fun c hc => ?_
  have h := List.all_eq_true.mp h1 c hc
  rcases Bool.eq_false_or_eq_true (isCode c) with hi | hi
  · exact h2 c (List.mem_filter.mpr ⟨hc, hi⟩)
  · simpa [hi] using h
set_option maxRecDepth 65536 in
theorem w_c0 : (Jvm.Cond.code x code maxLocals ret).before args0 about1 = true := code_word (m := ⟨1, 1⟩) (meth := k1m1) (c := k1c1) (by decide +kernel) rfl rfl rfl (by decide +kernel)
set_option maxRecDepth 65536 in
theorem w_c1 : (Jvm.Cond.code ({ cls := "com/example/otsing/otsing/algorithm/PartialMatchTableExtendPinLaw", name := "pick", desc := "(ICCCC)C" } : Jvm.MethodName) method_3_code (5 : Nat) (Option.some Jvm.ClassFile.FieldType.char)).before args0 about1 = true := code_word (m := ⟨1, 2⟩) (meth := k1m2) (c := k1c2) (by decide +kernel) rfl rfl rfl (by decide +kernel)
set_option maxRecDepth 65536 in
theorem w_c2 : (Jvm.Cond.code ({ cls := "com/example/otsing/otsing/algorithm/PartialMatchTableExtendPinLaw", name := "longest", desc := "([C[CII)I" } : Jvm.MethodName) method_5_code (4 : Nat) (Option.some Jvm.ClassFile.FieldType.int)).before args0 about1 = true := code_word (m := ⟨1, 4⟩) (meth := k1m4) (c := k1c4) (by decide +kernel) rfl rfl rfl (by decide +kernel)
set_option maxRecDepth 65536 in
theorem w_c3 : (Jvm.Cond.code ({ cls := "com/example/otsing/otsing/algorithm/PartialMatchTableExtendPinLaw", name := "matches", desc := "([C[CII)Z" } : Jvm.MethodName) method_4_code (6 : Nat) (Option.some Jvm.ClassFile.FieldType.boolean)).before args0 about1 = true := code_word (m := ⟨1, 3⟩) (meth := k1m3) (c := k1c3) (by decide +kernel) rfl rfl rfl (by decide +kernel)
set_option maxRecDepth 65536 in
theorem w_c4 : (Jvm.Cond.code ({ cls := "com/example/otsing/otsing/algorithm/PartialMatchTable", name := "extend", desc := "([C[IIC)I" } : Jvm.MethodName) prog_43_method_3_code (5 : Nat) (Option.some Jvm.ClassFile.FieldType.int)).before args0 about1 = true := code_word (m := ⟨2, 1⟩) (meth := k2m1) (c := k2c1) (by decide +kernel) rfl rfl rfl (by decide +kernel)
def codes1 : List Jvm.Cond := [Jvm.Cond.code x code maxLocals ret, Jvm.Cond.code ({ cls := "com/example/otsing/otsing/algorithm/PartialMatchTableExtendPinLaw", name := "pick", desc := "(ICCCC)C" } : Jvm.MethodName) method_3_code (5 : Nat) (Option.some Jvm.ClassFile.FieldType.char), Jvm.Cond.code ({ cls := "com/example/otsing/otsing/algorithm/PartialMatchTableExtendPinLaw", name := "longest", desc := "([C[CII)I" } : Jvm.MethodName) method_5_code (4 : Nat) (Option.some Jvm.ClassFile.FieldType.int), Jvm.Cond.code ({ cls := "com/example/otsing/otsing/algorithm/PartialMatchTableExtendPinLaw", name := "matches", desc := "([C[CII)Z" } : Jvm.MethodName) method_4_code (6 : Nat) (Option.some Jvm.ClassFile.FieldType.boolean), Jvm.Cond.code ({ cls := "com/example/otsing/otsing/algorithm/PartialMatchTable", name := "extend", desc := "([C[IIC)I" } : Jvm.MethodName) prog_43_method_3_code (5 : Nat) (Option.some Jvm.ClassFile.FieldType.int)]
set_option maxRecDepth 65536 in
theorem codes_eq : words1.filter isCode = codes1 := rfl
theorem w_codes : ∀ c ∈ words1.filter isCode, c.before args0 about1 = true := by
  rw [codes_eq]
  intro c hc
  simp only [codes1, List.mem_cons, List.not_mem_nil, or_false] at hc
  rcases hc with rfl | rfl | rfl | rfl | rfl
  · exact w_c0
  · exact w_c1
  · exact w_c2
  · exact w_c3
  · exact w_c4
set_option maxRecDepth 65536 in
theorem w_t1 : words1.all (fun c => isCode c || c.before args0 about1) = true := by decide +kernel
theorem w_tables : (allAtoms (Jvm.Cond.code x code maxLocals ret :: tables_1)).before args0 about1 = true := by
  rw [allAtoms_all]
  show words1.all (fun c => c.before args0 about1) = true
  refine all_split ?_ w_codes
  rw [w_t1]
set_option maxRecDepth 65536 in
theorem w_case : (Jvm.Cond.and given_1 narrow_1).before args0 about1 = true := by decide +kernel
theorem w_applies : (headSpec (Jvm.Cond.code x code maxLocals ret :: tables_1) room_1).applies x e0.platform about1 = true :=
  (Spec.applies_iff w_frames).mpr ⟨w_running, w_runnable, w_alone, w_named, w_hears, w_ripe, w_room, w_tables⟩
theorem atStart : AtStart classFile x code maxLocals ret World_1 tables_1 room_1 Calls_1 rest_1 Pre_1 launch0 p0 e0 about1 theMethod args0 below0 :=
  ⟨lists_1, trivial, launch0.admits_env _ _ _, launch0.least_env, fairChoices_fair.cas, fairChoices_fair.clock, w_frames, w_args, w_heap, w_applies, trivial, trivial, w_case⟩
end start1
theorem witness_1 : WitnessClaimed_1 := ⟨start1.p0, start1.e0, start1.about1, start1.theMethod, start1.args0, start1.below0, start1.atStart⟩
end Jvm.Pilot.@@N@@
