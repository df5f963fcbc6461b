import JvmDerived
import JvmDerived.Pilot.@@N@@Statement
import JvmDerived.Pilot.@@N@@Code
set_option linter.unusedVariables false
set_option linter.unusedSimpArgs false
namespace Jvm.Pilot.@@N@@
open Jvm Jvm.ClassFile Sem Op Lib Jvm.Free Jvm.Stand Jvm.LawKit Jvm.RoadKit Bundle Jvm.Pilot.@@N@@.Jvm.D
section Own
set_option maxHeartbeats 4000000
variable {p : Program} {l : Launch} {e : Env} {R : Room} {s : State} {m : MethodId} {args : Array Value} {below : List Frame} {meth : Method} {c : Code} {T : State} {locs : List Loc} {cells slots : Nat} {Z : State} {a0 : Array Value} {h : Heap} {own nm : String} {bytes : ByteArray} {ml : Nat} {rt : Option FieldType} {Q : Option Value → Heap → List Loc → Prop} {CC SS : Nat} {E : Outcome → State → Prop} {pc : Nat} {Ls : Array Slot} {St : List Value}
def Ctx (p : Program) (s : State) (m : MethodId) (meth : Method) (c : Code) (Z : State) (own nm : String) (bytes : ByteArray) (ml : Nat) (rt : Option FieldType) : Prop :=
  p.tables.exec = Jvm.exec ∧ Z.Warmed39 s.vm ∧ c.code = bytes ∧ c.maxLocals = ml ∧ s.vm.findClass own = some m.cls ∧ meth.locks = false ∧ meth.sig.returnType = rt ∧ meth.name = nm
theorem Ctx.c_x (C : Ctx p s m meth c Z own nm bytes ml rt) : p.tables.exec = Jvm.exec := C.1
theorem Ctx.c_z (C : Ctx p s m meth c Z own nm bytes ml rt) : Z.Warmed39 s.vm := C.2.1
theorem Ctx.c_by (C : Ctx p s m meth c Z own nm bytes ml rt) : c.code = bytes := C.2.2.1
theorem Ctx.c_ml (C : Ctx p s m meth c Z own nm bytes ml rt) : c.maxLocals = ml := C.2.2.2.1
theorem Ctx.c_own (C : Ctx p s m meth c Z own nm bytes ml rt) : s.vm.findClass own = some m.cls := C.2.2.2.2.1
theorem Ctx.c_lk (C : Ctx p s m meth c Z own nm bytes ml rt) : meth.locks = false := C.2.2.2.2.2.1
theorem Ctx.c_rt (C : Ctx p s m meth c Z own nm bytes ml rt) : meth.sig.returnType = rt := C.2.2.2.2.2.2.1
theorem Ctx.c_nm (C : Ctx p s m meth c Z own nm bytes ml rt) : meth.name = nm := C.2.2.2.2.2.2.2
def EndN (s : State) (Q : Option Value → Heap → List Loc → Prop) (CC SS : Nat) (o : Outcome) (t : State) : Prop := ∃ v L, o = .returned v ∧ Q v t.heap L ∧ FrameEnd s o t L CC SS
def Goes (p : Program) (e : Env) (below : List Frame) (E : Outcome → State → Prop) (T : State) (m : MethodId) (pc : Nat) (Ls : Array Slot) (St : List Value) : Prop :=
  ∃ s₂ o, Steps p.tables e below (T.setTop (mkF m pc Ls St)) s₂ ∧ s₂.status = .running ∧ Ended s₂ below o ∧ E o s₂
theorem Goes.back {T' : State} {q : Nat} {Ls' : Array Slot} {St' : List Value} (k : Goes p e below E T' m q Ls' St') (f : ∀ t, Steps p.tables e below (T'.setTop (mkF m q Ls' St')) t → Steps p.tables e below (T.setTop (mkF m pc Ls St)) t) : Goes p e below E T m pc Ls St := by
  obtain ⟨s2, o, h1, h2⟩ := k
  exact ⟨s2, o, f _ h1, h2⟩
theorem Goes.enter {g : JFrame} (hg : g = mkF m 0 Ls []) (k : Goes p e below (EndN s Q CC SS) T m 0 Ls []) : ∃ s₂ o, Steps p.tables e below (T.setTop g) s₂ ∧ s₂.status = .running ∧ Ended s₂ below o ∧ ∃ v L, o = .returned v ∧ Q v s₂.heap L ∧ FrameEnd s o s₂ L CC SS := by
  subst hg
  exact k
theorem Ctx.of {x : MethodName} {S : Spec} {s₁ : State} (Bd : BodyLoose p l x S bytes ml rt e s m args below meth c s₁) (hml : c.maxLocals = ml) (hZ : Z.Warmed39 s.vm) : Ctx p s m meth c Z x.cls x.name bytes ml rt :=
  ⟨Bd.exec, hZ, Bd.bytes, hml, findClass_of_methodNamed Bd.named, Bd.notSynchronized, Bd.returns, (name_of_methodNamed Bd.named Bd.method).1⟩
theorem g_iadd (q : Nat) (hq : pc + 1 = q) (C : Ctx p s m meth c Z own nm bytes ml rt) (X : Stand p l e R s m args below meth c T locs cells slots) {x y : Int32} (hd : decode bytes pc = .ok (.iadd, 1)) (k : Goes p e below E T m q Ls (.int (x + y) :: St)) : Goes p e below E T m pc Ls (.int y :: .int x :: St) := by
  subst hq
  exact k.back fun t kt => XS.iadd (g := mkF m pc Ls (.int y :: .int x :: St)) X.here C.c_x rfl (hb C.c_by hd) rfl kt
theorem g_iand (q : Nat) (hq : pc + 1 = q) (C : Ctx p s m meth c Z own nm bytes ml rt) (X : Stand p l e R s m args below meth c T locs cells slots) {x y : Int32} (hd : decode bytes pc = .ok (.iand, 1)) (k : Goes p e below E T m q Ls (.int (x &&& y) :: St)) : Goes p e below E T m pc Ls (.int y :: .int x :: St) := by
  subst hq
  exact k.back fun t kt => XS.iand (g := mkF m pc Ls (.int y :: .int x :: St)) X.here C.c_x rfl (hb C.c_by hd) rfl kt
theorem g_ior (q : Nat) (hq : pc + 1 = q) (C : Ctx p s m meth c Z own nm bytes ml rt) (X : Stand p l e R s m args below meth c T locs cells slots) {x y : Int32} (hd : decode bytes pc = .ok (.ior, 1)) (k : Goes p e below E T m q Ls (.int (x ||| y) :: St)) : Goes p e below E T m pc Ls (.int y :: .int x :: St) := by
  subst hq
  exact k.back fun t kt => XS.ior (g := mkF m pc Ls (.int y :: .int x :: St)) X.here C.c_x rfl (hb C.c_by hd) rfl kt
theorem g_irem (q : Nat) (hq : pc + 1 = q) (C : Ctx p s m meth c Z own nm bytes ml rt) (X : Stand p l e R s m args below meth c T locs cells slots) {x y : Int32} (hd : decode bytes pc = .ok (.irem, 1)) (hy : y ≠ 0) (k : Goes p e below E T m q Ls (.int (x % y) :: St)) : Goes p e below E T m pc Ls (.int y :: .int x :: St) := by
  subst hq
  exact k.back fun t kt => XS.irem (g := mkF m pc Ls (.int y :: .int x :: St)) X.here C.c_x rfl (hb C.c_by hd) rfl hy (by rw [irem_eq_mod]; exact kt)
theorem g_ishl (q : Nat) (hq : pc + 1 = q) (C : Ctx p s m meth c Z own nm bytes ml rt) (X : Stand p l e R s m args below meth c T locs cells slots) {x y : Int32} (hd : decode bytes pc = .ok (.ishl, 1)) (k : Goes p e below E T m q Ls (.int (x <<< (y &&& 31)) :: St)) : Goes p e below E T m pc Ls (.int y :: .int x :: St) := by
  subst hq
  exact k.back fun t kt => XS.ishl (g := mkF m pc Ls (.int y :: .int x :: St)) X.here C.c_x rfl (hb C.c_by hd) rfl kt
theorem g_i2b (q : Nat) (hq : pc + 1 = q) (C : Ctx p s m meth c Z own nm bytes ml rt) (X : Stand p l e R s m args below meth c T locs cells slots) {x : Int32} (hd : decode bytes pc = .ok (.i2b, 1)) (k : Goes p e below E T m q Ls (.int (x.toInt8.toInt32) :: St)) : Goes p e below E T m pc Ls (.int x :: St) := by
  subst hq
  exact k.back fun t kt => XS.i2b (g := mkF m pc Ls (.int x :: St)) X.here C.c_x rfl (hb C.c_by hd) rfl kt
theorem g_iconst (q : Nat) (hq : pc + 1 = q) (C : Ctx p s m meth c Z own nm bytes ml rt) (X : Stand p l e R s m args below meth c T locs cells slots) {i : Int} (v : Int32) (hd : decode bytes pc = .ok (.iconst i, 1)) (hv : Int32.ofInt i = v) (k : Goes p e below E T m q Ls (.int v :: St)) : Goes p e below E T m pc Ls St := by
  subst hq
  exact k.back fun t kt => XS.iconst (g := mkF m pc Ls St) X.here C.c_x rfl (hb C.c_by hd) (by subst hv; exact kt)
theorem g_bipush (q : Nat) (hq : pc + 2 = q) (C : Ctx p s m meth c Z own nm bytes ml rt) (X : Stand p l e R s m args below meth c T locs cells slots) {i : Int} (v : Int32) (hd : decode bytes pc = .ok (.bipush i, 2)) (hv : (Int8.ofInt i).toInt32 = v) (k : Goes p e below E T m q Ls (.int v :: St)) : Goes p e below E T m pc Ls St := by
  subst hq
  exact k.back fun t kt => XS.bipush (g := mkF m pc Ls St) X.here C.c_x rfl (hb C.c_by hd) (by subst hv; exact kt)
theorem g_sipush (q : Nat) (hq : pc + 3 = q) (C : Ctx p s m meth c Z own nm bytes ml rt) (X : Stand p l e R s m args below meth c T locs cells slots) {i : Int} (v : Int32) (hd : decode bytes pc = .ok (.sipush i, 3)) (hv : (Int16.ofInt i).toInt32 = v) (k : Goes p e below E T m q Ls (.int v :: St)) : Goes p e below E T m pc Ls St := by
  subst hq
  exact k.back fun t kt => XS.sipush (g := mkF m pc Ls St) X.here C.c_x rfl (hb C.c_by hd) (by subst hv; exact kt)
theorem g_iloadN (q : Nat) (hq : pc + 1 = q) (C : Ctx p s m meth c Z own nm bytes ml rt) (X : Stand p l e R s m args below meth c T locs cells slots) {k0 : Fin 4} {v : Int32} (hd : decode bytes pc = .ok (.iload_n k0, 1)) (hl : Ls[k0.val]? = some (.val (.int v))) (k : Goes p e below E T m q Ls (.int v :: St)) : Goes p e below E T m pc Ls St := by
  subst hq
  exact k.back fun t kt => XS.iloadN (g := mkF m pc Ls St) X.here C.c_x rfl (hb C.c_by hd) hl kt
theorem g_iload (q : Nat) (hq : pc + 2 = q) (C : Ctx p s m meth c Z own nm bytes ml rt) (X : Stand p l e R s m args below meth c T locs cells slots) {k0 : Nat} {v : Int32} (hd : decode bytes pc = .ok (.iload k0, 2)) (hl : Ls[k0]? = some (.val (.int v))) (k : Goes p e below E T m q Ls (.int v :: St)) : Goes p e below E T m pc Ls St := by
  subst hq
  exact k.back fun t kt => XS.iload (g := mkF m pc Ls St) X.here C.c_x rfl (hb C.c_by hd) hl kt
theorem g_aloadN (q : Nat) (hq : pc + 1 = q) (C : Ctx p s m meth c Z own nm bytes ml rt) (X : Stand p l e R s m args below meth c T locs cells slots) {k0 : Fin 4} {v : Value} (hd : decode bytes pc = .ok (.aload_n k0, 1)) (hl : Ls[k0.val]? = some (.val v)) (hv : v.isRef = true) (k : Goes p e below E T m q Ls (v :: St)) : Goes p e below E T m pc Ls St := by
  subst hq
  exact k.back fun t kt => XS.aloadN (g := mkF m pc Ls St) X.here C.c_x rfl (hb C.c_by hd) hl hv kt
theorem g_aload (q : Nat) (hq : pc + 2 = q) (C : Ctx p s m meth c Z own nm bytes ml rt) (X : Stand p l e R s m args below meth c T locs cells slots) {k0 : Nat} {v : Value} (hd : decode bytes pc = .ok (.aload k0, 2)) (hl : Ls[k0]? = some (.val v)) (hv : v.isRef = true) (k : Goes p e below E T m q Ls (v :: St)) : Goes p e below E T m pc Ls St := by
  subst hq
  exact k.back fun t kt => XS.aload (g := mkF m pc Ls St) X.here C.c_x rfl (hb C.c_by hd) hl hv kt
theorem g_istoreN (q : Nat) (hq : pc + 1 = q) (C : Ctx p s m meth c Z own nm bytes ml rt) (X : Stand p l e R s m args below meth c T locs cells slots) {k0 : Fin 4} {x : Int32} (v : Int32) (hv : x = v) (Ls' : Array Slot) (hd : decode bytes pc = .ok (.istore_n k0, 1)) (hl : storeLocals Ls k0.val (.int v) = some Ls') (k : Goes p e below E T m q Ls' St) : Goes p e below E T m pc Ls (.int x :: St) := by
  subst hq
  exact k.back fun t kt => XS.istoreN (g := mkF m pc Ls (.int x :: St)) X.here C.c_x rfl (hb C.c_by hd) rfl (by subst hv; exact hl) kt
theorem g_istore (q : Nat) (hq : pc + 2 = q) (C : Ctx p s m meth c Z own nm bytes ml rt) (X : Stand p l e R s m args below meth c T locs cells slots) {k0 : Nat} {x : Int32} (v : Int32) (hv : x = v) (Ls' : Array Slot) (hd : decode bytes pc = .ok (.istore k0, 2)) (hl : storeLocals Ls k0 (.int v) = some Ls') (k : Goes p e below E T m q Ls' St) : Goes p e below E T m pc Ls (.int x :: St) := by
  subst hq
  exact k.back fun t kt => XS.istore (g := mkF m pc Ls (.int x :: St)) X.here C.c_x rfl (hb C.c_by hd) rfl (by subst hv; exact hl) kt
theorem g_astore (q : Nat) (hq : pc + 2 = q) (C : Ctx p s m meth c Z own nm bytes ml rt) (X : Stand p l e R s m args below meth c T locs cells slots) {k0 : Nat} {x : Value} (Ls' : Array Slot) (hd : decode bytes pc = .ok (.astore k0, 2)) (hv : x.isRef = true) (hl : storeLocals Ls k0 x = some Ls') (k : Goes p e below E T m q Ls' St) : Goes p e below E T m pc Ls (x :: St) := by
  subst hq
  exact k.back fun t kt => XS.astore (g := mkF m pc Ls (x :: St)) X.here C.c_x rfl (hb C.c_by hd) rfl hv hl kt
theorem g_iinc (q : Nat) (hq : pc + 3 = q) (C : Ctx p s m meth c Z own nm bytes ml rt) (X : Stand p l e R s m args below meth c T locs cells slots) {k0 : Nat} {i : Int} {x : Int32} (w v : Int32) (Ls' : Array Slot) (hd : decode bytes pc = .ok (.iinc k0 i, 3)) (hw : Int32.ofInt i = w) (hl : Ls[k0]? = some (.val (.int x))) (hv : x + w = v) (hl' : storeLocals Ls k0 (.int v) = some Ls') (k : Goes p e below E T m q Ls' St) : Goes p e below E T m pc Ls St := by
  subst hq
  exact k.back fun t kt => XS.iinc (g := mkF m pc Ls St) X.here C.c_x rfl (hb C.c_by hd) hl (by subst hw hv; exact hl') kt
theorem g_goto (q : Nat) (C : Ctx p s m meth c Z own nm bytes ml rt) (X : Stand p l e R s m args below meth c T locs cells slots) {o : Int} (hd : decode bytes pc = .ok (.goto o, 3)) (ho : 0 ≤ (pc : Int) + o) (hp : ((pc : Int) + o).toNat = q) (k : Goes p e below E T m q Ls St) : Goes p e below E T m pc Ls St :=
  k.back fun t kt => XS.goto (g := mkF m pc Ls St) X.here C.c_x rfl (pc0 := pc) (pc' := q) rfl (hb C.c_by hd) ho hp kt
theorem own_z0 : (0 : Int32).toInt = 0 := rfl
theorem g_icmp_lt_t (q : Nat) (C : Ctx p s m meth c Z own nm bytes ml rt) (X : Stand p l e R s m args below meth c T locs cells slots) {o : Int} {x y : Int32} (hd : decode bytes pc = .ok (.if_icmp .lt o, 3)) (ho : 0 ≤ (pc : Int) + o) (hp : ((pc : Int) + o).toNat = q) (h : x.toInt < y.toInt) (k : Goes p e below E T m q Ls St) : Goes p e below E T m pc Ls (.int y :: .int x :: St) :=
  k.back fun t kt => XS.icmpYes (g := mkF m pc Ls (.int y :: .int x :: St)) X.here C.c_x rfl (pc0 := pc) (pc' := q) rfl (hb C.c_by hd) rfl (tlt (Int32.lt_iff_toInt_lt.mpr h)).1 ho hp kt
theorem g_icmp_lt_f (q : Nat) (hq : pc + 3 = q) (C : Ctx p s m meth c Z own nm bytes ml rt) (X : Stand p l e R s m args below meth c T locs cells slots) {o : Int} {x y : Int32} (hd : decode bytes pc = .ok (.if_icmp .lt o, 3)) (h : ¬ x.toInt < y.toInt) (k : Goes p e below E T m q Ls St) : Goes p e below E T m pc Ls (.int y :: .int x :: St) := by
  subst hq
  exact k.back fun t kt => XS.icmpNo (g := mkF m pc Ls (.int y :: .int x :: St)) X.here C.c_x rfl (hb C.c_by hd) rfl (flt (fun r => h (Int32.lt_iff_toInt_lt.mp r))).1 kt
theorem g_icmp_ge_t (q : Nat) (C : Ctx p s m meth c Z own nm bytes ml rt) (X : Stand p l e R s m args below meth c T locs cells slots) {o : Int} {x y : Int32} (hd : decode bytes pc = .ok (.if_icmp .ge o, 3)) (ho : 0 ≤ (pc : Int) + o) (hp : ((pc : Int) + o).toNat = q) (h : ¬ x.toInt < y.toInt) (k : Goes p e below E T m q Ls St) : Goes p e below E T m pc Ls (.int y :: .int x :: St) :=
  k.back fun t kt => XS.icmpYes (g := mkF m pc Ls (.int y :: .int x :: St)) X.here C.c_x rfl (pc0 := pc) (pc' := q) rfl (hb C.c_by hd) rfl (flt (fun r => h (Int32.lt_iff_toInt_lt.mp r))).2.1 ho hp kt
theorem g_icmp_ge_f (q : Nat) (hq : pc + 3 = q) (C : Ctx p s m meth c Z own nm bytes ml rt) (X : Stand p l e R s m args below meth c T locs cells slots) {o : Int} {x y : Int32} (hd : decode bytes pc = .ok (.if_icmp .ge o, 3)) (h : x.toInt < y.toInt) (k : Goes p e below E T m q Ls St) : Goes p e below E T m pc Ls (.int y :: .int x :: St) := by
  subst hq
  exact k.back fun t kt => XS.icmpNo (g := mkF m pc Ls (.int y :: .int x :: St)) X.here C.c_x rfl (hb C.c_by hd) rfl (tlt (Int32.lt_iff_toInt_lt.mpr h)).2.1 kt
theorem g_icmp_gt_t (q : Nat) (C : Ctx p s m meth c Z own nm bytes ml rt) (X : Stand p l e R s m args below meth c T locs cells slots) {o : Int} {x y : Int32} (hd : decode bytes pc = .ok (.if_icmp .gt o, 3)) (ho : 0 ≤ (pc : Int) + o) (hp : ((pc : Int) + o).toNat = q) (h : y.toInt < x.toInt) (k : Goes p e below E T m q Ls St) : Goes p e below E T m pc Ls (.int y :: .int x :: St) :=
  k.back fun t kt => XS.icmpYes (g := mkF m pc Ls (.int y :: .int x :: St)) X.here C.c_x rfl (pc0 := pc) (pc' := q) rfl (hb C.c_by hd) rfl (tlt (Int32.lt_iff_toInt_lt.mpr h)).2.2.1 ho hp kt
theorem g_icmp_gt_f (q : Nat) (hq : pc + 3 = q) (C : Ctx p s m meth c Z own nm bytes ml rt) (X : Stand p l e R s m args below meth c T locs cells slots) {o : Int} {x y : Int32} (hd : decode bytes pc = .ok (.if_icmp .gt o, 3)) (h : ¬ y.toInt < x.toInt) (k : Goes p e below E T m q Ls St) : Goes p e below E T m pc Ls (.int y :: .int x :: St) := by
  subst hq
  exact k.back fun t kt => XS.icmpNo (g := mkF m pc Ls (.int y :: .int x :: St)) X.here C.c_x rfl (hb C.c_by hd) rfl (flt (fun r => h (Int32.lt_iff_toInt_lt.mp r))).2.2.1 kt
theorem g_icmp_le_t (q : Nat) (C : Ctx p s m meth c Z own nm bytes ml rt) (X : Stand p l e R s m args below meth c T locs cells slots) {o : Int} {x y : Int32} (hd : decode bytes pc = .ok (.if_icmp .le o, 3)) (ho : 0 ≤ (pc : Int) + o) (hp : ((pc : Int) + o).toNat = q) (h : ¬ y.toInt < x.toInt) (k : Goes p e below E T m q Ls St) : Goes p e below E T m pc Ls (.int y :: .int x :: St) :=
  k.back fun t kt => XS.icmpYes (g := mkF m pc Ls (.int y :: .int x :: St)) X.here C.c_x rfl (pc0 := pc) (pc' := q) rfl (hb C.c_by hd) rfl (flt (fun r => h (Int32.lt_iff_toInt_lt.mp r))).2.2.2 ho hp kt
theorem g_icmp_le_f (q : Nat) (hq : pc + 3 = q) (C : Ctx p s m meth c Z own nm bytes ml rt) (X : Stand p l e R s m args below meth c T locs cells slots) {o : Int} {x y : Int32} (hd : decode bytes pc = .ok (.if_icmp .le o, 3)) (h : y.toInt < x.toInt) (k : Goes p e below E T m q Ls St) : Goes p e below E T m pc Ls (.int y :: .int x :: St) := by
  subst hq
  exact k.back fun t kt => XS.icmpNo (g := mkF m pc Ls (.int y :: .int x :: St)) X.here C.c_x rfl (hb C.c_by hd) rfl (tlt (Int32.lt_iff_toInt_lt.mpr h)).2.2.2 kt
theorem g_icmp_eq_t (q : Nat) (C : Ctx p s m meth c Z own nm bytes ml rt) (X : Stand p l e R s m args below meth c T locs cells slots) {o : Int} {x y : Int32} (hd : decode bytes pc = .ok (.if_icmp .eq o, 3)) (ho : 0 ≤ (pc : Int) + o) (hp : ((pc : Int) + o).toNat = q) (h : x.toInt = y.toInt) (k : Goes p e below E T m q Ls St) : Goes p e below E T m pc Ls (.int y :: .int x :: St) :=
  k.back fun t kt => XS.icmpYes (g := mkF m pc Ls (.int y :: .int x :: St)) X.here C.c_x rfl (pc0 := pc) (pc' := q) rfl (hb C.c_by hd) rfl (teq (Int32.toInt_inj.mp h)).1 ho hp kt
theorem g_icmp_eq_f (q : Nat) (hq : pc + 3 = q) (C : Ctx p s m meth c Z own nm bytes ml rt) (X : Stand p l e R s m args below meth c T locs cells slots) {o : Int} {x y : Int32} (hd : decode bytes pc = .ok (.if_icmp .eq o, 3)) (h : ¬ x.toInt = y.toInt) (k : Goes p e below E T m q Ls St) : Goes p e below E T m pc Ls (.int y :: .int x :: St) := by
  subst hq
  exact k.back fun t kt => XS.icmpNo (g := mkF m pc Ls (.int y :: .int x :: St)) X.here C.c_x rfl (hb C.c_by hd) rfl (feq (fun r => h (congrArg Int32.toInt r))).1 kt
theorem g_icmp_ne_t (q : Nat) (C : Ctx p s m meth c Z own nm bytes ml rt) (X : Stand p l e R s m args below meth c T locs cells slots) {o : Int} {x y : Int32} (hd : decode bytes pc = .ok (.if_icmp .ne o, 3)) (ho : 0 ≤ (pc : Int) + o) (hp : ((pc : Int) + o).toNat = q) (h : ¬ x.toInt = y.toInt) (k : Goes p e below E T m q Ls St) : Goes p e below E T m pc Ls (.int y :: .int x :: St) :=
  k.back fun t kt => XS.icmpYes (g := mkF m pc Ls (.int y :: .int x :: St)) X.here C.c_x rfl (pc0 := pc) (pc' := q) rfl (hb C.c_by hd) rfl (feq (fun r => h (congrArg Int32.toInt r))).2 ho hp kt
theorem g_if_ne_t (q : Nat) (C : Ctx p s m meth c Z own nm bytes ml rt) (X : Stand p l e R s m args below meth c T locs cells slots) {o : Int} {x : Int32} (hd : decode bytes pc = .ok (.ifCond .ne o, 3)) (ho : 0 ≤ (pc : Int) + o) (hp : ((pc : Int) + o).toNat = q) (h : ¬ x.toInt = 0) (k : Goes p e below E T m q Ls St) : Goes p e below E T m pc Ls (.int x :: St) :=
  k.back fun t kt => XS.ifYes (g := mkF m pc Ls (.int x :: St)) X.here C.c_x rfl (pc0 := pc) (pc' := q) rfl (hb C.c_by hd) rfl ((if0 _ _).trans (feq (fun r => h (congrArg Int32.toInt r))).2) ho hp kt
theorem g_icmp_ne_f (q : Nat) (hq : pc + 3 = q) (C : Ctx p s m meth c Z own nm bytes ml rt) (X : Stand p l e R s m args below meth c T locs cells slots) {o : Int} {x y : Int32} (hd : decode bytes pc = .ok (.if_icmp .ne o, 3)) (h : x.toInt = y.toInt) (k : Goes p e below E T m q Ls St) : Goes p e below E T m pc Ls (.int y :: .int x :: St) := by
  subst hq
  exact k.back fun t kt => XS.icmpNo (g := mkF m pc Ls (.int y :: .int x :: St)) X.here C.c_x rfl (hb C.c_by hd) rfl (teq (Int32.toInt_inj.mp h)).2 kt
theorem g_if_ne_f (q : Nat) (hq : pc + 3 = q) (C : Ctx p s m meth c Z own nm bytes ml rt) (X : Stand p l e R s m args below meth c T locs cells slots) {o : Int} {x : Int32} (hd : decode bytes pc = .ok (.ifCond .ne o, 3)) (h : x.toInt = 0) (k : Goes p e below E T m q Ls St) : Goes p e below E T m pc Ls (.int x :: St) := by
  subst hq
  exact k.back fun t kt => XS.ifNo (g := mkF m pc Ls (.int x :: St)) X.here C.c_x rfl (hb C.c_by hd) rfl ((if0 _ _).trans (teq (Int32.toInt_inj.mp h)).2) kt
theorem g_ldc (q : Nat) (hq : pc + 2 = q) (C : Ctx p s m meth c Z own nm bytes ml rt) (X : Stand p l e R s m args below meth c T locs cells slots) {i : Nat} {v : Int32} (w : (Cond.constant own i v).before a0 Z = true) (hd : decode bytes pc = .ok (.ldc i, 2)) (k : Goes p e below E T m q Ls (.int v :: St)) : Goes p e below E T m pc Ls St := by
  subst hq
  exact k.back fun t kt => X.ldcInt C.c_x C.c_own (mvT C.c_z w) (g := mkF m pc Ls St) rfl (hb C.c_by hd) _ kt
theorem g_retW (C : Ctx p s m meth c Z own nm bytes ml rt) (X : Stand p l e R s m args below meth c T locs cells slots) {w : Value} {t : FieldType} {i : Instr} (hrt : rt = some t) (hn : narrow t w = w)
    (hi : (i = .ireturn ∧ (t = .int ∨ t = .boolean ∨ t = .byte ∨ t = .char ∨ t = .short) ∧ ∃ z, w = .int z) ∨ (i = .lreturn ∧ t = .long ∧ ∃ z, w = .long z) ∨ (i = .dreturn ∧ t = .double ∧ ∃ z, w = .double z) ∨ (i = .freturn ∧ t = .float ∧ ∃ z, w = .float z) ∨ (i = .areturn ∧ t.isReference = true ∧ w.isRef = true))
    (hd : decode bytes pc = .ok (i, 1)) (eT : T.heap = h) (hc : cells ≤ CC) (hs : slots ≤ SS) (hQ : Q (some w) h locs) : Goes p e below (EndN s Q CC SS) T m pc Ls (w :: St) := by
  obtain ⟨fs, hr, hrun, hended, hW, hsame⟩ := X.leave (v := some w) (fun r => by rw [C.c_rt, hrt] at r; cases r) C.c_lk
  subst eT
  exact ⟨_, _, retOut X C.c_x (C.c_rt.trans hrt) hn hi (hb C.c_by hd) hr, hrun, hended, _, _, rfl, hQ, ⟨_, rfl⟩, hW, hsame.mono hc hs⟩
theorem g_retI (C : Ctx p s m meth c Z own nm bytes ml rt) (X : Stand p l e R s m args below meth c T locs cells slots) {z : Int32} (hrt : rt = some .int) (hd : decode bytes pc = .ok (.ireturn, 1)) (eT : T.heap = h) (hc : cells ≤ CC) (hs : slots ≤ SS) (hQ : Q (some (.int z)) h locs) : Goes p e below (EndN s Q CC SS) T m pc Ls (.int z :: St) :=
  g_retW C X hrt rfl (Or.inl ⟨rfl, Or.inl rfl, z, rfl⟩) hd eT hc hs hQ
theorem g_retN (C : Ctx p s m meth c Z own nm bytes ml rt) (X : Stand p l e R s m args below meth c T locs cells slots) {z z' : Int32} {t : FieldType} (hrt : rt = some t) (ht : t = .boolean ∨ t = .byte ∨ t = .char ∨ t = .short) (hd : decode bytes pc = .ok (.ireturn, 1)) (eT : T.heap = h) (hc : cells ≤ CC) (hs : slots ≤ SS) (hz : nar t z = z') (hQ : Q (some (.int z')) h locs) : Goes p e below (EndN s Q CC SS) T m pc Ls (.int z :: St) := by
  obtain ⟨fs, hr, hrun, hended, hW, hsame⟩ := X.leave (v := some (.int (nar t z))) (fun r => by rw [C.c_rt, hrt] at r; cases r) C.c_lk
  subst eT
  subst hz
  exact ⟨_, _, retN X C.c_x (C.c_rt.trans hrt) ht (hb C.c_by hd) hr, hrun, hended, _, _, rfl, hQ, ⟨_, rfl⟩, hW, hsame.mono hc hs⟩
def Ba (Z : State) (h : Heap) (a : Addr) (ty : FieldType) (n : Nat) (f : Nat → Int32) : Prop := ∃ c : Cell, Arr Z h a c ty ∧ c.slots.size = n ∧ n < 2 ^ 31 ∧ (∀ k, k < n → c.slots[k]? = some (.int (f k)))
def upd (f : Nat → Int32) (j : Nat) (v : Int32) : Nat → Int32 := fun k => bif Nat.beq k j then v else f k
theorem upd_same {f : Nat → Int32} {j k : Nat} {v : Int32} (q : k = j) : upd f j v k = v := by subst q; simp [upd]
theorem upd_ne {f : Nat → Int32} {j k : Nat} {v : Int32} (q : k ≠ j) : upd f j v k = f k := by
  have : Nat.beq k j = false := by
    cases hb : Nat.beq k j with
    | false => rfl
    | true => exact absurd (Nat.eq_of_beq_eq_true hb) q
  show (bif Nat.beq k j then v else f k) = f k
  rw [this]; rfl
theorem upd_eq (f : Nat → Int32) (j k : Nat) (v : Int32) : upd f j v k = if k = j then v else f k := by
  split
  · rename_i q; exact upd_same q
  · rename_i q; exact upd_ne q
theorem Ba.lt {a : Addr} {ty : FieldType} {n : Nat} {f : Nat → Int32} (F : Ba Z h a ty n f) : a < h.size := by obtain ⟨c, A, -⟩ := F; exact A.lt
theorem Ba.ext {h' : Heap} {a : Addr} {ty : FieldType} {n : Nat} {f : Nat → Int32} (F : Ba Z h a ty n f) (E : Ext h h') : Ba Z h' a ty n f := by obtain ⟨c, A, r⟩ := F; exact ⟨c, A.ext E, r⟩
theorem Ba.other {h' : Heap} {a b : Addr} {ty : FieldType} {n sl : Nat} {v : Value} {f : Nat → Int32} (F : Ba Z h a ty n f) (W : Wr h h' b sl v) (q : a ≠ b) : Ba Z h' a ty n f := by obtain ⟨c, A, r⟩ := F; exact ⟨c, A.other W q, r⟩
theorem Ba.keep {h' : Heap} {a : Addr} {ty : FieldType} {n : Nat} {ws : List Addr} {f : Nat → Int32} (F : Ba Z h a ty n f) (K : Keep h h' ws) (q : a ∉ ws) : Ba Z h' a ty n f := by obtain ⟨c, A, r⟩ := F; exact ⟨c, ⟨K.2.1 a c A.1 q, A.2⟩, r⟩
theorem Ba.same {h' : Heap} {a : Addr} {ty : FieldType} {n j : Nat} {v : Int32} {f : Nat → Int32} (F : Ba Z h a ty n f) (W : Wr h h' a j (.int v)) : Ba Z h' a ty n (upd f j v) := by
  obtain ⟨c, A, hs, hn, hf⟩ := F
  refine ⟨_, A.same W, by simp [Cell.setSlot, hs], hn, fun k hk => ?_⟩
  rw [upd_eq]
  by_cases q : k = j
  · subst q; simp [Cell.setSlot, hs, hk]
  · rw [if_neg q]; simp only [Cell.setSlot]; rw [Array.getElem?_setIfInBounds_ne (Ne.symm q)]; exact hf k hk
theorem Ba.cong {a : Addr} {ty : FieldType} {n : Nat} {f f' : Nat → Int32} (F : Ba Z h a ty n f) (q : ∀ k, k < n → f k = f' k) : Ba Z h a ty n f' := by
  obtain ⟨c, A, hs, hn, hf⟩ := F
  exact ⟨c, A, hs, hn, fun k hk => by rw [← q k hk]; exact hf k hk⟩
theorem Ba.new {a : Addr} {cA : ClassId} {ty : FieldType} {z : Int32} {n : Nat} (A : Arr Z h a (newA cA ty z) ty) (hz : z.toInt = n) (hd : defaultValue ty = .int 0) : Ba Z h a ty n (fun _ => 0) := by
  have hr := rng32 z
  have hn : z.toNatClampNeg = n := by simp only [Int32.toNatClampNeg, hz]; rfl
  exact ⟨_, A, by rw [sz_new, hn], by omega, fun k hk => by simp [newA, hn, hk, hd]⟩
theorem own_clamp {j : Int32} {k : Nat} (hj : j.toInt = k) : j.toNatClampNeg = k ∧ ¬ j < 0 := by
  refine ⟨by simp only [Int32.toNatClampNeg, hj]; rfl, fun r => ?_⟩
  have := Int32.lt_iff_toInt_lt.mp r
  rw [hj, own_z0] at this; omega
theorem own_in {j : Int32} {k n : Nat} {c : Cell} (hs : c.slots.size = n) (hj : j.toInt = k) (hk : k < n) : ¬ (j < 0 ∨ c.slots.size ≤ j.toNatClampNeg) := by
  obtain ⟨h1, h2⟩ := own_clamp hj
  rw [h1, hs]; intro r; rcases r with r | r
  · exact h2 r
  · omega
theorem own_lenI {n : Nat} (hn : n < 2 ^ 31) : (n.toInt32).toInt = n := by
  have := len_toInt hn
  exact this
theorem g_newP (q : Nat) (hq : pc + 2 = q) (C : Ctx p s m meth c Z own nm bytes ml rt) (X : Stand p l e R s m args below meth c T locs cells slots) {aty : ArrayType} {z : Int32} (n : Nat) (hz : z.toInt = n) (cap : Nat) (hcap : n ≤ cap) (hb' : cap * 8 ≤ 536870912) (hdf : defaultValue (newarray.typeOf aty) = .int 0) (w : (Cond.arrayClass (newarray.typeOf aty)).before a0 Z = true) (eT : T.heap = h) (hd : decode bytes pc = .ok (.newarray aty, 2)) (hc : cells + 1 ≤ R.cells) (hl : slots + cap ≤ R.slots)
    (k : ∀ T' h' a, a = h.size → Stand p l e R s m args below meth c T' locs (cells + 1) (slots + cap) → T'.heap = h' → Ext h h' → Ba Z h' a (newarray.typeOf aty) n (fun _ => 0) → Goes p e below E T' m q Ls (.ref a :: St)) : Goes p e below E T m pc Ls (.int z :: St) := by
  subst hq
  obtain ⟨h1, h2⟩ := own_clamp hz
  obtain ⟨T', h', cA, X', e', E', A', st⟩ := newP X C.c_x C.c_z w eT (g := mkF m pc Ls (.int z :: St)) rfl (hb C.c_by hd) rfl h2 (cap := cap) (by rw [h1]; exact hcap) hb' hc hl
  exact (k T' h' _ rfl X' e' E' (Ba.new A' hz hdf)).back fun t kt => st t kt
theorem g_baload (q : Nat) (hq : pc + 1 = q) (C : Ctx p s m meth c Z own nm bytes ml rt) (X : Stand p l e R s m args below meth c T locs cells slots) {a : Addr} {n : Nat} {f : Nat → Int32} {j : Int32} (eT : T.heap = h) (F : Ba Z h a .byte n f) (i : Nat) (hj : j.toInt = i) (hi : i < n) (v : Int32) (hv : f i = v) (hd : decode bytes pc = .ok (.baload, 1)) (k : Goes p e below E T m q Ls (.int v :: St)) : Goes p e below E T m pc Ls (.int j :: .ref a :: St) := by
  subst hq
  obtain ⟨c0, A, hs, hn, hf⟩ := F
  exact k.back fun t kt => X.baloadBytes C.c_x (j := j) (v := .int v) (by rw [eT]; exact A.1) (State.isArrayOf_alike C.c_z.alike A.2.1) A.2.2 (own_in hs hj hi) (by rw [(own_clamp hj).1, ← hv]; exact hf i hi) (g := mkF m pc Ls (.int j :: .ref a :: St)) rfl rfl (hb C.c_by hd) t kt
theorem g_bastore (q : Nat) (hq : pc + 1 = q) (C : Ctx p s m meth c Z own nm bytes ml rt) (X : Stand p l e R s m args below meth c T locs cells slots) {a : Addr} {n : Nat} {f : Nat → Int32} {j x : Int32} (eT : T.heap = h) (F : Ba Z h a .byte n f) (i : Nat) (hj : j.toInt = i) (hi : i < n) (v : Int32) (hv : x.toInt8.toInt32 = v) (hd : decode bytes pc = .ok (.bastore, 1)) {n0 : Nat} (N : Fr n0 locs) (hn0 : n0 ≤ a)
    (k : ∀ T' h' locs', Stand p l e R s m args below meth c T' locs' cells slots → T'.heap = h' → Wr h h' a i (.int v) → Ba Z h' a .byte n (upd f i v) → Fr n0 locs' → Goes p e below E T' m q Ls St) : Goes p e below E T m pc Ls (.int x :: .int j :: .ref a :: St) := by
  subst hq hv
  have F0 := F
  obtain ⟨c0, A, hs, hn, hf⟩ := F
  obtain ⟨T', h', X', e', W', st⟩ := stB X C.c_x C.c_z eT A (j := j) (own_in hs hj hi) (g := mkF m pc Ls (.int x :: .int j :: .ref a :: St)) rfl rfl (hb C.c_by hd)
  rw [(own_clamp hj).1] at W' X'
  exact (k T' h' _ X' e' W' (F0.same W') (Fr.snoc X' N hn0)).back fun t kt => st t kt
theorem own_narByte {b : Int32} (h0 : -128 ≤ b.toInt) (h1 : b.toInt < 128) : b.toInt8.toInt32 = b := by
  have := c_i2b b
  exact Int32.toInt_inj.mp (by omega)
theorem own_fitB {x : Int32} (h0 : -128 ≤ x.toInt) (h1 : x.toInt < 128) : fits .byte (.int x) = true := by
  have e := own_narByte h0 h1
  rw [← e]; exact fits_nar_byte x

theorem g_callS (q : Nat) (hq : pc + 3 = q) (C : Ctx p s m meth c Z own nm bytes ml rt) (X : Stand p l e R s m args below meth c T locs cells slots) {y : MethodName} {bytes' : ByteArray} {maxL' : Nat} {ret' : Option FieldType} {rm : Room} {Q' : Option Value → Heap → List Loc → Prop} {i W : Nat} {argsL : List Value} (w1 : (Cond.methodLink own i y).before a0 Z = true) (w2 : (Cond.static y).before a0 Z = true) (wc : (Cond.code y bytes' maxL' ret').before a0 Z = true) (wz : (Cond.initialized y.cls).before a0 Z = true) (eT : T.heap = h) (M : MetFree l y (head1 [Cond.code y bytes' maxL' ret'] rm) (fun a' U => a' = argsL.toArray ∧ Z.Warmed39 U.vm ∧ U.heap = h) (fun _ _ _ _ _ => True) (fun _ U o U' => ∃ v L, o = .returned v ∧ Q' v U'.heap L ∧ FrameEnd U o U' L rm.cells rm.slots)) (hlen : ∀ sig, parseMethodDescriptor y.desc = some sig → argsL.length = sig.parameters.length) (hf : rm.frames + 1 ≤ R.frames) (hl : W + (maxL' + 11) + rm.locals ≤ R.locals) (hc : cells + rm.cells ≤ R.cells) (hsl : slots + rm.slots ≤ R.slots) (hsz : Ls.size = ml) (hW : (St.map fun v => v.category).sum ≤ W) (hy : y.cls ≠ "java/lang/invoke/MethodHandle" ∧ y.cls ≠ "java/lang/invoke/VarHandle") (hd : decode bytes pc = .ok (.invokestatic i, 3)) {St0 : List Value} (hst : St0 = argsL.reverse ++ St)
    (k : ∀ v T' L, Stand p l e R s m args below meth c T' (locs ++ L) (cells + rm.cells) (slots + rm.slots) → Q' v T'.heap L → Goes p e below E T' m q Ls (v.toList ++ St)) : Goes p e below E T m pc Ls St0 := by
  subst hq hst
  obtain ⟨v, _, ⟨T', L', k', n'⟩, -, X', ⟨Lc, hQ', l', y', z'⟩, st⟩ := Jvm.LawKit.callS X C.c_x (y := y) C.c_own (mvT C.c_z w1) (mvT C.c_z w2) (mvT C.c_z wz) (mvT C.c_z wc) hy (backOf (W := W) M C.c_z wc wz hf hl) (g := mkF m pc Ls (argsL.reverse ++ St)) rfl (hsz.trans C.c_ml.symm) (argsL := argsL) (rest := St) hlen rfl (by show 2 * 0 + _ ≤ _; omega) (hb C.c_by hd) (fun _ _ => ⟨rfl, eT, hc, hsl⟩)
  dsimp only [Pt.U, Pt.locs, Pt.cells, Pt.slots] at X' l' y' z' st hQ'
  subst l' y' z'
  exact (k v T' Lc X' hQ').back fun t kt => st t kt
end Own
section OwnArith
theorem own_mulc (x y : Int32) (k : Int) (hk : y.toInt = k) : ((x * y).toInt - x.toInt * k) % 4294967296 = 0 := hk ▸ c_imul x y
theorem own_mulc' (x y : Int32) (k : Int) (hk : x.toInt = k) : ((x * y).toInt - k * y.toInt) % 4294967296 = 0 := hk ▸ c_imul x y
theorem own_lmulc (x y : Int64) (k : Int) (hk : y.toInt = k) : ((x * y).toInt - x.toInt * k) % 18446744073709551616 = 0 := hk ▸ c_lmul x y
theorem own_lmulc' (x y : Int64) (k : Int) (hk : x.toInt = k) : ((x * y).toInt - k * y.toInt) % 18446744073709551616 = 0 := hk ▸ c_lmul x y
theorem own_bvor (x y : BitVec 32) : (x ||| y) + (x &&& y) = x + y := by
  have h1 : x = (x &&& y) + (x &&& ~~~y) := by
    rw [BitVec.add_eq_or_of_and_eq_zero]
    · ext i; simp; cases x[i] <;> cases y[i] <;> rfl
    · ext i; simp; cases x[i] <;> cases y[i] <;> simp
  have h2 : x ||| y = y + (x &&& ~~~y) := by
    rw [BitVec.add_eq_or_of_and_eq_zero]
    · ext i; simp; cases x[i] <;> cases y[i] <;> rfl
    · ext i; simp; cases x[i] <;> cases y[i] <;> simp
  rw [h2]
  conv => rhs; rw [h1]
  ac_rfl
theorem own_or0 (x y : Int32) : (x ||| y) + (x &&& y) = x + y := Int32.toBitVec_inj.mp (by simpa using own_bvor x.toBitVec y.toBitVec)
theorem own_or (x y : Int32) : ((x ||| y).toInt + (x &&& y).toInt - (x.toInt + y.toInt)) % 4294967296 = 0 := by
  have h1 := c_iadd (x ||| y) (x &&& y)
  have h2 := c_iadd x y
  rw [own_or0] at h1; omega
theorem own_bvblk (x m a b : BitVec 32) (h1 : m ||| a = b) (h2 : m &&& a = 0#32) : (x &&& m) + (x &&& a) = x &&& b := by
  rw [BitVec.add_eq_or_of_and_eq_zero, ← h1]
  · ext i; simp; cases x[i] <;> simp
  · have : (x &&& m) &&& (x &&& a) = x &&& (m &&& a) := by ext i; simp; cases x[i] <;> simp
    rw [this, h2]; simp
theorem own_blk (x m a b : Int32) (h1 : m ||| a = b) (h2 : m &&& a = 0) : ((x &&& m).toInt + (x &&& a).toInt - (x &&& b).toInt) % 4294967296 = 0 := by
  have e : (x &&& m) + (x &&& a) = x &&& b := Int32.toBitVec_inj.mp (by
    have q1 := congrArg Int32.toBitVec h1
    have q2 := congrArg Int32.toBitVec h2
    simpa using own_bvblk x.toBitVec m.toBitVec a.toBitVec b.toBitVec (by simpa using q1) (by simpa using q2))
  have := c_iadd (x &&& m) (x &&& a)
  rw [e] at this; omega
theorem own_andM1 (x : Int32) : x &&& (-1) = x := Int32.toBitVec_inj.mp (by ext i; simp)
theorem own_narZ {b : Int32} (hb : b.toInt = 0 ∨ b.toInt = 1) : nar .boolean b = b := by
  have : b = 0 ∨ b = 1 := by
    rcases hb with q | q
    · exact Or.inl (Int32.toInt_inj.mp q)
    · exact Or.inr (Int32.toInt_inj.mp q)
  rcases this with rfl | rfl <;> decide
theorem own_narC {b : Int32} (h0 : 0 ≤ b.toInt) (h1 : b.toInt < 65536) : nar .char b = b := by
  have := c_i2c b
  exact Int32.toInt_inj.mp (by show b.toUInt32.toUInt16.toUInt32.toInt32.toInt = _; omega)
theorem own_narB {b : Int32} (h0 : -128 ≤ b.toInt) (h1 : b.toInt < 128) : nar .byte b = b := by
  have := c_i2b b
  exact Int32.toInt_inj.mp (by show b.toInt8.toInt32.toInt = _; omega)
theorem own_eq {x y : Int32} (q : x.toInt = y.toInt) : x = y := Int32.toInt_inj.mp q
theorem own_eqL {x y : Int64} (q : x.toInt = y.toInt) : x = y := Int64.toInt_inj.mp q
end OwnArith


def own_seq (u0 u1 u2 u3 m : Int) : Int := if u0 < 128 then 1 else if u0 < 194 then 0 else if u0 < 224 then (if 1 < m ∧ 128 ≤ u1 ∧ u1 ≤ 191 then 2 else 0)
  else if u0 < 240 then (if 2 < m ∧ 128 ≤ u1 ∧ u1 ≤ 191 ∧ (u0 = 224 → 160 ≤ u1) ∧ (u0 = 237 → u1 ≤ 159) ∧ 128 ≤ u2 ∧ u2 ≤ 191 then 3 else 0)
  else if u0 < 245 then (if 3 < m ∧ 128 ≤ u1 ∧ u1 ≤ 191 ∧ (u0 = 240 → 144 ≤ u1) ∧ (u0 = 244 → u1 ≤ 143) ∧ 128 ≤ u2 ∧ u2 ≤ 191 ∧ 128 ≤ u3 ∧ u3 ≤ 191 then 4 else 0) else 0
theorem d1_0 : decode prog_50_method_3_code 0 = .ok (.aload_n 0, 1) := by decide +kernel
theorem d1_1 : decode prog_50_method_3_code 1 = .ok (.iload_n 1, 1) := by decide +kernel
theorem d1_2 : decode prog_50_method_3_code 2 = .ok (.baload, 1) := by decide +kernel
theorem d1_3 : decode prog_50_method_3_code 3 = .ok (.sipush 255, 3) := by decide +kernel
theorem d1_6 : decode prog_50_method_3_code 6 = .ok (.iand, 1) := by decide +kernel
theorem d1_7 : decode prog_50_method_3_code 7 = .ok (.istore_n 3, 1) := by decide +kernel
theorem d1_8 : decode prog_50_method_3_code 8 = .ok (.iload_n 3, 1) := by decide +kernel
theorem d1_9 : decode prog_50_method_3_code 9 = .ok (.sipush 128, 3) := by decide +kernel
theorem d1_12 : decode prog_50_method_3_code 12 = .ok (.if_icmp .ge 5, 3) := by decide +kernel
theorem d1_15 : decode prog_50_method_3_code 15 = .ok (.iconst 1, 1) := by decide +kernel
theorem d1_16 : decode prog_50_method_3_code 16 = .ok (.ireturn, 1) := by decide +kernel
theorem d1_17 : decode prog_50_method_3_code 17 = .ok (.sipush 128, 3) := by decide +kernel
theorem d1_20 : decode prog_50_method_3_code 20 = .ok (.istore 5, 2) := by decide +kernel
theorem d1_22 : decode prog_50_method_3_code 22 = .ok (.sipush 191, 3) := by decide +kernel
theorem d1_25 : decode prog_50_method_3_code 25 = .ok (.istore 6, 2) := by decide +kernel
theorem d1_27 : decode prog_50_method_3_code 27 = .ok (.iload_n 3, 1) := by decide +kernel
theorem d1_28 : decode prog_50_method_3_code 28 = .ok (.sipush 194, 3) := by decide +kernel
theorem d1_31 : decode prog_50_method_3_code 31 = .ok (.if_icmp .ge 5, 3) := by decide +kernel
theorem d1_34 : decode prog_50_method_3_code 34 = .ok (.iconst 0, 1) := by decide +kernel
theorem d1_35 : decode prog_50_method_3_code 35 = .ok (.ireturn, 1) := by decide +kernel
theorem d1_36 : decode prog_50_method_3_code 36 = .ok (.iload_n 3, 1) := by decide +kernel
theorem d1_37 : decode prog_50_method_3_code 37 = .ok (.sipush 224, 3) := by decide +kernel
theorem d1_40 : decode prog_50_method_3_code 40 = .ok (.if_icmp .ge 9, 3) := by decide +kernel
theorem d1_43 : decode prog_50_method_3_code 43 = .ok (.iconst 1, 1) := by decide +kernel
theorem d1_44 : decode prog_50_method_3_code 44 = .ok (.istore 4, 2) := by decide +kernel
theorem d1_46 : decode prog_50_method_3_code 46 = .ok (.goto 85, 3) := by decide +kernel
theorem d1_131 : decode prog_50_method_3_code 131 = .ok (.iload_n 1, 1) := by decide +kernel
theorem d1_132 : decode prog_50_method_3_code 132 = .ok (.iload 4, 2) := by decide +kernel
theorem d1_134 : decode prog_50_method_3_code 134 = .ok (.iadd, 1) := by decide +kernel
theorem d1_135 : decode prog_50_method_3_code 135 = .ok (.iload_n 2, 1) := by decide +kernel
theorem d1_136 : decode prog_50_method_3_code 136 = .ok (.if_icmp .lt 5, 3) := by decide +kernel
theorem d1_141 : decode prog_50_method_3_code 141 = .ok (.aload_n 0, 1) := by decide +kernel
theorem d1_142 : decode prog_50_method_3_code 142 = .ok (.iload_n 1, 1) := by decide +kernel
theorem d1_143 : decode prog_50_method_3_code 143 = .ok (.iconst 1, 1) := by decide +kernel
theorem d1_144 : decode prog_50_method_3_code 144 = .ok (.iadd, 1) := by decide +kernel
theorem d1_145 : decode prog_50_method_3_code 145 = .ok (.baload, 1) := by decide +kernel
theorem d1_146 : decode prog_50_method_3_code 146 = .ok (.sipush 255, 3) := by decide +kernel
theorem d1_149 : decode prog_50_method_3_code 149 = .ok (.iand, 1) := by decide +kernel
theorem d1_150 : decode prog_50_method_3_code 150 = .ok (.istore 7, 2) := by decide +kernel
theorem d1_152 : decode prog_50_method_3_code 152 = .ok (.iload 7, 2) := by decide +kernel
theorem d1_154 : decode prog_50_method_3_code 154 = .ok (.iload 5, 2) := by decide +kernel
theorem d1_156 : decode prog_50_method_3_code 156 = .ok (.if_icmp .lt 10, 3) := by decide +kernel
theorem d1_166 : decode prog_50_method_3_code 166 = .ok (.iconst 0, 1) := by decide +kernel
theorem d1_167 : decode prog_50_method_3_code 167 = .ok (.ireturn, 1) := by decide +kernel
theorem d1_159 : decode prog_50_method_3_code 159 = .ok (.iload 7, 2) := by decide +kernel
theorem d1_161 : decode prog_50_method_3_code 161 = .ok (.iload 6, 2) := by decide +kernel
theorem d1_163 : decode prog_50_method_3_code 163 = .ok (.if_icmp .le 5, 3) := by decide +kernel
theorem d1_168 : decode prog_50_method_3_code 168 = .ok (.iconst 2, 1) := by decide +kernel
theorem d1_169 : decode prog_50_method_3_code 169 = .ok (.istore 8, 2) := by decide +kernel
theorem d1_171 : decode prog_50_method_3_code 171 = .ok (.iload 8, 2) := by decide +kernel
theorem d1_173 : decode prog_50_method_3_code 173 = .ok (.iload 4, 2) := by decide +kernel
theorem d1_175 : decode prog_50_method_3_code 175 = .ok (.if_icmp .gt 27, 3) := by decide +kernel
theorem d1_202 : decode prog_50_method_3_code 202 = .ok (.iload 4, 2) := by decide +kernel
theorem d1_204 : decode prog_50_method_3_code 204 = .ok (.iconst 1, 1) := by decide +kernel
theorem d1_205 : decode prog_50_method_3_code 205 = .ok (.iadd, 1) := by decide +kernel
theorem d1_206 : decode prog_50_method_3_code 206 = .ok (.ireturn, 1) := by decide +kernel
theorem d1_139 : decode prog_50_method_3_code 139 = .ok (.iconst 0, 1) := by decide +kernel
theorem d1_140 : decode prog_50_method_3_code 140 = .ok (.ireturn, 1) := by decide +kernel
theorem d1_49 : decode prog_50_method_3_code 49 = .ok (.iload_n 3, 1) := by decide +kernel
theorem d1_50 : decode prog_50_method_3_code 50 = .ok (.sipush 240, 3) := by decide +kernel
theorem d1_53 : decode prog_50_method_3_code 53 = .ok (.if_icmp .ge 36, 3) := by decide +kernel
theorem d1_56 : decode prog_50_method_3_code 56 = .ok (.iconst 2, 1) := by decide +kernel
theorem d1_57 : decode prog_50_method_3_code 57 = .ok (.istore 4, 2) := by decide +kernel
theorem d1_59 : decode prog_50_method_3_code 59 = .ok (.iload_n 3, 1) := by decide +kernel
theorem d1_60 : decode prog_50_method_3_code 60 = .ok (.sipush 224, 3) := by decide +kernel
theorem d1_63 : decode prog_50_method_3_code 63 = .ok (.if_icmp .ne 11, 3) := by decide +kernel
theorem d1_66 : decode prog_50_method_3_code 66 = .ok (.sipush 160, 3) := by decide +kernel
theorem d1_69 : decode prog_50_method_3_code 69 = .ok (.istore 5, 2) := by decide +kernel
theorem d1_71 : decode prog_50_method_3_code 71 = .ok (.goto 60, 3) := by decide +kernel
theorem d1_178 : decode prog_50_method_3_code 178 = .ok (.aload_n 0, 1) := by decide +kernel
theorem d1_179 : decode prog_50_method_3_code 179 = .ok (.iload_n 1, 1) := by decide +kernel
theorem d1_180 : decode prog_50_method_3_code 180 = .ok (.iload 8, 2) := by decide +kernel
theorem d1_182 : decode prog_50_method_3_code 182 = .ok (.iadd, 1) := by decide +kernel
theorem d1_183 : decode prog_50_method_3_code 183 = .ok (.baload, 1) := by decide +kernel
theorem d1_184 : decode prog_50_method_3_code 184 = .ok (.sipush 192, 3) := by decide +kernel
theorem d1_187 : decode prog_50_method_3_code 187 = .ok (.iand, 1) := by decide +kernel
theorem d1_188 : decode prog_50_method_3_code 188 = .ok (.sipush 128, 3) := by decide +kernel
theorem d1_191 : decode prog_50_method_3_code 191 = .ok (.if_icmp .eq 5, 3) := by decide +kernel
theorem d1_196 : decode prog_50_method_3_code 196 = .ok (.iinc 8 1, 3) := by decide +kernel
theorem d1_199 : decode prog_50_method_3_code 199 = .ok (.goto (-28), 3) := by decide +kernel
theorem d1_194 : decode prog_50_method_3_code 194 = .ok (.iconst 0, 1) := by decide +kernel
theorem d1_195 : decode prog_50_method_3_code 195 = .ok (.ireturn, 1) := by decide +kernel
theorem d1_74 : decode prog_50_method_3_code 74 = .ok (.iload_n 3, 1) := by decide +kernel
theorem d1_75 : decode prog_50_method_3_code 75 = .ok (.sipush 237, 3) := by decide +kernel
theorem d1_78 : decode prog_50_method_3_code 78 = .ok (.if_icmp .ne 53, 3) := by decide +kernel
theorem d1_81 : decode prog_50_method_3_code 81 = .ok (.sipush 159, 3) := by decide +kernel
theorem d1_84 : decode prog_50_method_3_code 84 = .ok (.istore 6, 2) := by decide +kernel
theorem d1_86 : decode prog_50_method_3_code 86 = .ok (.goto 45, 3) := by decide +kernel
theorem d1_89 : decode prog_50_method_3_code 89 = .ok (.iload_n 3, 1) := by decide +kernel
theorem d1_90 : decode prog_50_method_3_code 90 = .ok (.sipush 245, 3) := by decide +kernel
theorem d1_93 : decode prog_50_method_3_code 93 = .ok (.if_icmp .ge 36, 3) := by decide +kernel
theorem d1_96 : decode prog_50_method_3_code 96 = .ok (.iconst 3, 1) := by decide +kernel
theorem d1_97 : decode prog_50_method_3_code 97 = .ok (.istore 4, 2) := by decide +kernel
theorem d1_99 : decode prog_50_method_3_code 99 = .ok (.iload_n 3, 1) := by decide +kernel
theorem d1_100 : decode prog_50_method_3_code 100 = .ok (.sipush 240, 3) := by decide +kernel
theorem d1_103 : decode prog_50_method_3_code 103 = .ok (.if_icmp .ne 11, 3) := by decide +kernel
theorem d1_106 : decode prog_50_method_3_code 106 = .ok (.sipush 144, 3) := by decide +kernel
theorem d1_109 : decode prog_50_method_3_code 109 = .ok (.istore 5, 2) := by decide +kernel
theorem d1_111 : decode prog_50_method_3_code 111 = .ok (.goto 20, 3) := by decide +kernel
theorem d1_114 : decode prog_50_method_3_code 114 = .ok (.iload_n 3, 1) := by decide +kernel
theorem d1_115 : decode prog_50_method_3_code 115 = .ok (.sipush 244, 3) := by decide +kernel
theorem d1_118 : decode prog_50_method_3_code 118 = .ok (.if_icmp .ne 13, 3) := by decide +kernel
theorem d1_121 : decode prog_50_method_3_code 121 = .ok (.sipush 143, 3) := by decide +kernel
theorem d1_124 : decode prog_50_method_3_code 124 = .ok (.istore 6, 2) := by decide +kernel
theorem d1_126 : decode prog_50_method_3_code 126 = .ok (.goto 5, 3) := by decide +kernel
theorem d1_129 : decode prog_50_method_3_code 129 = .ok (.iconst 0, 1) := by decide +kernel
theorem d1_130 : decode prog_50_method_3_code 130 = .ok (.ireturn, 1) := by decide +kernel
theorem pn_41208506 : plainName "com/example/schedario/schedario/records/Utf8" = true := by first | (simp [plainName, overriddenIn]; done) | decide +kernel
theorem ef_1 (m : MethodId) (b0 : Addr) (p1 : Int32) (p2 : Int32) : entryFrame m #[(.ref b0), (.int p1), (.int p2)] 9 = mkF m 0 #[.val (.ref b0), .val (.int p1), .val (.int p2), .unset, .unset, .unset, .unset, .unset, .unset] [] := by first | (simp [entryFrame, mkF, argsToLocals, Value.category]; done) | rfl
def Q1 (Z : State) (b0 : Addr) (p1 : Int32) (p2 : Int32) (f : Nat → Int32) (n : Nat) (x0 : Int32) (x1 : Int32) (x2 : Int32) (x3 : Int32) (h0 : Heap) (n0 : Nat) (v : Option Value) (h : Heap) (L : List Loc) : Prop := ∃ r : Int32, v = some (.int r) ∧ (r.toInt = own_seq (x0.toInt % 256) (x1.toInt % 256) (x2.toInt % 256) (x3.toInt % 256) (p2.toInt - p1.toInt)) ∧ Fr n0 L ∧ h = h0
set_option maxRecDepth 65536 in
set_option maxHeartbeats 40000000 in
theorem rm1 (l : Launch) (Z : State) (a0 : Array Value) (hw : ∀ d ∈ tables_1, d.before a0 Z = true) (ws : List Jvm.Cond) (b0 : Addr) (p1 : Int32) (p2 : Int32) (f : Nat → Int32) (n : Nat) (x0 : Int32) (x1 : Int32) (x2 : Int32) (x3 : Int32) (h0 : Heap) (n0 : Nat) (Z0 : n0 ≤ h0.size) (B_b0 : Ba Z h0 b0 .byte 6 f) (hn : p1.toInt = n) (hn1 : n ≤ 1) (hm : 1 ≤ p2.toInt - p1.toInt ∧ p2.toInt - p1.toInt ≤ 5) (hx0 : f n = x0) (hx1 : f (n + 1) = x1) (hx2 : f (n + 2) = x2) (hx3 : f (n + 3) = x3) :
    MetFree l (⟨"com/example/schedario/schedario/records/Utf8", "sequence", "([BII)I"⟩ : MethodName) (head1 (Jvm.Cond.code (⟨"com/example/schedario/schedario/records/Utf8", "sequence", "([BII)I"⟩ : MethodName) prog_50_method_3_code 9 (some .int) :: ws) ({ frames := 0, cells := 0, slots := 0, locals := 0 } : Room)) (fun a U => a = #[(.ref b0), (.int p1), (.int p2)] ∧ Z.Warmed39 U.vm ∧ U.heap = h0) (fun _ _ _ _ _ => True) (fun _ U o U' => ∃ v L, o = .returned v ∧ Q1 Z b0 p1 p2 f n x0 x1 x2 x3 h0 n0 v U'.heap L ∧ FrameEnd U o U' L ({ frames := 0, cells := 0, slots := 0, locals := 0 } : Room).cells ({ frames := 0, cells := 0, slots := 0, locals := 0 } : Room).slots) := by
  refine MetFree.of_bodySF (plainFor_of_name pn_41208506) hisR ?_
  intro p e s m args below meth c s₁ Bd hml0 hP hK
  obtain ⟨rfl, hZ, hh⟩ := hP
  have C : Ctx p s m meth c Z "com/example/schedario/schedario/records/Utf8" "sequence" prog_50_method_3_code 9 (some .int) := Ctx.of Bd hml0 hZ
  have X0 : Stand p l e ({ frames := 0, cells := 0, slots := 0, locals := 0 } : Room) s m #[(.ref b0), (.int p1), (.int p2)] below meth c s₁ [] 0 0 := Stand.of_body Bd
  have e0 : s₁.heap = h0 := by rw [← hh, Bd.state]; rfl
  have N0 := Fr.nil n0
  refine Goes.enter (ef_1 m b0 p1 p2) ?_
  clear hK hml0 hh
  refine g_aloadN 1 rfl C X0 d1_0 rfl rfl ?_
  refine g_iloadN 2 rfl C X0 d1_1 rfl ?_
  have fr1 := rng32 p1
  refine g_baload 3 rfl C X0 e0 B_b0 (n) (by omega) (by omega) x0 hx0 d1_2 ?_
  refine g_sipush 6 rfl C X0 (255 : Int32) d1_3 rfl ?_
  refine g_iand 7 rfl C X0 d1_6 ?_
  obtain ⟨v2, hv2⟩ : ∃ z : Int32, (x0 &&& (255 : Int32)) = z := ⟨_, rfl⟩
  refine g_istoreN 8 rfl C X0 v2 hv2 #[.val (.ref b0), .val (.int p1), .val (.int p2), .val (.int v2), .unset, .unset, .unset, .unset, .unset] d1_7 rfl ?_
  refine g_iloadN 9 rfl C X0 d1_8 rfl ?_
  refine g_sipush 12 rfl C X0 (128 : Int32) d1_9 rfl ?_
  by_cases hb3 : v2.toInt < (128 : Int32).toInt
  · skip
    refine g_icmp_ge_f 15 rfl C X0 d1_12 hb3 ?_
    refine g_iconst 16 rfl C X0 (1 : Int32) d1_15 rfl ?_
    have fr4 := rng32 x0
    have fr5 := rng32 v2
    have fc6 : (255 : Int32).toInt = 255 := rfl
    have fo7 : (x0 &&& (255 : Int32)).toInt = x0.toInt % 256 := c_mask x0 (255 : Int32) 8 (by decide) (by decide)
    have fe8 : (x0 &&& (255 : Int32)).toInt = v2.toInt := congrArg Int32.toInt hv2
    have fc9 : (128 : Int32).toInt = 128 := rfl
    have fc10 : (1 : Int32).toInt = 1 := rfl
    exact g_retI C X0 rfl d1_16 e0 (by decide) (by decide) ⟨_, rfl, by (simp only [own_seq]; (repeat' split) <;> omega), N0, rfl⟩
  · skip
    refine g_icmp_ge_t 17 C X0 d1_12 (by decide) (by decide) hb3 ?_
    refine g_sipush 20 rfl C X0 (128 : Int32) d1_17 rfl ?_
    refine g_istore 22 rfl C X0 (128 : Int32) rfl #[.val (.ref b0), .val (.int p1), .val (.int p2), .val (.int v2), .unset, .val (.int (128 : Int32)), .unset, .unset, .unset] d1_20 rfl ?_
    refine g_sipush 25 rfl C X0 (191 : Int32) d1_22 rfl ?_
    refine g_istore 27 rfl C X0 (191 : Int32) rfl #[.val (.ref b0), .val (.int p1), .val (.int p2), .val (.int v2), .unset, .val (.int (128 : Int32)), .val (.int (191 : Int32)), .unset, .unset] d1_25 rfl ?_
    refine g_iloadN 28 rfl C X0 d1_27 rfl ?_
    refine g_sipush 31 rfl C X0 (194 : Int32) d1_28 rfl ?_
    by_cases hb11 : v2.toInt < (194 : Int32).toInt
    · skip
      refine g_icmp_ge_f 34 rfl C X0 d1_31 hb11 ?_
      refine g_iconst 35 rfl C X0 (0 : Int32) d1_34 rfl ?_
      have fr12 := rng32 x0
      have fr13 := rng32 v2
      have fc14 : (255 : Int32).toInt = 255 := rfl
      have fo15 : (x0 &&& (255 : Int32)).toInt = x0.toInt % 256 := c_mask x0 (255 : Int32) 8 (by decide) (by decide)
      have fe16 : (x0 &&& (255 : Int32)).toInt = v2.toInt := congrArg Int32.toInt hv2
      have fc17 : (128 : Int32).toInt = 128 := rfl
      have fc18 : (194 : Int32).toInt = 194 := rfl
      have fc19 : (0 : Int32).toInt = 0 := rfl
      exact g_retI C X0 rfl d1_35 e0 (by decide) (by decide) ⟨_, rfl, by (simp only [own_seq]; (repeat' split) <;> omega), N0, rfl⟩
    · skip
      refine g_icmp_ge_t 36 C X0 d1_31 (by decide) (by decide) hb11 ?_
      refine g_iloadN 37 rfl C X0 d1_36 rfl ?_
      refine g_sipush 40 rfl C X0 (224 : Int32) d1_37 rfl ?_
      by_cases hb20 : v2.toInt < (224 : Int32).toInt
      · skip
        refine g_icmp_ge_f 43 rfl C X0 d1_40 hb20 ?_
        refine g_iconst 44 rfl C X0 (1 : Int32) d1_43 rfl ?_
        refine g_istore 46 rfl C X0 (1 : Int32) rfl #[.val (.ref b0), .val (.int p1), .val (.int p2), .val (.int v2), .val (.int (1 : Int32)), .val (.int (128 : Int32)), .val (.int (191 : Int32)), .unset, .unset] d1_44 rfl ?_
        refine g_goto 131 C X0 d1_46 (by decide) (by decide) ?_
        refine g_iloadN 132 rfl C X0 d1_131 rfl ?_
        refine g_iload 134 rfl C X0 d1_132 rfl ?_
        refine g_iadd 135 rfl C X0 d1_134 ?_
        refine g_iloadN 136 rfl C X0 d1_135 rfl ?_
        by_cases hb21 : (p1 + (1 : Int32)).toInt < p2.toInt
        · skip
          refine g_icmp_lt_t 141 C X0 d1_136 (by decide) (by decide) hb21 ?_
          refine g_aloadN 142 rfl C X0 d1_141 rfl rfl ?_
          refine g_iloadN 143 rfl C X0 d1_142 rfl ?_
          refine g_iconst 144 rfl C X0 (1 : Int32) d1_143 rfl ?_
          refine g_iadd 145 rfl C X0 d1_144 ?_
          have fc22 : (1 : Int32).toInt = 1 := rfl
          have fo23 := c_iadd p1 (1 : Int32)
          have fr24 := rng32 (p1 + (1 : Int32))
          refine g_baload 146 rfl C X0 e0 B_b0 (n + 1) (by omega) (by omega) x1 hx1 d1_145 ?_
          refine g_sipush 149 rfl C X0 (255 : Int32) d1_146 rfl ?_
          refine g_iand 150 rfl C X0 d1_149 ?_
          obtain ⟨v25, hv25⟩ : ∃ z : Int32, (x1 &&& (255 : Int32)) = z := ⟨_, rfl⟩
          refine g_istore 152 rfl C X0 v25 hv25 #[.val (.ref b0), .val (.int p1), .val (.int p2), .val (.int v2), .val (.int (1 : Int32)), .val (.int (128 : Int32)), .val (.int (191 : Int32)), .val (.int v25), .unset] d1_150 rfl ?_
          refine g_iload 154 rfl C X0 d1_152 rfl ?_
          refine g_iload 156 rfl C X0 d1_154 rfl ?_
          by_cases hb26 : v25.toInt < (128 : Int32).toInt
          · skip
            refine g_icmp_lt_t 166 C X0 d1_156 (by decide) (by decide) hb26 ?_
            refine g_iconst 167 rfl C X0 (0 : Int32) d1_166 rfl ?_
            have fr27 := rng32 x0
            have fr28 := rng32 v2
            have fc29 : (255 : Int32).toInt = 255 := rfl
            have fo30 : (x0 &&& (255 : Int32)).toInt = x0.toInt % 256 := c_mask x0 (255 : Int32) 8 (by decide) (by decide)
            have fe31 : (x0 &&& (255 : Int32)).toInt = v2.toInt := congrArg Int32.toInt hv2
            have fc32 : (128 : Int32).toInt = 128 := rfl
            have fc33 : (194 : Int32).toInt = 194 := rfl
            have fc34 : (224 : Int32).toInt = 224 := rfl
            have fr35 := rng32 p2
            have fr36 := rng32 x1
            have fr37 := rng32 v25
            have fo38 : (x1 &&& (255 : Int32)).toInt = x1.toInt % 256 := c_mask x1 (255 : Int32) 8 (by decide) (by decide)
            have fe39 : (x1 &&& (255 : Int32)).toInt = v25.toInt := congrArg Int32.toInt hv25
            have fc40 : (0 : Int32).toInt = 0 := rfl
            exact g_retI C X0 rfl d1_167 e0 (by decide) (by decide) ⟨_, rfl, by (simp only [own_seq]; (repeat' split) <;> omega), N0, rfl⟩
          · skip
            refine g_icmp_lt_f 159 rfl C X0 d1_156 hb26 ?_
            refine g_iload 161 rfl C X0 d1_159 rfl ?_
            refine g_iload 163 rfl C X0 d1_161 rfl ?_
            by_cases hb41 : (191 : Int32).toInt < v25.toInt
            · skip
              refine g_icmp_le_f 166 rfl C X0 d1_163 hb41 ?_
              refine g_iconst 167 rfl C X0 (0 : Int32) d1_166 rfl ?_
              have fr42 := rng32 x0
              have fr43 := rng32 v2
              have fc44 : (255 : Int32).toInt = 255 := rfl
              have fo45 : (x0 &&& (255 : Int32)).toInt = x0.toInt % 256 := c_mask x0 (255 : Int32) 8 (by decide) (by decide)
              have fe46 : (x0 &&& (255 : Int32)).toInt = v2.toInt := congrArg Int32.toInt hv2
              have fc47 : (128 : Int32).toInt = 128 := rfl
              have fc48 : (194 : Int32).toInt = 194 := rfl
              have fc49 : (224 : Int32).toInt = 224 := rfl
              have fr50 := rng32 p2
              have fr51 := rng32 x1
              have fr52 := rng32 v25
              have fo53 : (x1 &&& (255 : Int32)).toInt = x1.toInt % 256 := c_mask x1 (255 : Int32) 8 (by decide) (by decide)
              have fe54 : (x1 &&& (255 : Int32)).toInt = v25.toInt := congrArg Int32.toInt hv25
              have fc55 : (191 : Int32).toInt = 191 := rfl
              have fc56 : (0 : Int32).toInt = 0 := rfl
              exact g_retI C X0 rfl d1_167 e0 (by decide) (by decide) ⟨_, rfl, by (simp only [own_seq]; (repeat' split) <;> omega), N0, rfl⟩
            · skip
              refine g_icmp_le_t 168 C X0 d1_163 (by decide) (by decide) hb41 ?_
              refine g_iconst 169 rfl C X0 (2 : Int32) d1_168 rfl ?_
              refine g_istore 171 rfl C X0 (2 : Int32) rfl #[.val (.ref b0), .val (.int p1), .val (.int p2), .val (.int v2), .val (.int (1 : Int32)), .val (.int (128 : Int32)), .val (.int (191 : Int32)), .val (.int v25), .val (.int (2 : Int32))] d1_169 rfl ?_
              refine g_iload 173 rfl C X0 d1_171 rfl ?_
              refine g_iload 175 rfl C X0 d1_173 rfl ?_
              refine g_icmp_gt_t 202 C X0 d1_175 (by decide) (by decide) (by decide) ?_
              refine g_iload 204 rfl C X0 d1_202 rfl ?_
              refine g_iconst 205 rfl C X0 (1 : Int32) d1_204 rfl ?_
              refine g_iadd 206 rfl C X0 d1_205 ?_
              have fr57 := rng32 x0
              have fr58 := rng32 v2
              have fc59 : (255 : Int32).toInt = 255 := rfl
              have fo60 : (x0 &&& (255 : Int32)).toInt = x0.toInt % 256 := c_mask x0 (255 : Int32) 8 (by decide) (by decide)
              have fe61 : (x0 &&& (255 : Int32)).toInt = v2.toInt := congrArg Int32.toInt hv2
              have fc62 : (128 : Int32).toInt = 128 := rfl
              have fc63 : (194 : Int32).toInt = 194 := rfl
              have fc64 : (224 : Int32).toInt = 224 := rfl
              have fr65 := rng32 p2
              have fr66 := rng32 x1
              have fr67 := rng32 v25
              have fo68 : (x1 &&& (255 : Int32)).toInt = x1.toInt % 256 := c_mask x1 (255 : Int32) 8 (by decide) (by decide)
              have fe69 : (x1 &&& (255 : Int32)).toInt = v25.toInt := congrArg Int32.toInt hv25
              have fc70 : (191 : Int32).toInt = 191 := rfl
              have fc71 : (2 : Int32).toInt = 2 := rfl
              have fc72 : ((1 : Int32) + (1 : Int32)).toInt = 2 := by decide
              exact g_retI C X0 rfl d1_206 e0 (by decide) (by decide) ⟨_, rfl, by (simp only [own_seq]; (repeat' split) <;> omega), N0, rfl⟩
        · skip
          refine g_icmp_lt_f 139 rfl C X0 d1_136 hb21 ?_
          refine g_iconst 140 rfl C X0 (0 : Int32) d1_139 rfl ?_
          have fr73 := rng32 x0
          have fr74 := rng32 v2
          have fc75 : (255 : Int32).toInt = 255 := rfl
          have fo76 : (x0 &&& (255 : Int32)).toInt = x0.toInt % 256 := c_mask x0 (255 : Int32) 8 (by decide) (by decide)
          have fe77 : (x0 &&& (255 : Int32)).toInt = v2.toInt := congrArg Int32.toInt hv2
          have fc78 : (128 : Int32).toInt = 128 := rfl
          have fc79 : (194 : Int32).toInt = 194 := rfl
          have fc80 : (224 : Int32).toInt = 224 := rfl
          have fc81 : (1 : Int32).toInt = 1 := rfl
          have fo82 := c_iadd p1 (1 : Int32)
          have fr83 := rng32 (p1 + (1 : Int32))
          have fr84 := rng32 p2
          have fc85 : (0 : Int32).toInt = 0 := rfl
          exact g_retI C X0 rfl d1_140 e0 (by decide) (by decide) ⟨_, rfl, by (simp only [own_seq]; (repeat' split) <;> omega), N0, rfl⟩
      · skip
        refine g_icmp_ge_t 49 C X0 d1_40 (by decide) (by decide) hb20 ?_
        refine g_iloadN 50 rfl C X0 d1_49 rfl ?_
        refine g_sipush 53 rfl C X0 (240 : Int32) d1_50 rfl ?_
        by_cases hb86 : v2.toInt < (240 : Int32).toInt
        · skip
          refine g_icmp_ge_f 56 rfl C X0 d1_53 hb86 ?_
          refine g_iconst 57 rfl C X0 (2 : Int32) d1_56 rfl ?_
          refine g_istore 59 rfl C X0 (2 : Int32) rfl #[.val (.ref b0), .val (.int p1), .val (.int p2), .val (.int v2), .val (.int (2 : Int32)), .val (.int (128 : Int32)), .val (.int (191 : Int32)), .unset, .unset] d1_57 rfl ?_
          refine g_iloadN 60 rfl C X0 d1_59 rfl ?_
          refine g_sipush 63 rfl C X0 (224 : Int32) d1_60 rfl ?_
          by_cases hb87 : v2.toInt = (224 : Int32).toInt
          · skip
            refine g_icmp_ne_f 66 rfl C X0 d1_63 hb87 ?_
            refine g_sipush 69 rfl C X0 (160 : Int32) d1_66 rfl ?_
            refine g_istore 71 rfl C X0 (160 : Int32) rfl #[.val (.ref b0), .val (.int p1), .val (.int p2), .val (.int v2), .val (.int (2 : Int32)), .val (.int (160 : Int32)), .val (.int (191 : Int32)), .unset, .unset] d1_69 rfl ?_
            refine g_goto 131 C X0 d1_71 (by decide) (by decide) ?_
            refine g_iloadN 132 rfl C X0 d1_131 rfl ?_
            refine g_iload 134 rfl C X0 d1_132 rfl ?_
            refine g_iadd 135 rfl C X0 d1_134 ?_
            refine g_iloadN 136 rfl C X0 d1_135 rfl ?_
            by_cases hb88 : (p1 + (2 : Int32)).toInt < p2.toInt
            · skip
              refine g_icmp_lt_t 141 C X0 d1_136 (by decide) (by decide) hb88 ?_
              refine g_aloadN 142 rfl C X0 d1_141 rfl rfl ?_
              refine g_iloadN 143 rfl C X0 d1_142 rfl ?_
              refine g_iconst 144 rfl C X0 (1 : Int32) d1_143 rfl ?_
              refine g_iadd 145 rfl C X0 d1_144 ?_
              have fc89 : (1 : Int32).toInt = 1 := rfl
              have fo90 := c_iadd p1 (1 : Int32)
              have fr91 := rng32 (p1 + (1 : Int32))
              refine g_baload 146 rfl C X0 e0 B_b0 (n + 1) (by omega) (by omega) x1 hx1 d1_145 ?_
              refine g_sipush 149 rfl C X0 (255 : Int32) d1_146 rfl ?_
              refine g_iand 150 rfl C X0 d1_149 ?_
              obtain ⟨v92, hv92⟩ : ∃ z : Int32, (x1 &&& (255 : Int32)) = z := ⟨_, rfl⟩
              refine g_istore 152 rfl C X0 v92 hv92 #[.val (.ref b0), .val (.int p1), .val (.int p2), .val (.int v2), .val (.int (2 : Int32)), .val (.int (160 : Int32)), .val (.int (191 : Int32)), .val (.int v92), .unset] d1_150 rfl ?_
              refine g_iload 154 rfl C X0 d1_152 rfl ?_
              refine g_iload 156 rfl C X0 d1_154 rfl ?_
              by_cases hb93 : v92.toInt < (160 : Int32).toInt
              · skip
                refine g_icmp_lt_t 166 C X0 d1_156 (by decide) (by decide) hb93 ?_
                refine g_iconst 167 rfl C X0 (0 : Int32) d1_166 rfl ?_
                have fr94 := rng32 x0
                have fr95 := rng32 v2
                have fc96 : (255 : Int32).toInt = 255 := rfl
                have fo97 : (x0 &&& (255 : Int32)).toInt = x0.toInt % 256 := c_mask x0 (255 : Int32) 8 (by decide) (by decide)
                have fe98 : (x0 &&& (255 : Int32)).toInt = v2.toInt := congrArg Int32.toInt hv2
                have fc99 : (128 : Int32).toInt = 128 := rfl
                have fc100 : (194 : Int32).toInt = 194 := rfl
                have fc101 : (224 : Int32).toInt = 224 := rfl
                have fc102 : (240 : Int32).toInt = 240 := rfl
                have fc103 : (2 : Int32).toInt = 2 := rfl
                have fo104 := c_iadd p1 (2 : Int32)
                have fr105 := rng32 (p1 + (2 : Int32))
                have fr106 := rng32 p2
                have fr107 := rng32 x1
                have fr108 := rng32 v92
                have fo109 : (x1 &&& (255 : Int32)).toInt = x1.toInt % 256 := c_mask x1 (255 : Int32) 8 (by decide) (by decide)
                have fe110 : (x1 &&& (255 : Int32)).toInt = v92.toInt := congrArg Int32.toInt hv92
                have fc111 : (160 : Int32).toInt = 160 := rfl
                have fc112 : (0 : Int32).toInt = 0 := rfl
                exact g_retI C X0 rfl d1_167 e0 (by decide) (by decide) ⟨_, rfl, by (simp only [own_seq]; (repeat' split) <;> omega), N0, rfl⟩
              · skip
                refine g_icmp_lt_f 159 rfl C X0 d1_156 hb93 ?_
                refine g_iload 161 rfl C X0 d1_159 rfl ?_
                refine g_iload 163 rfl C X0 d1_161 rfl ?_
                by_cases hb113 : (191 : Int32).toInt < v92.toInt
                · skip
                  refine g_icmp_le_f 166 rfl C X0 d1_163 hb113 ?_
                  refine g_iconst 167 rfl C X0 (0 : Int32) d1_166 rfl ?_
                  have fr114 := rng32 x0
                  have fr115 := rng32 v2
                  have fc116 : (255 : Int32).toInt = 255 := rfl
                  have fo117 : (x0 &&& (255 : Int32)).toInt = x0.toInt % 256 := c_mask x0 (255 : Int32) 8 (by decide) (by decide)
                  have fe118 : (x0 &&& (255 : Int32)).toInt = v2.toInt := congrArg Int32.toInt hv2
                  have fc119 : (128 : Int32).toInt = 128 := rfl
                  have fc120 : (194 : Int32).toInt = 194 := rfl
                  have fc121 : (224 : Int32).toInt = 224 := rfl
                  have fc122 : (240 : Int32).toInt = 240 := rfl
                  have fc123 : (2 : Int32).toInt = 2 := rfl
                  have fo124 := c_iadd p1 (2 : Int32)
                  have fr125 := rng32 (p1 + (2 : Int32))
                  have fr126 := rng32 p2
                  have fr127 := rng32 x1
                  have fr128 := rng32 v92
                  have fo129 : (x1 &&& (255 : Int32)).toInt = x1.toInt % 256 := c_mask x1 (255 : Int32) 8 (by decide) (by decide)
                  have fe130 : (x1 &&& (255 : Int32)).toInt = v92.toInt := congrArg Int32.toInt hv92
                  have fc131 : (160 : Int32).toInt = 160 := rfl
                  have fc132 : (191 : Int32).toInt = 191 := rfl
                  have fc133 : (0 : Int32).toInt = 0 := rfl
                  exact g_retI C X0 rfl d1_167 e0 (by decide) (by decide) ⟨_, rfl, by (simp only [own_seq]; (repeat' split) <;> omega), N0, rfl⟩
                · skip
                  refine g_icmp_le_t 168 C X0 d1_163 (by decide) (by decide) hb113 ?_
                  refine g_iconst 169 rfl C X0 (2 : Int32) d1_168 rfl ?_
                  refine g_istore 171 rfl C X0 (2 : Int32) rfl #[.val (.ref b0), .val (.int p1), .val (.int p2), .val (.int v2), .val (.int (2 : Int32)), .val (.int (160 : Int32)), .val (.int (191 : Int32)), .val (.int v92), .val (.int (2 : Int32))] d1_169 rfl ?_
                  refine g_iload 173 rfl C X0 d1_171 rfl ?_
                  refine g_iload 175 rfl C X0 d1_173 rfl ?_
                  refine g_icmp_gt_f 178 rfl C X0 d1_175 (by decide) ?_
                  refine g_aloadN 179 rfl C X0 d1_178 rfl rfl ?_
                  refine g_iloadN 180 rfl C X0 d1_179 rfl ?_
                  refine g_iload 182 rfl C X0 d1_180 rfl ?_
                  refine g_iadd 183 rfl C X0 d1_182 ?_
                  have fc134 : (2 : Int32).toInt = 2 := rfl
                  have fo135 := c_iadd p1 (2 : Int32)
                  have fr136 := rng32 (p1 + (2 : Int32))
                  refine g_baload 184 rfl C X0 e0 B_b0 (n + 2) (by omega) (by omega) x2 hx2 d1_183 ?_
                  refine g_sipush 187 rfl C X0 (192 : Int32) d1_184 rfl ?_
                  refine g_iand 188 rfl C X0 d1_187 ?_
                  refine g_sipush 191 rfl C X0 (128 : Int32) d1_188 rfl ?_
                  by_cases hb137 : (x2 &&& (192 : Int32)).toInt = (128 : Int32).toInt
                  · skip
                    refine g_icmp_eq_t 196 C X0 d1_191 (by decide) (by decide) hb137 ?_
                    refine g_iinc 199 rfl C X0 (1 : Int32) (3 : Int32) #[.val (.ref b0), .val (.int p1), .val (.int p2), .val (.int v2), .val (.int (2 : Int32)), .val (.int (160 : Int32)), .val (.int (191 : Int32)), .val (.int v92), .val (.int (3 : Int32))] d1_196 rfl rfl (by decide) rfl ?_
                    refine g_goto 171 C X0 d1_199 (by decide) (by decide) ?_
                    refine g_iload 173 rfl C X0 d1_171 rfl ?_
                    refine g_iload 175 rfl C X0 d1_173 rfl ?_
                    refine g_icmp_gt_t 202 C X0 d1_175 (by decide) (by decide) (by decide) ?_
                    refine g_iload 204 rfl C X0 d1_202 rfl ?_
                    refine g_iconst 205 rfl C X0 (1 : Int32) d1_204 rfl ?_
                    refine g_iadd 206 rfl C X0 d1_205 ?_
                    have fr138 := rng32 x0
                    have fr139 := rng32 v2
                    have fc140 : (255 : Int32).toInt = 255 := rfl
                    have fo141 : (x0 &&& (255 : Int32)).toInt = x0.toInt % 256 := c_mask x0 (255 : Int32) 8 (by decide) (by decide)
                    have fe142 : (x0 &&& (255 : Int32)).toInt = v2.toInt := congrArg Int32.toInt hv2
                    have fc143 : (128 : Int32).toInt = 128 := rfl
                    have fc144 : (194 : Int32).toInt = 194 := rfl
                    have fc145 : (224 : Int32).toInt = 224 := rfl
                    have fc146 : (240 : Int32).toInt = 240 := rfl
                    have fr147 := rng32 p2
                    have fr148 := rng32 x1
                    have fr149 := rng32 v92
                    have fo150 : (x1 &&& (255 : Int32)).toInt = x1.toInt % 256 := c_mask x1 (255 : Int32) 8 (by decide) (by decide)
                    have fe151 : (x1 &&& (255 : Int32)).toInt = v92.toInt := congrArg Int32.toInt hv92
                    have fc152 : (160 : Int32).toInt = 160 := rfl
                    have fc153 : (191 : Int32).toInt = 191 := rfl
                    have fr154 := rng32 x2
                    have fc155 : (192 : Int32).toInt = 192 := rfl
                    have fc157 : (63 : Int32).toInt = 63 := rfl
                    have fo158 : (x2 &&& (63 : Int32)).toInt = x2.toInt % 64 := c_mask x2 (63 : Int32) 6 (by decide) (by decide)
                    have fo159 : (x2 &&& (255 : Int32)).toInt = x2.toInt % 256 := c_mask x2 (255 : Int32) 8 (by decide) (by decide)
                    have fo156 := own_blk x2 (192 : Int32) (63 : Int32) (255 : Int32) (by decide) (by decide)
                    have fo160 := c_and x2 (192 : Int32) (by decide)
                    have fr161 := rng32 (x2 &&& (192 : Int32))
                    have fc162 : (3 : Int32).toInt = 3 := rfl
                    have fc163 : ((2 : Int32) + (1 : Int32)).toInt = 3 := by decide
                    exact g_retI C X0 rfl d1_206 e0 (by decide) (by decide) ⟨_, rfl, by (simp only [own_seq]; (repeat' split) <;> omega), N0, rfl⟩
                  · skip
                    refine g_icmp_eq_f 194 rfl C X0 d1_191 hb137 ?_
                    refine g_iconst 195 rfl C X0 (0 : Int32) d1_194 rfl ?_
                    have fr164 := rng32 x0
                    have fr165 := rng32 v2
                    have fc166 : (255 : Int32).toInt = 255 := rfl
                    have fo167 : (x0 &&& (255 : Int32)).toInt = x0.toInt % 256 := c_mask x0 (255 : Int32) 8 (by decide) (by decide)
                    have fe168 : (x0 &&& (255 : Int32)).toInt = v2.toInt := congrArg Int32.toInt hv2
                    have fc169 : (128 : Int32).toInt = 128 := rfl
                    have fc170 : (194 : Int32).toInt = 194 := rfl
                    have fc171 : (224 : Int32).toInt = 224 := rfl
                    have fc172 : (240 : Int32).toInt = 240 := rfl
                    have fr173 := rng32 p2
                    have fr174 := rng32 x1
                    have fr175 := rng32 v92
                    have fo176 : (x1 &&& (255 : Int32)).toInt = x1.toInt % 256 := c_mask x1 (255 : Int32) 8 (by decide) (by decide)
                    have fe177 : (x1 &&& (255 : Int32)).toInt = v92.toInt := congrArg Int32.toInt hv92
                    have fc178 : (160 : Int32).toInt = 160 := rfl
                    have fc179 : (191 : Int32).toInt = 191 := rfl
                    have fr180 := rng32 x2
                    have fc181 : (192 : Int32).toInt = 192 := rfl
                    have fc183 : (63 : Int32).toInt = 63 := rfl
                    have fo184 : (x2 &&& (63 : Int32)).toInt = x2.toInt % 64 := c_mask x2 (63 : Int32) 6 (by decide) (by decide)
                    have fo185 : (x2 &&& (255 : Int32)).toInt = x2.toInt % 256 := c_mask x2 (255 : Int32) 8 (by decide) (by decide)
                    have fo182 := own_blk x2 (192 : Int32) (63 : Int32) (255 : Int32) (by decide) (by decide)
                    have fo186 := c_and x2 (192 : Int32) (by decide)
                    have fr187 := rng32 (x2 &&& (192 : Int32))
                    have fc188 : (0 : Int32).toInt = 0 := rfl
                    exact g_retI C X0 rfl d1_195 e0 (by decide) (by decide) ⟨_, rfl, by (simp only [own_seq]; (repeat' split) <;> omega), N0, rfl⟩
            · skip
              refine g_icmp_lt_f 139 rfl C X0 d1_136 hb88 ?_
              refine g_iconst 140 rfl C X0 (0 : Int32) d1_139 rfl ?_
              have fr189 := rng32 x0
              have fr190 := rng32 v2
              have fc191 : (255 : Int32).toInt = 255 := rfl
              have fo192 : (x0 &&& (255 : Int32)).toInt = x0.toInt % 256 := c_mask x0 (255 : Int32) 8 (by decide) (by decide)
              have fe193 : (x0 &&& (255 : Int32)).toInt = v2.toInt := congrArg Int32.toInt hv2
              have fc194 : (128 : Int32).toInt = 128 := rfl
              have fc195 : (194 : Int32).toInt = 194 := rfl
              have fc196 : (224 : Int32).toInt = 224 := rfl
              have fc197 : (240 : Int32).toInt = 240 := rfl
              have fc198 : (2 : Int32).toInt = 2 := rfl
              have fo199 := c_iadd p1 (2 : Int32)
              have fr200 := rng32 (p1 + (2 : Int32))
              have fr201 := rng32 p2
              have fc202 : (0 : Int32).toInt = 0 := rfl
              exact g_retI C X0 rfl d1_140 e0 (by decide) (by decide) ⟨_, rfl, by (simp only [own_seq]; (repeat' split) <;> omega), N0, rfl⟩
          · skip
            refine g_icmp_ne_t 74 C X0 d1_63 (by decide) (by decide) hb87 ?_
            refine g_iloadN 75 rfl C X0 d1_74 rfl ?_
            refine g_sipush 78 rfl C X0 (237 : Int32) d1_75 rfl ?_
            by_cases hb203 : v2.toInt = (237 : Int32).toInt
            · skip
              refine g_icmp_ne_f 81 rfl C X0 d1_78 hb203 ?_
              refine g_sipush 84 rfl C X0 (159 : Int32) d1_81 rfl ?_
              refine g_istore 86 rfl C X0 (159 : Int32) rfl #[.val (.ref b0), .val (.int p1), .val (.int p2), .val (.int v2), .val (.int (2 : Int32)), .val (.int (128 : Int32)), .val (.int (159 : Int32)), .unset, .unset] d1_84 rfl ?_
              refine g_goto 131 C X0 d1_86 (by decide) (by decide) ?_
              refine g_iloadN 132 rfl C X0 d1_131 rfl ?_
              refine g_iload 134 rfl C X0 d1_132 rfl ?_
              refine g_iadd 135 rfl C X0 d1_134 ?_
              refine g_iloadN 136 rfl C X0 d1_135 rfl ?_
              by_cases hb204 : (p1 + (2 : Int32)).toInt < p2.toInt
              · skip
                refine g_icmp_lt_t 141 C X0 d1_136 (by decide) (by decide) hb204 ?_
                refine g_aloadN 142 rfl C X0 d1_141 rfl rfl ?_
                refine g_iloadN 143 rfl C X0 d1_142 rfl ?_
                refine g_iconst 144 rfl C X0 (1 : Int32) d1_143 rfl ?_
                refine g_iadd 145 rfl C X0 d1_144 ?_
                have fc205 : (1 : Int32).toInt = 1 := rfl
                have fo206 := c_iadd p1 (1 : Int32)
                have fr207 := rng32 (p1 + (1 : Int32))
                refine g_baload 146 rfl C X0 e0 B_b0 (n + 1) (by omega) (by omega) x1 hx1 d1_145 ?_
                refine g_sipush 149 rfl C X0 (255 : Int32) d1_146 rfl ?_
                refine g_iand 150 rfl C X0 d1_149 ?_
                obtain ⟨v208, hv208⟩ : ∃ z : Int32, (x1 &&& (255 : Int32)) = z := ⟨_, rfl⟩
                refine g_istore 152 rfl C X0 v208 hv208 #[.val (.ref b0), .val (.int p1), .val (.int p2), .val (.int v2), .val (.int (2 : Int32)), .val (.int (128 : Int32)), .val (.int (159 : Int32)), .val (.int v208), .unset] d1_150 rfl ?_
                refine g_iload 154 rfl C X0 d1_152 rfl ?_
                refine g_iload 156 rfl C X0 d1_154 rfl ?_
                by_cases hb209 : v208.toInt < (128 : Int32).toInt
                · skip
                  refine g_icmp_lt_t 166 C X0 d1_156 (by decide) (by decide) hb209 ?_
                  refine g_iconst 167 rfl C X0 (0 : Int32) d1_166 rfl ?_
                  have fr210 := rng32 x0
                  have fr211 := rng32 v2
                  have fc212 : (255 : Int32).toInt = 255 := rfl
                  have fo213 : (x0 &&& (255 : Int32)).toInt = x0.toInt % 256 := c_mask x0 (255 : Int32) 8 (by decide) (by decide)
                  have fe214 : (x0 &&& (255 : Int32)).toInt = v2.toInt := congrArg Int32.toInt hv2
                  have fc215 : (128 : Int32).toInt = 128 := rfl
                  have fc216 : (194 : Int32).toInt = 194 := rfl
                  have fc217 : (224 : Int32).toInt = 224 := rfl
                  have fc218 : (240 : Int32).toInt = 240 := rfl
                  have fc219 : (237 : Int32).toInt = 237 := rfl
                  have fc220 : (2 : Int32).toInt = 2 := rfl
                  have fo221 := c_iadd p1 (2 : Int32)
                  have fr222 := rng32 (p1 + (2 : Int32))
                  have fr223 := rng32 p2
                  have fr224 := rng32 x1
                  have fr225 := rng32 v208
                  have fo226 : (x1 &&& (255 : Int32)).toInt = x1.toInt % 256 := c_mask x1 (255 : Int32) 8 (by decide) (by decide)
                  have fe227 : (x1 &&& (255 : Int32)).toInt = v208.toInt := congrArg Int32.toInt hv208
                  have fc228 : (0 : Int32).toInt = 0 := rfl
                  exact g_retI C X0 rfl d1_167 e0 (by decide) (by decide) ⟨_, rfl, by (simp only [own_seq]; (repeat' split) <;> omega), N0, rfl⟩
                · skip
                  refine g_icmp_lt_f 159 rfl C X0 d1_156 hb209 ?_
                  refine g_iload 161 rfl C X0 d1_159 rfl ?_
                  refine g_iload 163 rfl C X0 d1_161 rfl ?_
                  by_cases hb229 : (159 : Int32).toInt < v208.toInt
                  · skip
                    refine g_icmp_le_f 166 rfl C X0 d1_163 hb229 ?_
                    refine g_iconst 167 rfl C X0 (0 : Int32) d1_166 rfl ?_
                    have fr230 := rng32 x0
                    have fr231 := rng32 v2
                    have fc232 : (255 : Int32).toInt = 255 := rfl
                    have fo233 : (x0 &&& (255 : Int32)).toInt = x0.toInt % 256 := c_mask x0 (255 : Int32) 8 (by decide) (by decide)
                    have fe234 : (x0 &&& (255 : Int32)).toInt = v2.toInt := congrArg Int32.toInt hv2
                    have fc235 : (128 : Int32).toInt = 128 := rfl
                    have fc236 : (194 : Int32).toInt = 194 := rfl
                    have fc237 : (224 : Int32).toInt = 224 := rfl
                    have fc238 : (240 : Int32).toInt = 240 := rfl
                    have fc239 : (237 : Int32).toInt = 237 := rfl
                    have fc240 : (2 : Int32).toInt = 2 := rfl
                    have fo241 := c_iadd p1 (2 : Int32)
                    have fr242 := rng32 (p1 + (2 : Int32))
                    have fr243 := rng32 p2
                    have fr244 := rng32 x1
                    have fr245 := rng32 v208
                    have fo246 : (x1 &&& (255 : Int32)).toInt = x1.toInt % 256 := c_mask x1 (255 : Int32) 8 (by decide) (by decide)
                    have fe247 : (x1 &&& (255 : Int32)).toInt = v208.toInt := congrArg Int32.toInt hv208
                    have fc248 : (159 : Int32).toInt = 159 := rfl
                    have fc249 : (0 : Int32).toInt = 0 := rfl
                    exact g_retI C X0 rfl d1_167 e0 (by decide) (by decide) ⟨_, rfl, by (simp only [own_seq]; (repeat' split) <;> omega), N0, rfl⟩
                  · skip
                    refine g_icmp_le_t 168 C X0 d1_163 (by decide) (by decide) hb229 ?_
                    refine g_iconst 169 rfl C X0 (2 : Int32) d1_168 rfl ?_
                    refine g_istore 171 rfl C X0 (2 : Int32) rfl #[.val (.ref b0), .val (.int p1), .val (.int p2), .val (.int v2), .val (.int (2 : Int32)), .val (.int (128 : Int32)), .val (.int (159 : Int32)), .val (.int v208), .val (.int (2 : Int32))] d1_169 rfl ?_
                    refine g_iload 173 rfl C X0 d1_171 rfl ?_
                    refine g_iload 175 rfl C X0 d1_173 rfl ?_
                    refine g_icmp_gt_f 178 rfl C X0 d1_175 (by decide) ?_
                    refine g_aloadN 179 rfl C X0 d1_178 rfl rfl ?_
                    refine g_iloadN 180 rfl C X0 d1_179 rfl ?_
                    refine g_iload 182 rfl C X0 d1_180 rfl ?_
                    refine g_iadd 183 rfl C X0 d1_182 ?_
                    have fc250 : (2 : Int32).toInt = 2 := rfl
                    have fo251 := c_iadd p1 (2 : Int32)
                    have fr252 := rng32 (p1 + (2 : Int32))
                    refine g_baload 184 rfl C X0 e0 B_b0 (n + 2) (by omega) (by omega) x2 hx2 d1_183 ?_
                    refine g_sipush 187 rfl C X0 (192 : Int32) d1_184 rfl ?_
                    refine g_iand 188 rfl C X0 d1_187 ?_
                    refine g_sipush 191 rfl C X0 (128 : Int32) d1_188 rfl ?_
                    by_cases hb253 : (x2 &&& (192 : Int32)).toInt = (128 : Int32).toInt
                    · skip
                      refine g_icmp_eq_t 196 C X0 d1_191 (by decide) (by decide) hb253 ?_
                      refine g_iinc 199 rfl C X0 (1 : Int32) (3 : Int32) #[.val (.ref b0), .val (.int p1), .val (.int p2), .val (.int v2), .val (.int (2 : Int32)), .val (.int (128 : Int32)), .val (.int (159 : Int32)), .val (.int v208), .val (.int (3 : Int32))] d1_196 rfl rfl (by decide) rfl ?_
                      refine g_goto 171 C X0 d1_199 (by decide) (by decide) ?_
                      refine g_iload 173 rfl C X0 d1_171 rfl ?_
                      refine g_iload 175 rfl C X0 d1_173 rfl ?_
                      refine g_icmp_gt_t 202 C X0 d1_175 (by decide) (by decide) (by decide) ?_
                      refine g_iload 204 rfl C X0 d1_202 rfl ?_
                      refine g_iconst 205 rfl C X0 (1 : Int32) d1_204 rfl ?_
                      refine g_iadd 206 rfl C X0 d1_205 ?_
                      have fr254 := rng32 x0
                      have fr255 := rng32 v2
                      have fc256 : (255 : Int32).toInt = 255 := rfl
                      have fo257 : (x0 &&& (255 : Int32)).toInt = x0.toInt % 256 := c_mask x0 (255 : Int32) 8 (by decide) (by decide)
                      have fe258 : (x0 &&& (255 : Int32)).toInt = v2.toInt := congrArg Int32.toInt hv2
                      have fc259 : (128 : Int32).toInt = 128 := rfl
                      have fc260 : (194 : Int32).toInt = 194 := rfl
                      have fc261 : (224 : Int32).toInt = 224 := rfl
                      have fc262 : (240 : Int32).toInt = 240 := rfl
                      have fc263 : (237 : Int32).toInt = 237 := rfl
                      have fr264 := rng32 p2
                      have fr265 := rng32 x1
                      have fr266 := rng32 v208
                      have fo267 : (x1 &&& (255 : Int32)).toInt = x1.toInt % 256 := c_mask x1 (255 : Int32) 8 (by decide) (by decide)
                      have fe268 : (x1 &&& (255 : Int32)).toInt = v208.toInt := congrArg Int32.toInt hv208
                      have fc269 : (159 : Int32).toInt = 159 := rfl
                      have fr270 := rng32 x2
                      have fc271 : (192 : Int32).toInt = 192 := rfl
                      have fc273 : (63 : Int32).toInt = 63 := rfl
                      have fo274 : (x2 &&& (63 : Int32)).toInt = x2.toInt % 64 := c_mask x2 (63 : Int32) 6 (by decide) (by decide)
                      have fo275 : (x2 &&& (255 : Int32)).toInt = x2.toInt % 256 := c_mask x2 (255 : Int32) 8 (by decide) (by decide)
                      have fo272 := own_blk x2 (192 : Int32) (63 : Int32) (255 : Int32) (by decide) (by decide)
                      have fo276 := c_and x2 (192 : Int32) (by decide)
                      have fr277 := rng32 (x2 &&& (192 : Int32))
                      have fc278 : (3 : Int32).toInt = 3 := rfl
                      have fc279 : ((2 : Int32) + (1 : Int32)).toInt = 3 := by decide
                      exact g_retI C X0 rfl d1_206 e0 (by decide) (by decide) ⟨_, rfl, by (simp only [own_seq]; (repeat' split) <;> omega), N0, rfl⟩
                    · skip
                      refine g_icmp_eq_f 194 rfl C X0 d1_191 hb253 ?_
                      refine g_iconst 195 rfl C X0 (0 : Int32) d1_194 rfl ?_
                      have fr280 := rng32 x0
                      have fr281 := rng32 v2
                      have fc282 : (255 : Int32).toInt = 255 := rfl
                      have fo283 : (x0 &&& (255 : Int32)).toInt = x0.toInt % 256 := c_mask x0 (255 : Int32) 8 (by decide) (by decide)
                      have fe284 : (x0 &&& (255 : Int32)).toInt = v2.toInt := congrArg Int32.toInt hv2
                      have fc285 : (128 : Int32).toInt = 128 := rfl
                      have fc286 : (194 : Int32).toInt = 194 := rfl
                      have fc287 : (224 : Int32).toInt = 224 := rfl
                      have fc288 : (240 : Int32).toInt = 240 := rfl
                      have fc289 : (237 : Int32).toInt = 237 := rfl
                      have fr290 := rng32 p2
                      have fr291 := rng32 x1
                      have fr292 := rng32 v208
                      have fo293 : (x1 &&& (255 : Int32)).toInt = x1.toInt % 256 := c_mask x1 (255 : Int32) 8 (by decide) (by decide)
                      have fe294 : (x1 &&& (255 : Int32)).toInt = v208.toInt := congrArg Int32.toInt hv208
                      have fc295 : (159 : Int32).toInt = 159 := rfl
                      have fr296 := rng32 x2
                      have fc297 : (192 : Int32).toInt = 192 := rfl
                      have fc299 : (63 : Int32).toInt = 63 := rfl
                      have fo300 : (x2 &&& (63 : Int32)).toInt = x2.toInt % 64 := c_mask x2 (63 : Int32) 6 (by decide) (by decide)
                      have fo301 : (x2 &&& (255 : Int32)).toInt = x2.toInt % 256 := c_mask x2 (255 : Int32) 8 (by decide) (by decide)
                      have fo298 := own_blk x2 (192 : Int32) (63 : Int32) (255 : Int32) (by decide) (by decide)
                      have fo302 := c_and x2 (192 : Int32) (by decide)
                      have fr303 := rng32 (x2 &&& (192 : Int32))
                      have fc304 : (0 : Int32).toInt = 0 := rfl
                      exact g_retI C X0 rfl d1_195 e0 (by decide) (by decide) ⟨_, rfl, by (simp only [own_seq]; (repeat' split) <;> omega), N0, rfl⟩
              · skip
                refine g_icmp_lt_f 139 rfl C X0 d1_136 hb204 ?_
                refine g_iconst 140 rfl C X0 (0 : Int32) d1_139 rfl ?_
                have fr305 := rng32 x0
                have fr306 := rng32 v2
                have fc307 : (255 : Int32).toInt = 255 := rfl
                have fo308 : (x0 &&& (255 : Int32)).toInt = x0.toInt % 256 := c_mask x0 (255 : Int32) 8 (by decide) (by decide)
                have fe309 : (x0 &&& (255 : Int32)).toInt = v2.toInt := congrArg Int32.toInt hv2
                have fc310 : (128 : Int32).toInt = 128 := rfl
                have fc311 : (194 : Int32).toInt = 194 := rfl
                have fc312 : (224 : Int32).toInt = 224 := rfl
                have fc313 : (240 : Int32).toInt = 240 := rfl
                have fc314 : (237 : Int32).toInt = 237 := rfl
                have fc315 : (2 : Int32).toInt = 2 := rfl
                have fo316 := c_iadd p1 (2 : Int32)
                have fr317 := rng32 (p1 + (2 : Int32))
                have fr318 := rng32 p2
                have fc319 : (0 : Int32).toInt = 0 := rfl
                exact g_retI C X0 rfl d1_140 e0 (by decide) (by decide) ⟨_, rfl, by (simp only [own_seq]; (repeat' split) <;> omega), N0, rfl⟩
            · skip
              refine g_icmp_ne_t 131 C X0 d1_78 (by decide) (by decide) hb203 ?_
              refine g_iloadN 132 rfl C X0 d1_131 rfl ?_
              refine g_iload 134 rfl C X0 d1_132 rfl ?_
              refine g_iadd 135 rfl C X0 d1_134 ?_
              refine g_iloadN 136 rfl C X0 d1_135 rfl ?_
              by_cases hb320 : (p1 + (2 : Int32)).toInt < p2.toInt
              · skip
                refine g_icmp_lt_t 141 C X0 d1_136 (by decide) (by decide) hb320 ?_
                refine g_aloadN 142 rfl C X0 d1_141 rfl rfl ?_
                refine g_iloadN 143 rfl C X0 d1_142 rfl ?_
                refine g_iconst 144 rfl C X0 (1 : Int32) d1_143 rfl ?_
                refine g_iadd 145 rfl C X0 d1_144 ?_
                have fc321 : (1 : Int32).toInt = 1 := rfl
                have fo322 := c_iadd p1 (1 : Int32)
                have fr323 := rng32 (p1 + (1 : Int32))
                refine g_baload 146 rfl C X0 e0 B_b0 (n + 1) (by omega) (by omega) x1 hx1 d1_145 ?_
                refine g_sipush 149 rfl C X0 (255 : Int32) d1_146 rfl ?_
                refine g_iand 150 rfl C X0 d1_149 ?_
                obtain ⟨v324, hv324⟩ : ∃ z : Int32, (x1 &&& (255 : Int32)) = z := ⟨_, rfl⟩
                refine g_istore 152 rfl C X0 v324 hv324 #[.val (.ref b0), .val (.int p1), .val (.int p2), .val (.int v2), .val (.int (2 : Int32)), .val (.int (128 : Int32)), .val (.int (191 : Int32)), .val (.int v324), .unset] d1_150 rfl ?_
                refine g_iload 154 rfl C X0 d1_152 rfl ?_
                refine g_iload 156 rfl C X0 d1_154 rfl ?_
                by_cases hb325 : v324.toInt < (128 : Int32).toInt
                · skip
                  refine g_icmp_lt_t 166 C X0 d1_156 (by decide) (by decide) hb325 ?_
                  refine g_iconst 167 rfl C X0 (0 : Int32) d1_166 rfl ?_
                  have fr326 := rng32 x0
                  have fr327 := rng32 v2
                  have fc328 : (255 : Int32).toInt = 255 := rfl
                  have fo329 : (x0 &&& (255 : Int32)).toInt = x0.toInt % 256 := c_mask x0 (255 : Int32) 8 (by decide) (by decide)
                  have fe330 : (x0 &&& (255 : Int32)).toInt = v2.toInt := congrArg Int32.toInt hv2
                  have fc331 : (128 : Int32).toInt = 128 := rfl
                  have fc332 : (194 : Int32).toInt = 194 := rfl
                  have fc333 : (224 : Int32).toInt = 224 := rfl
                  have fc334 : (240 : Int32).toInt = 240 := rfl
                  have fc335 : (237 : Int32).toInt = 237 := rfl
                  have fc336 : (2 : Int32).toInt = 2 := rfl
                  have fo337 := c_iadd p1 (2 : Int32)
                  have fr338 := rng32 (p1 + (2 : Int32))
                  have fr339 := rng32 p2
                  have fr340 := rng32 x1
                  have fr341 := rng32 v324
                  have fo342 : (x1 &&& (255 : Int32)).toInt = x1.toInt % 256 := c_mask x1 (255 : Int32) 8 (by decide) (by decide)
                  have fe343 : (x1 &&& (255 : Int32)).toInt = v324.toInt := congrArg Int32.toInt hv324
                  have fc344 : (0 : Int32).toInt = 0 := rfl
                  exact g_retI C X0 rfl d1_167 e0 (by decide) (by decide) ⟨_, rfl, by (simp only [own_seq]; (repeat' split) <;> omega), N0, rfl⟩
                · skip
                  refine g_icmp_lt_f 159 rfl C X0 d1_156 hb325 ?_
                  refine g_iload 161 rfl C X0 d1_159 rfl ?_
                  refine g_iload 163 rfl C X0 d1_161 rfl ?_
                  by_cases hb345 : (191 : Int32).toInt < v324.toInt
                  · skip
                    refine g_icmp_le_f 166 rfl C X0 d1_163 hb345 ?_
                    refine g_iconst 167 rfl C X0 (0 : Int32) d1_166 rfl ?_
                    have fr346 := rng32 x0
                    have fr347 := rng32 v2
                    have fc348 : (255 : Int32).toInt = 255 := rfl
                    have fo349 : (x0 &&& (255 : Int32)).toInt = x0.toInt % 256 := c_mask x0 (255 : Int32) 8 (by decide) (by decide)
                    have fe350 : (x0 &&& (255 : Int32)).toInt = v2.toInt := congrArg Int32.toInt hv2
                    have fc351 : (128 : Int32).toInt = 128 := rfl
                    have fc352 : (194 : Int32).toInt = 194 := rfl
                    have fc353 : (224 : Int32).toInt = 224 := rfl
                    have fc354 : (240 : Int32).toInt = 240 := rfl
                    have fc355 : (237 : Int32).toInt = 237 := rfl
                    have fc356 : (2 : Int32).toInt = 2 := rfl
                    have fo357 := c_iadd p1 (2 : Int32)
                    have fr358 := rng32 (p1 + (2 : Int32))
                    have fr359 := rng32 p2
                    have fr360 := rng32 x1
                    have fr361 := rng32 v324
                    have fo362 : (x1 &&& (255 : Int32)).toInt = x1.toInt % 256 := c_mask x1 (255 : Int32) 8 (by decide) (by decide)
                    have fe363 : (x1 &&& (255 : Int32)).toInt = v324.toInt := congrArg Int32.toInt hv324
                    have fc364 : (191 : Int32).toInt = 191 := rfl
                    have fc365 : (0 : Int32).toInt = 0 := rfl
                    exact g_retI C X0 rfl d1_167 e0 (by decide) (by decide) ⟨_, rfl, by (simp only [own_seq]; (repeat' split) <;> omega), N0, rfl⟩
                  · skip
                    refine g_icmp_le_t 168 C X0 d1_163 (by decide) (by decide) hb345 ?_
                    refine g_iconst 169 rfl C X0 (2 : Int32) d1_168 rfl ?_
                    refine g_istore 171 rfl C X0 (2 : Int32) rfl #[.val (.ref b0), .val (.int p1), .val (.int p2), .val (.int v2), .val (.int (2 : Int32)), .val (.int (128 : Int32)), .val (.int (191 : Int32)), .val (.int v324), .val (.int (2 : Int32))] d1_169 rfl ?_
                    refine g_iload 173 rfl C X0 d1_171 rfl ?_
                    refine g_iload 175 rfl C X0 d1_173 rfl ?_
                    refine g_icmp_gt_f 178 rfl C X0 d1_175 (by decide) ?_
                    refine g_aloadN 179 rfl C X0 d1_178 rfl rfl ?_
                    refine g_iloadN 180 rfl C X0 d1_179 rfl ?_
                    refine g_iload 182 rfl C X0 d1_180 rfl ?_
                    refine g_iadd 183 rfl C X0 d1_182 ?_
                    have fc366 : (2 : Int32).toInt = 2 := rfl
                    have fo367 := c_iadd p1 (2 : Int32)
                    have fr368 := rng32 (p1 + (2 : Int32))
                    refine g_baload 184 rfl C X0 e0 B_b0 (n + 2) (by omega) (by omega) x2 hx2 d1_183 ?_
                    refine g_sipush 187 rfl C X0 (192 : Int32) d1_184 rfl ?_
                    refine g_iand 188 rfl C X0 d1_187 ?_
                    refine g_sipush 191 rfl C X0 (128 : Int32) d1_188 rfl ?_
                    by_cases hb369 : (x2 &&& (192 : Int32)).toInt = (128 : Int32).toInt
                    · skip
                      refine g_icmp_eq_t 196 C X0 d1_191 (by decide) (by decide) hb369 ?_
                      refine g_iinc 199 rfl C X0 (1 : Int32) (3 : Int32) #[.val (.ref b0), .val (.int p1), .val (.int p2), .val (.int v2), .val (.int (2 : Int32)), .val (.int (128 : Int32)), .val (.int (191 : Int32)), .val (.int v324), .val (.int (3 : Int32))] d1_196 rfl rfl (by decide) rfl ?_
                      refine g_goto 171 C X0 d1_199 (by decide) (by decide) ?_
                      refine g_iload 173 rfl C X0 d1_171 rfl ?_
                      refine g_iload 175 rfl C X0 d1_173 rfl ?_
                      refine g_icmp_gt_t 202 C X0 d1_175 (by decide) (by decide) (by decide) ?_
                      refine g_iload 204 rfl C X0 d1_202 rfl ?_
                      refine g_iconst 205 rfl C X0 (1 : Int32) d1_204 rfl ?_
                      refine g_iadd 206 rfl C X0 d1_205 ?_
                      have fr370 := rng32 x0
                      have fr371 := rng32 v2
                      have fc372 : (255 : Int32).toInt = 255 := rfl
                      have fo373 : (x0 &&& (255 : Int32)).toInt = x0.toInt % 256 := c_mask x0 (255 : Int32) 8 (by decide) (by decide)
                      have fe374 : (x0 &&& (255 : Int32)).toInt = v2.toInt := congrArg Int32.toInt hv2
                      have fc375 : (128 : Int32).toInt = 128 := rfl
                      have fc376 : (194 : Int32).toInt = 194 := rfl
                      have fc377 : (224 : Int32).toInt = 224 := rfl
                      have fc378 : (240 : Int32).toInt = 240 := rfl
                      have fc379 : (237 : Int32).toInt = 237 := rfl
                      have fr380 := rng32 p2
                      have fr381 := rng32 x1
                      have fr382 := rng32 v324
                      have fo383 : (x1 &&& (255 : Int32)).toInt = x1.toInt % 256 := c_mask x1 (255 : Int32) 8 (by decide) (by decide)
                      have fe384 : (x1 &&& (255 : Int32)).toInt = v324.toInt := congrArg Int32.toInt hv324
                      have fc385 : (191 : Int32).toInt = 191 := rfl
                      have fr386 := rng32 x2
                      have fc387 : (192 : Int32).toInt = 192 := rfl
                      have fc389 : (63 : Int32).toInt = 63 := rfl
                      have fo390 : (x2 &&& (63 : Int32)).toInt = x2.toInt % 64 := c_mask x2 (63 : Int32) 6 (by decide) (by decide)
                      have fo391 : (x2 &&& (255 : Int32)).toInt = x2.toInt % 256 := c_mask x2 (255 : Int32) 8 (by decide) (by decide)
                      have fo388 := own_blk x2 (192 : Int32) (63 : Int32) (255 : Int32) (by decide) (by decide)
                      have fo392 := c_and x2 (192 : Int32) (by decide)
                      have fr393 := rng32 (x2 &&& (192 : Int32))
                      have fc394 : (3 : Int32).toInt = 3 := rfl
                      have fc395 : ((2 : Int32) + (1 : Int32)).toInt = 3 := by decide
                      exact g_retI C X0 rfl d1_206 e0 (by decide) (by decide) ⟨_, rfl, by (simp only [own_seq]; (repeat' split) <;> omega), N0, rfl⟩
                    · skip
                      refine g_icmp_eq_f 194 rfl C X0 d1_191 hb369 ?_
                      refine g_iconst 195 rfl C X0 (0 : Int32) d1_194 rfl ?_
                      have fr396 := rng32 x0
                      have fr397 := rng32 v2
                      have fc398 : (255 : Int32).toInt = 255 := rfl
                      have fo399 : (x0 &&& (255 : Int32)).toInt = x0.toInt % 256 := c_mask x0 (255 : Int32) 8 (by decide) (by decide)
                      have fe400 : (x0 &&& (255 : Int32)).toInt = v2.toInt := congrArg Int32.toInt hv2
                      have fc401 : (128 : Int32).toInt = 128 := rfl
                      have fc402 : (194 : Int32).toInt = 194 := rfl
                      have fc403 : (224 : Int32).toInt = 224 := rfl
                      have fc404 : (240 : Int32).toInt = 240 := rfl
                      have fc405 : (237 : Int32).toInt = 237 := rfl
                      have fr406 := rng32 p2
                      have fr407 := rng32 x1
                      have fr408 := rng32 v324
                      have fo409 : (x1 &&& (255 : Int32)).toInt = x1.toInt % 256 := c_mask x1 (255 : Int32) 8 (by decide) (by decide)
                      have fe410 : (x1 &&& (255 : Int32)).toInt = v324.toInt := congrArg Int32.toInt hv324
                      have fc411 : (191 : Int32).toInt = 191 := rfl
                      have fr412 := rng32 x2
                      have fc413 : (192 : Int32).toInt = 192 := rfl
                      have fc415 : (63 : Int32).toInt = 63 := rfl
                      have fo416 : (x2 &&& (63 : Int32)).toInt = x2.toInt % 64 := c_mask x2 (63 : Int32) 6 (by decide) (by decide)
                      have fo417 : (x2 &&& (255 : Int32)).toInt = x2.toInt % 256 := c_mask x2 (255 : Int32) 8 (by decide) (by decide)
                      have fo414 := own_blk x2 (192 : Int32) (63 : Int32) (255 : Int32) (by decide) (by decide)
                      have fo418 := c_and x2 (192 : Int32) (by decide)
                      have fr419 := rng32 (x2 &&& (192 : Int32))
                      have fc420 : (0 : Int32).toInt = 0 := rfl
                      exact g_retI C X0 rfl d1_195 e0 (by decide) (by decide) ⟨_, rfl, by (simp only [own_seq]; (repeat' split) <;> omega), N0, rfl⟩
              · skip
                refine g_icmp_lt_f 139 rfl C X0 d1_136 hb320 ?_
                refine g_iconst 140 rfl C X0 (0 : Int32) d1_139 rfl ?_
                have fr421 := rng32 x0
                have fr422 := rng32 v2
                have fc423 : (255 : Int32).toInt = 255 := rfl
                have fo424 : (x0 &&& (255 : Int32)).toInt = x0.toInt % 256 := c_mask x0 (255 : Int32) 8 (by decide) (by decide)
                have fe425 : (x0 &&& (255 : Int32)).toInt = v2.toInt := congrArg Int32.toInt hv2
                have fc426 : (128 : Int32).toInt = 128 := rfl
                have fc427 : (194 : Int32).toInt = 194 := rfl
                have fc428 : (224 : Int32).toInt = 224 := rfl
                have fc429 : (240 : Int32).toInt = 240 := rfl
                have fc430 : (237 : Int32).toInt = 237 := rfl
                have fc431 : (2 : Int32).toInt = 2 := rfl
                have fo432 := c_iadd p1 (2 : Int32)
                have fr433 := rng32 (p1 + (2 : Int32))
                have fr434 := rng32 p2
                have fc435 : (0 : Int32).toInt = 0 := rfl
                exact g_retI C X0 rfl d1_140 e0 (by decide) (by decide) ⟨_, rfl, by (simp only [own_seq]; (repeat' split) <;> omega), N0, rfl⟩
        · skip
          refine g_icmp_ge_t 89 C X0 d1_53 (by decide) (by decide) hb86 ?_
          refine g_iloadN 90 rfl C X0 d1_89 rfl ?_
          refine g_sipush 93 rfl C X0 (245 : Int32) d1_90 rfl ?_
          by_cases hb436 : v2.toInt < (245 : Int32).toInt
          · skip
            refine g_icmp_ge_f 96 rfl C X0 d1_93 hb436 ?_
            refine g_iconst 97 rfl C X0 (3 : Int32) d1_96 rfl ?_
            refine g_istore 99 rfl C X0 (3 : Int32) rfl #[.val (.ref b0), .val (.int p1), .val (.int p2), .val (.int v2), .val (.int (3 : Int32)), .val (.int (128 : Int32)), .val (.int (191 : Int32)), .unset, .unset] d1_97 rfl ?_
            refine g_iloadN 100 rfl C X0 d1_99 rfl ?_
            refine g_sipush 103 rfl C X0 (240 : Int32) d1_100 rfl ?_
            by_cases hb437 : v2.toInt = (240 : Int32).toInt
            · skip
              refine g_icmp_ne_f 106 rfl C X0 d1_103 hb437 ?_
              refine g_sipush 109 rfl C X0 (144 : Int32) d1_106 rfl ?_
              refine g_istore 111 rfl C X0 (144 : Int32) rfl #[.val (.ref b0), .val (.int p1), .val (.int p2), .val (.int v2), .val (.int (3 : Int32)), .val (.int (144 : Int32)), .val (.int (191 : Int32)), .unset, .unset] d1_109 rfl ?_
              refine g_goto 131 C X0 d1_111 (by decide) (by decide) ?_
              refine g_iloadN 132 rfl C X0 d1_131 rfl ?_
              refine g_iload 134 rfl C X0 d1_132 rfl ?_
              refine g_iadd 135 rfl C X0 d1_134 ?_
              refine g_iloadN 136 rfl C X0 d1_135 rfl ?_
              by_cases hb438 : (p1 + (3 : Int32)).toInt < p2.toInt
              · skip
                refine g_icmp_lt_t 141 C X0 d1_136 (by decide) (by decide) hb438 ?_
                refine g_aloadN 142 rfl C X0 d1_141 rfl rfl ?_
                refine g_iloadN 143 rfl C X0 d1_142 rfl ?_
                refine g_iconst 144 rfl C X0 (1 : Int32) d1_143 rfl ?_
                refine g_iadd 145 rfl C X0 d1_144 ?_
                have fc439 : (1 : Int32).toInt = 1 := rfl
                have fo440 := c_iadd p1 (1 : Int32)
                have fr441 := rng32 (p1 + (1 : Int32))
                refine g_baload 146 rfl C X0 e0 B_b0 (n + 1) (by omega) (by omega) x1 hx1 d1_145 ?_
                refine g_sipush 149 rfl C X0 (255 : Int32) d1_146 rfl ?_
                refine g_iand 150 rfl C X0 d1_149 ?_
                obtain ⟨v442, hv442⟩ : ∃ z : Int32, (x1 &&& (255 : Int32)) = z := ⟨_, rfl⟩
                refine g_istore 152 rfl C X0 v442 hv442 #[.val (.ref b0), .val (.int p1), .val (.int p2), .val (.int v2), .val (.int (3 : Int32)), .val (.int (144 : Int32)), .val (.int (191 : Int32)), .val (.int v442), .unset] d1_150 rfl ?_
                refine g_iload 154 rfl C X0 d1_152 rfl ?_
                refine g_iload 156 rfl C X0 d1_154 rfl ?_
                by_cases hb443 : v442.toInt < (144 : Int32).toInt
                · skip
                  refine g_icmp_lt_t 166 C X0 d1_156 (by decide) (by decide) hb443 ?_
                  refine g_iconst 167 rfl C X0 (0 : Int32) d1_166 rfl ?_
                  have fr444 := rng32 x0
                  have fr445 := rng32 v2
                  have fc446 : (255 : Int32).toInt = 255 := rfl
                  have fo447 : (x0 &&& (255 : Int32)).toInt = x0.toInt % 256 := c_mask x0 (255 : Int32) 8 (by decide) (by decide)
                  have fe448 : (x0 &&& (255 : Int32)).toInt = v2.toInt := congrArg Int32.toInt hv2
                  have fc449 : (128 : Int32).toInt = 128 := rfl
                  have fc450 : (194 : Int32).toInt = 194 := rfl
                  have fc451 : (224 : Int32).toInt = 224 := rfl
                  have fc452 : (240 : Int32).toInt = 240 := rfl
                  have fc453 : (245 : Int32).toInt = 245 := rfl
                  have fc454 : (3 : Int32).toInt = 3 := rfl
                  have fo455 := c_iadd p1 (3 : Int32)
                  have fr456 := rng32 (p1 + (3 : Int32))
                  have fr457 := rng32 p2
                  have fr458 := rng32 x1
                  have fr459 := rng32 v442
                  have fo460 : (x1 &&& (255 : Int32)).toInt = x1.toInt % 256 := c_mask x1 (255 : Int32) 8 (by decide) (by decide)
                  have fe461 : (x1 &&& (255 : Int32)).toInt = v442.toInt := congrArg Int32.toInt hv442
                  have fc462 : (144 : Int32).toInt = 144 := rfl
                  have fc463 : (0 : Int32).toInt = 0 := rfl
                  exact g_retI C X0 rfl d1_167 e0 (by decide) (by decide) ⟨_, rfl, by (simp only [own_seq]; (repeat' split) <;> omega), N0, rfl⟩
                · skip
                  refine g_icmp_lt_f 159 rfl C X0 d1_156 hb443 ?_
                  refine g_iload 161 rfl C X0 d1_159 rfl ?_
                  refine g_iload 163 rfl C X0 d1_161 rfl ?_
                  by_cases hb464 : (191 : Int32).toInt < v442.toInt
                  · skip
                    refine g_icmp_le_f 166 rfl C X0 d1_163 hb464 ?_
                    refine g_iconst 167 rfl C X0 (0 : Int32) d1_166 rfl ?_
                    have fr465 := rng32 x0
                    have fr466 := rng32 v2
                    have fc467 : (255 : Int32).toInt = 255 := rfl
                    have fo468 : (x0 &&& (255 : Int32)).toInt = x0.toInt % 256 := c_mask x0 (255 : Int32) 8 (by decide) (by decide)
                    have fe469 : (x0 &&& (255 : Int32)).toInt = v2.toInt := congrArg Int32.toInt hv2
                    have fc470 : (128 : Int32).toInt = 128 := rfl
                    have fc471 : (194 : Int32).toInt = 194 := rfl
                    have fc472 : (224 : Int32).toInt = 224 := rfl
                    have fc473 : (240 : Int32).toInt = 240 := rfl
                    have fc474 : (245 : Int32).toInt = 245 := rfl
                    have fc475 : (3 : Int32).toInt = 3 := rfl
                    have fo476 := c_iadd p1 (3 : Int32)
                    have fr477 := rng32 (p1 + (3 : Int32))
                    have fr478 := rng32 p2
                    have fr479 := rng32 x1
                    have fr480 := rng32 v442
                    have fo481 : (x1 &&& (255 : Int32)).toInt = x1.toInt % 256 := c_mask x1 (255 : Int32) 8 (by decide) (by decide)
                    have fe482 : (x1 &&& (255 : Int32)).toInt = v442.toInt := congrArg Int32.toInt hv442
                    have fc483 : (144 : Int32).toInt = 144 := rfl
                    have fc484 : (191 : Int32).toInt = 191 := rfl
                    have fc485 : (0 : Int32).toInt = 0 := rfl
                    exact g_retI C X0 rfl d1_167 e0 (by decide) (by decide) ⟨_, rfl, by (simp only [own_seq]; (repeat' split) <;> omega), N0, rfl⟩
                  · skip
                    refine g_icmp_le_t 168 C X0 d1_163 (by decide) (by decide) hb464 ?_
                    refine g_iconst 169 rfl C X0 (2 : Int32) d1_168 rfl ?_
                    refine g_istore 171 rfl C X0 (2 : Int32) rfl #[.val (.ref b0), .val (.int p1), .val (.int p2), .val (.int v2), .val (.int (3 : Int32)), .val (.int (144 : Int32)), .val (.int (191 : Int32)), .val (.int v442), .val (.int (2 : Int32))] d1_169 rfl ?_
                    refine g_iload 173 rfl C X0 d1_171 rfl ?_
                    refine g_iload 175 rfl C X0 d1_173 rfl ?_
                    refine g_icmp_gt_f 178 rfl C X0 d1_175 (by decide) ?_
                    refine g_aloadN 179 rfl C X0 d1_178 rfl rfl ?_
                    refine g_iloadN 180 rfl C X0 d1_179 rfl ?_
                    refine g_iload 182 rfl C X0 d1_180 rfl ?_
                    refine g_iadd 183 rfl C X0 d1_182 ?_
                    have fc486 : (2 : Int32).toInt = 2 := rfl
                    have fo487 := c_iadd p1 (2 : Int32)
                    have fr488 := rng32 (p1 + (2 : Int32))
                    refine g_baload 184 rfl C X0 e0 B_b0 (n + 2) (by omega) (by omega) x2 hx2 d1_183 ?_
                    refine g_sipush 187 rfl C X0 (192 : Int32) d1_184 rfl ?_
                    refine g_iand 188 rfl C X0 d1_187 ?_
                    refine g_sipush 191 rfl C X0 (128 : Int32) d1_188 rfl ?_
                    by_cases hb489 : (x2 &&& (192 : Int32)).toInt = (128 : Int32).toInt
                    · skip
                      refine g_icmp_eq_t 196 C X0 d1_191 (by decide) (by decide) hb489 ?_
                      refine g_iinc 199 rfl C X0 (1 : Int32) (3 : Int32) #[.val (.ref b0), .val (.int p1), .val (.int p2), .val (.int v2), .val (.int (3 : Int32)), .val (.int (144 : Int32)), .val (.int (191 : Int32)), .val (.int v442), .val (.int (3 : Int32))] d1_196 rfl rfl (by decide) rfl ?_
                      refine g_goto 171 C X0 d1_199 (by decide) (by decide) ?_
                      refine g_iload 173 rfl C X0 d1_171 rfl ?_
                      refine g_iload 175 rfl C X0 d1_173 rfl ?_
                      refine g_icmp_gt_f 178 rfl C X0 d1_175 (by decide) ?_
                      refine g_aloadN 179 rfl C X0 d1_178 rfl rfl ?_
                      refine g_iloadN 180 rfl C X0 d1_179 rfl ?_
                      refine g_iload 182 rfl C X0 d1_180 rfl ?_
                      refine g_iadd 183 rfl C X0 d1_182 ?_
                      have fc490 : (3 : Int32).toInt = 3 := rfl
                      have fo491 := c_iadd p1 (3 : Int32)
                      have fr492 := rng32 (p1 + (3 : Int32))
                      refine g_baload 184 rfl C X0 e0 B_b0 (n + 3) (by omega) (by omega) x3 hx3 d1_183 ?_
                      refine g_sipush 187 rfl C X0 (192 : Int32) d1_184 rfl ?_
                      refine g_iand 188 rfl C X0 d1_187 ?_
                      refine g_sipush 191 rfl C X0 (128 : Int32) d1_188 rfl ?_
                      by_cases hb493 : (x3 &&& (192 : Int32)).toInt = (128 : Int32).toInt
                      · skip
                        refine g_icmp_eq_t 196 C X0 d1_191 (by decide) (by decide) hb493 ?_
                        refine g_iinc 199 rfl C X0 (1 : Int32) (4 : Int32) #[.val (.ref b0), .val (.int p1), .val (.int p2), .val (.int v2), .val (.int (3 : Int32)), .val (.int (144 : Int32)), .val (.int (191 : Int32)), .val (.int v442), .val (.int (4 : Int32))] d1_196 rfl rfl (by decide) rfl ?_
                        refine g_goto 171 C X0 d1_199 (by decide) (by decide) ?_
                        refine g_iload 173 rfl C X0 d1_171 rfl ?_
                        refine g_iload 175 rfl C X0 d1_173 rfl ?_
                        refine g_icmp_gt_t 202 C X0 d1_175 (by decide) (by decide) (by decide) ?_
                        refine g_iload 204 rfl C X0 d1_202 rfl ?_
                        refine g_iconst 205 rfl C X0 (1 : Int32) d1_204 rfl ?_
                        refine g_iadd 206 rfl C X0 d1_205 ?_
                        have fr494 := rng32 x0
                        have fr495 := rng32 v2
                        have fc496 : (255 : Int32).toInt = 255 := rfl
                        have fo497 : (x0 &&& (255 : Int32)).toInt = x0.toInt % 256 := c_mask x0 (255 : Int32) 8 (by decide) (by decide)
                        have fe498 : (x0 &&& (255 : Int32)).toInt = v2.toInt := congrArg Int32.toInt hv2
                        have fc499 : (128 : Int32).toInt = 128 := rfl
                        have fc500 : (194 : Int32).toInt = 194 := rfl
                        have fc501 : (224 : Int32).toInt = 224 := rfl
                        have fc502 : (240 : Int32).toInt = 240 := rfl
                        have fc503 : (245 : Int32).toInt = 245 := rfl
                        have fr504 := rng32 p2
                        have fr505 := rng32 x1
                        have fr506 := rng32 v442
                        have fo507 : (x1 &&& (255 : Int32)).toInt = x1.toInt % 256 := c_mask x1 (255 : Int32) 8 (by decide) (by decide)
                        have fe508 : (x1 &&& (255 : Int32)).toInt = v442.toInt := congrArg Int32.toInt hv442
                        have fc509 : (144 : Int32).toInt = 144 := rfl
                        have fc510 : (191 : Int32).toInt = 191 := rfl
                        have fr511 := rng32 x2
                        have fc512 : (192 : Int32).toInt = 192 := rfl
                        have fc514 : (63 : Int32).toInt = 63 := rfl
                        have fo515 : (x2 &&& (63 : Int32)).toInt = x2.toInt % 64 := c_mask x2 (63 : Int32) 6 (by decide) (by decide)
                        have fo516 : (x2 &&& (255 : Int32)).toInt = x2.toInt % 256 := c_mask x2 (255 : Int32) 8 (by decide) (by decide)
                        have fo513 := own_blk x2 (192 : Int32) (63 : Int32) (255 : Int32) (by decide) (by decide)
                        have fo517 := c_and x2 (192 : Int32) (by decide)
                        have fr518 := rng32 (x2 &&& (192 : Int32))
                        have fr519 := rng32 x3
                        have fo521 : (x3 &&& (63 : Int32)).toInt = x3.toInt % 64 := c_mask x3 (63 : Int32) 6 (by decide) (by decide)
                        have fo522 : (x3 &&& (255 : Int32)).toInt = x3.toInt % 256 := c_mask x3 (255 : Int32) 8 (by decide) (by decide)
                        have fo520 := own_blk x3 (192 : Int32) (63 : Int32) (255 : Int32) (by decide) (by decide)
                        have fo523 := c_and x3 (192 : Int32) (by decide)
                        have fr524 := rng32 (x3 &&& (192 : Int32))
                        have fc525 : (4 : Int32).toInt = 4 := rfl
                        have fc526 : ((3 : Int32) + (1 : Int32)).toInt = 4 := by decide
                        exact g_retI C X0 rfl d1_206 e0 (by decide) (by decide) ⟨_, rfl, by (simp only [own_seq]; (repeat' split) <;> omega), N0, rfl⟩
                      · skip
                        refine g_icmp_eq_f 194 rfl C X0 d1_191 hb493 ?_
                        refine g_iconst 195 rfl C X0 (0 : Int32) d1_194 rfl ?_
                        have fr527 := rng32 x0
                        have fr528 := rng32 v2
                        have fc529 : (255 : Int32).toInt = 255 := rfl
                        have fo530 : (x0 &&& (255 : Int32)).toInt = x0.toInt % 256 := c_mask x0 (255 : Int32) 8 (by decide) (by decide)
                        have fe531 : (x0 &&& (255 : Int32)).toInt = v2.toInt := congrArg Int32.toInt hv2
                        have fc532 : (128 : Int32).toInt = 128 := rfl
                        have fc533 : (194 : Int32).toInt = 194 := rfl
                        have fc534 : (224 : Int32).toInt = 224 := rfl
                        have fc535 : (240 : Int32).toInt = 240 := rfl
                        have fc536 : (245 : Int32).toInt = 245 := rfl
                        have fr537 := rng32 p2
                        have fr538 := rng32 x1
                        have fr539 := rng32 v442
                        have fo540 : (x1 &&& (255 : Int32)).toInt = x1.toInt % 256 := c_mask x1 (255 : Int32) 8 (by decide) (by decide)
                        have fe541 : (x1 &&& (255 : Int32)).toInt = v442.toInt := congrArg Int32.toInt hv442
                        have fc542 : (144 : Int32).toInt = 144 := rfl
                        have fc543 : (191 : Int32).toInt = 191 := rfl
                        have fr544 := rng32 x2
                        have fc545 : (192 : Int32).toInt = 192 := rfl
                        have fc547 : (63 : Int32).toInt = 63 := rfl
                        have fo548 : (x2 &&& (63 : Int32)).toInt = x2.toInt % 64 := c_mask x2 (63 : Int32) 6 (by decide) (by decide)
                        have fo549 : (x2 &&& (255 : Int32)).toInt = x2.toInt % 256 := c_mask x2 (255 : Int32) 8 (by decide) (by decide)
                        have fo546 := own_blk x2 (192 : Int32) (63 : Int32) (255 : Int32) (by decide) (by decide)
                        have fo550 := c_and x2 (192 : Int32) (by decide)
                        have fr551 := rng32 (x2 &&& (192 : Int32))
                        have fr552 := rng32 x3
                        have fo554 : (x3 &&& (63 : Int32)).toInt = x3.toInt % 64 := c_mask x3 (63 : Int32) 6 (by decide) (by decide)
                        have fo555 : (x3 &&& (255 : Int32)).toInt = x3.toInt % 256 := c_mask x3 (255 : Int32) 8 (by decide) (by decide)
                        have fo553 := own_blk x3 (192 : Int32) (63 : Int32) (255 : Int32) (by decide) (by decide)
                        have fo556 := c_and x3 (192 : Int32) (by decide)
                        have fr557 := rng32 (x3 &&& (192 : Int32))
                        have fc558 : (0 : Int32).toInt = 0 := rfl
                        exact g_retI C X0 rfl d1_195 e0 (by decide) (by decide) ⟨_, rfl, by (simp only [own_seq]; (repeat' split) <;> omega), N0, rfl⟩
                    · skip
                      refine g_icmp_eq_f 194 rfl C X0 d1_191 hb489 ?_
                      refine g_iconst 195 rfl C X0 (0 : Int32) d1_194 rfl ?_
                      have fr559 := rng32 x0
                      have fr560 := rng32 v2
                      have fc561 : (255 : Int32).toInt = 255 := rfl
                      have fo562 : (x0 &&& (255 : Int32)).toInt = x0.toInt % 256 := c_mask x0 (255 : Int32) 8 (by decide) (by decide)
                      have fe563 : (x0 &&& (255 : Int32)).toInt = v2.toInt := congrArg Int32.toInt hv2
                      have fc564 : (128 : Int32).toInt = 128 := rfl
                      have fc565 : (194 : Int32).toInt = 194 := rfl
                      have fc566 : (224 : Int32).toInt = 224 := rfl
                      have fc567 : (240 : Int32).toInt = 240 := rfl
                      have fc568 : (245 : Int32).toInt = 245 := rfl
                      have fc569 : (3 : Int32).toInt = 3 := rfl
                      have fo570 := c_iadd p1 (3 : Int32)
                      have fr571 := rng32 (p1 + (3 : Int32))
                      have fr572 := rng32 p2
                      have fr573 := rng32 x1
                      have fr574 := rng32 v442
                      have fo575 : (x1 &&& (255 : Int32)).toInt = x1.toInt % 256 := c_mask x1 (255 : Int32) 8 (by decide) (by decide)
                      have fe576 : (x1 &&& (255 : Int32)).toInt = v442.toInt := congrArg Int32.toInt hv442
                      have fc577 : (144 : Int32).toInt = 144 := rfl
                      have fc578 : (191 : Int32).toInt = 191 := rfl
                      have fr579 := rng32 x2
                      have fc580 : (192 : Int32).toInt = 192 := rfl
                      have fc582 : (63 : Int32).toInt = 63 := rfl
                      have fo583 : (x2 &&& (63 : Int32)).toInt = x2.toInt % 64 := c_mask x2 (63 : Int32) 6 (by decide) (by decide)
                      have fo584 : (x2 &&& (255 : Int32)).toInt = x2.toInt % 256 := c_mask x2 (255 : Int32) 8 (by decide) (by decide)
                      have fo581 := own_blk x2 (192 : Int32) (63 : Int32) (255 : Int32) (by decide) (by decide)
                      have fo585 := c_and x2 (192 : Int32) (by decide)
                      have fr586 := rng32 (x2 &&& (192 : Int32))
                      have fc587 : (0 : Int32).toInt = 0 := rfl
                      exact g_retI C X0 rfl d1_195 e0 (by decide) (by decide) ⟨_, rfl, by (simp only [own_seq]; (repeat' split) <;> omega), N0, rfl⟩
              · skip
                refine g_icmp_lt_f 139 rfl C X0 d1_136 hb438 ?_
                refine g_iconst 140 rfl C X0 (0 : Int32) d1_139 rfl ?_
                have fr588 := rng32 x0
                have fr589 := rng32 v2
                have fc590 : (255 : Int32).toInt = 255 := rfl
                have fo591 : (x0 &&& (255 : Int32)).toInt = x0.toInt % 256 := c_mask x0 (255 : Int32) 8 (by decide) (by decide)
                have fe592 : (x0 &&& (255 : Int32)).toInt = v2.toInt := congrArg Int32.toInt hv2
                have fc593 : (128 : Int32).toInt = 128 := rfl
                have fc594 : (194 : Int32).toInt = 194 := rfl
                have fc595 : (224 : Int32).toInt = 224 := rfl
                have fc596 : (240 : Int32).toInt = 240 := rfl
                have fc597 : (245 : Int32).toInt = 245 := rfl
                have fc598 : (3 : Int32).toInt = 3 := rfl
                have fo599 := c_iadd p1 (3 : Int32)
                have fr600 := rng32 (p1 + (3 : Int32))
                have fr601 := rng32 p2
                have fc602 : (0 : Int32).toInt = 0 := rfl
                exact g_retI C X0 rfl d1_140 e0 (by decide) (by decide) ⟨_, rfl, by (simp only [own_seq]; (repeat' split) <;> omega), N0, rfl⟩
            · skip
              refine g_icmp_ne_t 114 C X0 d1_103 (by decide) (by decide) hb437 ?_
              refine g_iloadN 115 rfl C X0 d1_114 rfl ?_
              refine g_sipush 118 rfl C X0 (244 : Int32) d1_115 rfl ?_
              by_cases hb603 : v2.toInt = (244 : Int32).toInt
              · skip
                refine g_icmp_ne_f 121 rfl C X0 d1_118 hb603 ?_
                refine g_sipush 124 rfl C X0 (143 : Int32) d1_121 rfl ?_
                refine g_istore 126 rfl C X0 (143 : Int32) rfl #[.val (.ref b0), .val (.int p1), .val (.int p2), .val (.int v2), .val (.int (3 : Int32)), .val (.int (128 : Int32)), .val (.int (143 : Int32)), .unset, .unset] d1_124 rfl ?_
                refine g_goto 131 C X0 d1_126 (by decide) (by decide) ?_
                refine g_iloadN 132 rfl C X0 d1_131 rfl ?_
                refine g_iload 134 rfl C X0 d1_132 rfl ?_
                refine g_iadd 135 rfl C X0 d1_134 ?_
                refine g_iloadN 136 rfl C X0 d1_135 rfl ?_
                by_cases hb604 : (p1 + (3 : Int32)).toInt < p2.toInt
                · skip
                  refine g_icmp_lt_t 141 C X0 d1_136 (by decide) (by decide) hb604 ?_
                  refine g_aloadN 142 rfl C X0 d1_141 rfl rfl ?_
                  refine g_iloadN 143 rfl C X0 d1_142 rfl ?_
                  refine g_iconst 144 rfl C X0 (1 : Int32) d1_143 rfl ?_
                  refine g_iadd 145 rfl C X0 d1_144 ?_
                  have fc605 : (1 : Int32).toInt = 1 := rfl
                  have fo606 := c_iadd p1 (1 : Int32)
                  have fr607 := rng32 (p1 + (1 : Int32))
                  refine g_baload 146 rfl C X0 e0 B_b0 (n + 1) (by omega) (by omega) x1 hx1 d1_145 ?_
                  refine g_sipush 149 rfl C X0 (255 : Int32) d1_146 rfl ?_
                  refine g_iand 150 rfl C X0 d1_149 ?_
                  obtain ⟨v608, hv608⟩ : ∃ z : Int32, (x1 &&& (255 : Int32)) = z := ⟨_, rfl⟩
                  refine g_istore 152 rfl C X0 v608 hv608 #[.val (.ref b0), .val (.int p1), .val (.int p2), .val (.int v2), .val (.int (3 : Int32)), .val (.int (128 : Int32)), .val (.int (143 : Int32)), .val (.int v608), .unset] d1_150 rfl ?_
                  refine g_iload 154 rfl C X0 d1_152 rfl ?_
                  refine g_iload 156 rfl C X0 d1_154 rfl ?_
                  by_cases hb609 : v608.toInt < (128 : Int32).toInt
                  · skip
                    refine g_icmp_lt_t 166 C X0 d1_156 (by decide) (by decide) hb609 ?_
                    refine g_iconst 167 rfl C X0 (0 : Int32) d1_166 rfl ?_
                    have fr610 := rng32 x0
                    have fr611 := rng32 v2
                    have fc612 : (255 : Int32).toInt = 255 := rfl
                    have fo613 : (x0 &&& (255 : Int32)).toInt = x0.toInt % 256 := c_mask x0 (255 : Int32) 8 (by decide) (by decide)
                    have fe614 : (x0 &&& (255 : Int32)).toInt = v2.toInt := congrArg Int32.toInt hv2
                    have fc615 : (128 : Int32).toInt = 128 := rfl
                    have fc616 : (194 : Int32).toInt = 194 := rfl
                    have fc617 : (224 : Int32).toInt = 224 := rfl
                    have fc618 : (240 : Int32).toInt = 240 := rfl
                    have fc619 : (245 : Int32).toInt = 245 := rfl
                    have fc620 : (244 : Int32).toInt = 244 := rfl
                    have fc621 : (3 : Int32).toInt = 3 := rfl
                    have fo622 := c_iadd p1 (3 : Int32)
                    have fr623 := rng32 (p1 + (3 : Int32))
                    have fr624 := rng32 p2
                    have fr625 := rng32 x1
                    have fr626 := rng32 v608
                    have fo627 : (x1 &&& (255 : Int32)).toInt = x1.toInt % 256 := c_mask x1 (255 : Int32) 8 (by decide) (by decide)
                    have fe628 : (x1 &&& (255 : Int32)).toInt = v608.toInt := congrArg Int32.toInt hv608
                    have fc629 : (0 : Int32).toInt = 0 := rfl
                    exact g_retI C X0 rfl d1_167 e0 (by decide) (by decide) ⟨_, rfl, by (simp only [own_seq]; (repeat' split) <;> omega), N0, rfl⟩
                  · skip
                    refine g_icmp_lt_f 159 rfl C X0 d1_156 hb609 ?_
                    refine g_iload 161 rfl C X0 d1_159 rfl ?_
                    refine g_iload 163 rfl C X0 d1_161 rfl ?_
                    by_cases hb630 : (143 : Int32).toInt < v608.toInt
                    · skip
                      refine g_icmp_le_f 166 rfl C X0 d1_163 hb630 ?_
                      refine g_iconst 167 rfl C X0 (0 : Int32) d1_166 rfl ?_
                      have fr631 := rng32 x0
                      have fr632 := rng32 v2
                      have fc633 : (255 : Int32).toInt = 255 := rfl
                      have fo634 : (x0 &&& (255 : Int32)).toInt = x0.toInt % 256 := c_mask x0 (255 : Int32) 8 (by decide) (by decide)
                      have fe635 : (x0 &&& (255 : Int32)).toInt = v2.toInt := congrArg Int32.toInt hv2
                      have fc636 : (128 : Int32).toInt = 128 := rfl
                      have fc637 : (194 : Int32).toInt = 194 := rfl
                      have fc638 : (224 : Int32).toInt = 224 := rfl
                      have fc639 : (240 : Int32).toInt = 240 := rfl
                      have fc640 : (245 : Int32).toInt = 245 := rfl
                      have fc641 : (244 : Int32).toInt = 244 := rfl
                      have fc642 : (3 : Int32).toInt = 3 := rfl
                      have fo643 := c_iadd p1 (3 : Int32)
                      have fr644 := rng32 (p1 + (3 : Int32))
                      have fr645 := rng32 p2
                      have fr646 := rng32 x1
                      have fr647 := rng32 v608
                      have fo648 : (x1 &&& (255 : Int32)).toInt = x1.toInt % 256 := c_mask x1 (255 : Int32) 8 (by decide) (by decide)
                      have fe649 : (x1 &&& (255 : Int32)).toInt = v608.toInt := congrArg Int32.toInt hv608
                      have fc650 : (143 : Int32).toInt = 143 := rfl
                      have fc651 : (0 : Int32).toInt = 0 := rfl
                      exact g_retI C X0 rfl d1_167 e0 (by decide) (by decide) ⟨_, rfl, by (simp only [own_seq]; (repeat' split) <;> omega), N0, rfl⟩
                    · skip
                      refine g_icmp_le_t 168 C X0 d1_163 (by decide) (by decide) hb630 ?_
                      refine g_iconst 169 rfl C X0 (2 : Int32) d1_168 rfl ?_
                      refine g_istore 171 rfl C X0 (2 : Int32) rfl #[.val (.ref b0), .val (.int p1), .val (.int p2), .val (.int v2), .val (.int (3 : Int32)), .val (.int (128 : Int32)), .val (.int (143 : Int32)), .val (.int v608), .val (.int (2 : Int32))] d1_169 rfl ?_
                      refine g_iload 173 rfl C X0 d1_171 rfl ?_
                      refine g_iload 175 rfl C X0 d1_173 rfl ?_
                      refine g_icmp_gt_f 178 rfl C X0 d1_175 (by decide) ?_
                      refine g_aloadN 179 rfl C X0 d1_178 rfl rfl ?_
                      refine g_iloadN 180 rfl C X0 d1_179 rfl ?_
                      refine g_iload 182 rfl C X0 d1_180 rfl ?_
                      refine g_iadd 183 rfl C X0 d1_182 ?_
                      have fc652 : (2 : Int32).toInt = 2 := rfl
                      have fo653 := c_iadd p1 (2 : Int32)
                      have fr654 := rng32 (p1 + (2 : Int32))
                      refine g_baload 184 rfl C X0 e0 B_b0 (n + 2) (by omega) (by omega) x2 hx2 d1_183 ?_
                      refine g_sipush 187 rfl C X0 (192 : Int32) d1_184 rfl ?_
                      refine g_iand 188 rfl C X0 d1_187 ?_
                      refine g_sipush 191 rfl C X0 (128 : Int32) d1_188 rfl ?_
                      by_cases hb655 : (x2 &&& (192 : Int32)).toInt = (128 : Int32).toInt
                      · skip
                        refine g_icmp_eq_t 196 C X0 d1_191 (by decide) (by decide) hb655 ?_
                        refine g_iinc 199 rfl C X0 (1 : Int32) (3 : Int32) #[.val (.ref b0), .val (.int p1), .val (.int p2), .val (.int v2), .val (.int (3 : Int32)), .val (.int (128 : Int32)), .val (.int (143 : Int32)), .val (.int v608), .val (.int (3 : Int32))] d1_196 rfl rfl (by decide) rfl ?_
                        refine g_goto 171 C X0 d1_199 (by decide) (by decide) ?_
                        refine g_iload 173 rfl C X0 d1_171 rfl ?_
                        refine g_iload 175 rfl C X0 d1_173 rfl ?_
                        refine g_icmp_gt_f 178 rfl C X0 d1_175 (by decide) ?_
                        refine g_aloadN 179 rfl C X0 d1_178 rfl rfl ?_
                        refine g_iloadN 180 rfl C X0 d1_179 rfl ?_
                        refine g_iload 182 rfl C X0 d1_180 rfl ?_
                        refine g_iadd 183 rfl C X0 d1_182 ?_
                        have fc656 : (3 : Int32).toInt = 3 := rfl
                        have fo657 := c_iadd p1 (3 : Int32)
                        have fr658 := rng32 (p1 + (3 : Int32))
                        refine g_baload 184 rfl C X0 e0 B_b0 (n + 3) (by omega) (by omega) x3 hx3 d1_183 ?_
                        refine g_sipush 187 rfl C X0 (192 : Int32) d1_184 rfl ?_
                        refine g_iand 188 rfl C X0 d1_187 ?_
                        refine g_sipush 191 rfl C X0 (128 : Int32) d1_188 rfl ?_
                        by_cases hb659 : (x3 &&& (192 : Int32)).toInt = (128 : Int32).toInt
                        · skip
                          refine g_icmp_eq_t 196 C X0 d1_191 (by decide) (by decide) hb659 ?_
                          refine g_iinc 199 rfl C X0 (1 : Int32) (4 : Int32) #[.val (.ref b0), .val (.int p1), .val (.int p2), .val (.int v2), .val (.int (3 : Int32)), .val (.int (128 : Int32)), .val (.int (143 : Int32)), .val (.int v608), .val (.int (4 : Int32))] d1_196 rfl rfl (by decide) rfl ?_
                          refine g_goto 171 C X0 d1_199 (by decide) (by decide) ?_
                          refine g_iload 173 rfl C X0 d1_171 rfl ?_
                          refine g_iload 175 rfl C X0 d1_173 rfl ?_
                          refine g_icmp_gt_t 202 C X0 d1_175 (by decide) (by decide) (by decide) ?_
                          refine g_iload 204 rfl C X0 d1_202 rfl ?_
                          refine g_iconst 205 rfl C X0 (1 : Int32) d1_204 rfl ?_
                          refine g_iadd 206 rfl C X0 d1_205 ?_
                          have fr660 := rng32 x0
                          have fr661 := rng32 v2
                          have fc662 : (255 : Int32).toInt = 255 := rfl
                          have fo663 : (x0 &&& (255 : Int32)).toInt = x0.toInt % 256 := c_mask x0 (255 : Int32) 8 (by decide) (by decide)
                          have fe664 : (x0 &&& (255 : Int32)).toInt = v2.toInt := congrArg Int32.toInt hv2
                          have fc665 : (128 : Int32).toInt = 128 := rfl
                          have fc666 : (194 : Int32).toInt = 194 := rfl
                          have fc667 : (224 : Int32).toInt = 224 := rfl
                          have fc668 : (240 : Int32).toInt = 240 := rfl
                          have fc669 : (245 : Int32).toInt = 245 := rfl
                          have fc670 : (244 : Int32).toInt = 244 := rfl
                          have fr671 := rng32 p2
                          have fr672 := rng32 x1
                          have fr673 := rng32 v608
                          have fo674 : (x1 &&& (255 : Int32)).toInt = x1.toInt % 256 := c_mask x1 (255 : Int32) 8 (by decide) (by decide)
                          have fe675 : (x1 &&& (255 : Int32)).toInt = v608.toInt := congrArg Int32.toInt hv608
                          have fc676 : (143 : Int32).toInt = 143 := rfl
                          have fr677 := rng32 x2
                          have fc678 : (192 : Int32).toInt = 192 := rfl
                          have fc680 : (63 : Int32).toInt = 63 := rfl
                          have fo681 : (x2 &&& (63 : Int32)).toInt = x2.toInt % 64 := c_mask x2 (63 : Int32) 6 (by decide) (by decide)
                          have fo682 : (x2 &&& (255 : Int32)).toInt = x2.toInt % 256 := c_mask x2 (255 : Int32) 8 (by decide) (by decide)
                          have fo679 := own_blk x2 (192 : Int32) (63 : Int32) (255 : Int32) (by decide) (by decide)
                          have fo683 := c_and x2 (192 : Int32) (by decide)
                          have fr684 := rng32 (x2 &&& (192 : Int32))
                          have fr685 := rng32 x3
                          have fo687 : (x3 &&& (63 : Int32)).toInt = x3.toInt % 64 := c_mask x3 (63 : Int32) 6 (by decide) (by decide)
                          have fo688 : (x3 &&& (255 : Int32)).toInt = x3.toInt % 256 := c_mask x3 (255 : Int32) 8 (by decide) (by decide)
                          have fo686 := own_blk x3 (192 : Int32) (63 : Int32) (255 : Int32) (by decide) (by decide)
                          have fo689 := c_and x3 (192 : Int32) (by decide)
                          have fr690 := rng32 (x3 &&& (192 : Int32))
                          have fc691 : (4 : Int32).toInt = 4 := rfl
                          have fc692 : ((3 : Int32) + (1 : Int32)).toInt = 4 := by decide
                          exact g_retI C X0 rfl d1_206 e0 (by decide) (by decide) ⟨_, rfl, by (simp only [own_seq]; (repeat' split) <;> omega), N0, rfl⟩
                        · skip
                          refine g_icmp_eq_f 194 rfl C X0 d1_191 hb659 ?_
                          refine g_iconst 195 rfl C X0 (0 : Int32) d1_194 rfl ?_
                          have fr693 := rng32 x0
                          have fr694 := rng32 v2
                          have fc695 : (255 : Int32).toInt = 255 := rfl
                          have fo696 : (x0 &&& (255 : Int32)).toInt = x0.toInt % 256 := c_mask x0 (255 : Int32) 8 (by decide) (by decide)
                          have fe697 : (x0 &&& (255 : Int32)).toInt = v2.toInt := congrArg Int32.toInt hv2
                          have fc698 : (128 : Int32).toInt = 128 := rfl
                          have fc699 : (194 : Int32).toInt = 194 := rfl
                          have fc700 : (224 : Int32).toInt = 224 := rfl
                          have fc701 : (240 : Int32).toInt = 240 := rfl
                          have fc702 : (245 : Int32).toInt = 245 := rfl
                          have fc703 : (244 : Int32).toInt = 244 := rfl
                          have fr704 := rng32 p2
                          have fr705 := rng32 x1
                          have fr706 := rng32 v608
                          have fo707 : (x1 &&& (255 : Int32)).toInt = x1.toInt % 256 := c_mask x1 (255 : Int32) 8 (by decide) (by decide)
                          have fe708 : (x1 &&& (255 : Int32)).toInt = v608.toInt := congrArg Int32.toInt hv608
                          have fc709 : (143 : Int32).toInt = 143 := rfl
                          have fr710 := rng32 x2
                          have fc711 : (192 : Int32).toInt = 192 := rfl
                          have fc713 : (63 : Int32).toInt = 63 := rfl
                          have fo714 : (x2 &&& (63 : Int32)).toInt = x2.toInt % 64 := c_mask x2 (63 : Int32) 6 (by decide) (by decide)
                          have fo715 : (x2 &&& (255 : Int32)).toInt = x2.toInt % 256 := c_mask x2 (255 : Int32) 8 (by decide) (by decide)
                          have fo712 := own_blk x2 (192 : Int32) (63 : Int32) (255 : Int32) (by decide) (by decide)
                          have fo716 := c_and x2 (192 : Int32) (by decide)
                          have fr717 := rng32 (x2 &&& (192 : Int32))
                          have fr718 := rng32 x3
                          have fo720 : (x3 &&& (63 : Int32)).toInt = x3.toInt % 64 := c_mask x3 (63 : Int32) 6 (by decide) (by decide)
                          have fo721 : (x3 &&& (255 : Int32)).toInt = x3.toInt % 256 := c_mask x3 (255 : Int32) 8 (by decide) (by decide)
                          have fo719 := own_blk x3 (192 : Int32) (63 : Int32) (255 : Int32) (by decide) (by decide)
                          have fo722 := c_and x3 (192 : Int32) (by decide)
                          have fr723 := rng32 (x3 &&& (192 : Int32))
                          have fc724 : (0 : Int32).toInt = 0 := rfl
                          exact g_retI C X0 rfl d1_195 e0 (by decide) (by decide) ⟨_, rfl, by (simp only [own_seq]; (repeat' split) <;> omega), N0, rfl⟩
                      · skip
                        refine g_icmp_eq_f 194 rfl C X0 d1_191 hb655 ?_
                        refine g_iconst 195 rfl C X0 (0 : Int32) d1_194 rfl ?_
                        have fr725 := rng32 x0
                        have fr726 := rng32 v2
                        have fc727 : (255 : Int32).toInt = 255 := rfl
                        have fo728 : (x0 &&& (255 : Int32)).toInt = x0.toInt % 256 := c_mask x0 (255 : Int32) 8 (by decide) (by decide)
                        have fe729 : (x0 &&& (255 : Int32)).toInt = v2.toInt := congrArg Int32.toInt hv2
                        have fc730 : (128 : Int32).toInt = 128 := rfl
                        have fc731 : (194 : Int32).toInt = 194 := rfl
                        have fc732 : (224 : Int32).toInt = 224 := rfl
                        have fc733 : (240 : Int32).toInt = 240 := rfl
                        have fc734 : (245 : Int32).toInt = 245 := rfl
                        have fc735 : (244 : Int32).toInt = 244 := rfl
                        have fc736 : (3 : Int32).toInt = 3 := rfl
                        have fo737 := c_iadd p1 (3 : Int32)
                        have fr738 := rng32 (p1 + (3 : Int32))
                        have fr739 := rng32 p2
                        have fr740 := rng32 x1
                        have fr741 := rng32 v608
                        have fo742 : (x1 &&& (255 : Int32)).toInt = x1.toInt % 256 := c_mask x1 (255 : Int32) 8 (by decide) (by decide)
                        have fe743 : (x1 &&& (255 : Int32)).toInt = v608.toInt := congrArg Int32.toInt hv608
                        have fc744 : (143 : Int32).toInt = 143 := rfl
                        have fr745 := rng32 x2
                        have fc746 : (192 : Int32).toInt = 192 := rfl
                        have fc748 : (63 : Int32).toInt = 63 := rfl
                        have fo749 : (x2 &&& (63 : Int32)).toInt = x2.toInt % 64 := c_mask x2 (63 : Int32) 6 (by decide) (by decide)
                        have fo750 : (x2 &&& (255 : Int32)).toInt = x2.toInt % 256 := c_mask x2 (255 : Int32) 8 (by decide) (by decide)
                        have fo747 := own_blk x2 (192 : Int32) (63 : Int32) (255 : Int32) (by decide) (by decide)
                        have fo751 := c_and x2 (192 : Int32) (by decide)
                        have fr752 := rng32 (x2 &&& (192 : Int32))
                        have fc753 : (0 : Int32).toInt = 0 := rfl
                        exact g_retI C X0 rfl d1_195 e0 (by decide) (by decide) ⟨_, rfl, by (simp only [own_seq]; (repeat' split) <;> omega), N0, rfl⟩
                · skip
                  refine g_icmp_lt_f 139 rfl C X0 d1_136 hb604 ?_
                  refine g_iconst 140 rfl C X0 (0 : Int32) d1_139 rfl ?_
                  have fr754 := rng32 x0
                  have fr755 := rng32 v2
                  have fc756 : (255 : Int32).toInt = 255 := rfl
                  have fo757 : (x0 &&& (255 : Int32)).toInt = x0.toInt % 256 := c_mask x0 (255 : Int32) 8 (by decide) (by decide)
                  have fe758 : (x0 &&& (255 : Int32)).toInt = v2.toInt := congrArg Int32.toInt hv2
                  have fc759 : (128 : Int32).toInt = 128 := rfl
                  have fc760 : (194 : Int32).toInt = 194 := rfl
                  have fc761 : (224 : Int32).toInt = 224 := rfl
                  have fc762 : (240 : Int32).toInt = 240 := rfl
                  have fc763 : (245 : Int32).toInt = 245 := rfl
                  have fc764 : (244 : Int32).toInt = 244 := rfl
                  have fc765 : (3 : Int32).toInt = 3 := rfl
                  have fo766 := c_iadd p1 (3 : Int32)
                  have fr767 := rng32 (p1 + (3 : Int32))
                  have fr768 := rng32 p2
                  have fc769 : (0 : Int32).toInt = 0 := rfl
                  exact g_retI C X0 rfl d1_140 e0 (by decide) (by decide) ⟨_, rfl, by (simp only [own_seq]; (repeat' split) <;> omega), N0, rfl⟩
              · skip
                refine g_icmp_ne_t 131 C X0 d1_118 (by decide) (by decide) hb603 ?_
                refine g_iloadN 132 rfl C X0 d1_131 rfl ?_
                refine g_iload 134 rfl C X0 d1_132 rfl ?_
                refine g_iadd 135 rfl C X0 d1_134 ?_
                refine g_iloadN 136 rfl C X0 d1_135 rfl ?_
                by_cases hb770 : (p1 + (3 : Int32)).toInt < p2.toInt
                · skip
                  refine g_icmp_lt_t 141 C X0 d1_136 (by decide) (by decide) hb770 ?_
                  refine g_aloadN 142 rfl C X0 d1_141 rfl rfl ?_
                  refine g_iloadN 143 rfl C X0 d1_142 rfl ?_
                  refine g_iconst 144 rfl C X0 (1 : Int32) d1_143 rfl ?_
                  refine g_iadd 145 rfl C X0 d1_144 ?_
                  have fc771 : (1 : Int32).toInt = 1 := rfl
                  have fo772 := c_iadd p1 (1 : Int32)
                  have fr773 := rng32 (p1 + (1 : Int32))
                  refine g_baload 146 rfl C X0 e0 B_b0 (n + 1) (by omega) (by omega) x1 hx1 d1_145 ?_
                  refine g_sipush 149 rfl C X0 (255 : Int32) d1_146 rfl ?_
                  refine g_iand 150 rfl C X0 d1_149 ?_
                  obtain ⟨v774, hv774⟩ : ∃ z : Int32, (x1 &&& (255 : Int32)) = z := ⟨_, rfl⟩
                  refine g_istore 152 rfl C X0 v774 hv774 #[.val (.ref b0), .val (.int p1), .val (.int p2), .val (.int v2), .val (.int (3 : Int32)), .val (.int (128 : Int32)), .val (.int (191 : Int32)), .val (.int v774), .unset] d1_150 rfl ?_
                  refine g_iload 154 rfl C X0 d1_152 rfl ?_
                  refine g_iload 156 rfl C X0 d1_154 rfl ?_
                  by_cases hb775 : v774.toInt < (128 : Int32).toInt
                  · skip
                    refine g_icmp_lt_t 166 C X0 d1_156 (by decide) (by decide) hb775 ?_
                    refine g_iconst 167 rfl C X0 (0 : Int32) d1_166 rfl ?_
                    have fr776 := rng32 x0
                    have fr777 := rng32 v2
                    have fc778 : (255 : Int32).toInt = 255 := rfl
                    have fo779 : (x0 &&& (255 : Int32)).toInt = x0.toInt % 256 := c_mask x0 (255 : Int32) 8 (by decide) (by decide)
                    have fe780 : (x0 &&& (255 : Int32)).toInt = v2.toInt := congrArg Int32.toInt hv2
                    have fc781 : (128 : Int32).toInt = 128 := rfl
                    have fc782 : (194 : Int32).toInt = 194 := rfl
                    have fc783 : (224 : Int32).toInt = 224 := rfl
                    have fc784 : (240 : Int32).toInt = 240 := rfl
                    have fc785 : (245 : Int32).toInt = 245 := rfl
                    have fc786 : (244 : Int32).toInt = 244 := rfl
                    have fc787 : (3 : Int32).toInt = 3 := rfl
                    have fo788 := c_iadd p1 (3 : Int32)
                    have fr789 := rng32 (p1 + (3 : Int32))
                    have fr790 := rng32 p2
                    have fr791 := rng32 x1
                    have fr792 := rng32 v774
                    have fo793 : (x1 &&& (255 : Int32)).toInt = x1.toInt % 256 := c_mask x1 (255 : Int32) 8 (by decide) (by decide)
                    have fe794 : (x1 &&& (255 : Int32)).toInt = v774.toInt := congrArg Int32.toInt hv774
                    have fc795 : (0 : Int32).toInt = 0 := rfl
                    exact g_retI C X0 rfl d1_167 e0 (by decide) (by decide) ⟨_, rfl, by (simp only [own_seq]; (repeat' split) <;> omega), N0, rfl⟩
                  · skip
                    refine g_icmp_lt_f 159 rfl C X0 d1_156 hb775 ?_
                    refine g_iload 161 rfl C X0 d1_159 rfl ?_
                    refine g_iload 163 rfl C X0 d1_161 rfl ?_
                    by_cases hb796 : (191 : Int32).toInt < v774.toInt
                    · skip
                      refine g_icmp_le_f 166 rfl C X0 d1_163 hb796 ?_
                      refine g_iconst 167 rfl C X0 (0 : Int32) d1_166 rfl ?_
                      have fr797 := rng32 x0
                      have fr798 := rng32 v2
                      have fc799 : (255 : Int32).toInt = 255 := rfl
                      have fo800 : (x0 &&& (255 : Int32)).toInt = x0.toInt % 256 := c_mask x0 (255 : Int32) 8 (by decide) (by decide)
                      have fe801 : (x0 &&& (255 : Int32)).toInt = v2.toInt := congrArg Int32.toInt hv2
                      have fc802 : (128 : Int32).toInt = 128 := rfl
                      have fc803 : (194 : Int32).toInt = 194 := rfl
                      have fc804 : (224 : Int32).toInt = 224 := rfl
                      have fc805 : (240 : Int32).toInt = 240 := rfl
                      have fc806 : (245 : Int32).toInt = 245 := rfl
                      have fc807 : (244 : Int32).toInt = 244 := rfl
                      have fc808 : (3 : Int32).toInt = 3 := rfl
                      have fo809 := c_iadd p1 (3 : Int32)
                      have fr810 := rng32 (p1 + (3 : Int32))
                      have fr811 := rng32 p2
                      have fr812 := rng32 x1
                      have fr813 := rng32 v774
                      have fo814 : (x1 &&& (255 : Int32)).toInt = x1.toInt % 256 := c_mask x1 (255 : Int32) 8 (by decide) (by decide)
                      have fe815 : (x1 &&& (255 : Int32)).toInt = v774.toInt := congrArg Int32.toInt hv774
                      have fc816 : (191 : Int32).toInt = 191 := rfl
                      have fc817 : (0 : Int32).toInt = 0 := rfl
                      exact g_retI C X0 rfl d1_167 e0 (by decide) (by decide) ⟨_, rfl, by (simp only [own_seq]; (repeat' split) <;> omega), N0, rfl⟩
                    · skip
                      refine g_icmp_le_t 168 C X0 d1_163 (by decide) (by decide) hb796 ?_
                      refine g_iconst 169 rfl C X0 (2 : Int32) d1_168 rfl ?_
                      refine g_istore 171 rfl C X0 (2 : Int32) rfl #[.val (.ref b0), .val (.int p1), .val (.int p2), .val (.int v2), .val (.int (3 : Int32)), .val (.int (128 : Int32)), .val (.int (191 : Int32)), .val (.int v774), .val (.int (2 : Int32))] d1_169 rfl ?_
                      refine g_iload 173 rfl C X0 d1_171 rfl ?_
                      refine g_iload 175 rfl C X0 d1_173 rfl ?_
                      refine g_icmp_gt_f 178 rfl C X0 d1_175 (by decide) ?_
                      refine g_aloadN 179 rfl C X0 d1_178 rfl rfl ?_
                      refine g_iloadN 180 rfl C X0 d1_179 rfl ?_
                      refine g_iload 182 rfl C X0 d1_180 rfl ?_
                      refine g_iadd 183 rfl C X0 d1_182 ?_
                      have fc818 : (2 : Int32).toInt = 2 := rfl
                      have fo819 := c_iadd p1 (2 : Int32)
                      have fr820 := rng32 (p1 + (2 : Int32))
                      refine g_baload 184 rfl C X0 e0 B_b0 (n + 2) (by omega) (by omega) x2 hx2 d1_183 ?_
                      refine g_sipush 187 rfl C X0 (192 : Int32) d1_184 rfl ?_
                      refine g_iand 188 rfl C X0 d1_187 ?_
                      refine g_sipush 191 rfl C X0 (128 : Int32) d1_188 rfl ?_
                      by_cases hb821 : (x2 &&& (192 : Int32)).toInt = (128 : Int32).toInt
                      · skip
                        refine g_icmp_eq_t 196 C X0 d1_191 (by decide) (by decide) hb821 ?_
                        refine g_iinc 199 rfl C X0 (1 : Int32) (3 : Int32) #[.val (.ref b0), .val (.int p1), .val (.int p2), .val (.int v2), .val (.int (3 : Int32)), .val (.int (128 : Int32)), .val (.int (191 : Int32)), .val (.int v774), .val (.int (3 : Int32))] d1_196 rfl rfl (by decide) rfl ?_
                        refine g_goto 171 C X0 d1_199 (by decide) (by decide) ?_
                        refine g_iload 173 rfl C X0 d1_171 rfl ?_
                        refine g_iload 175 rfl C X0 d1_173 rfl ?_
                        refine g_icmp_gt_f 178 rfl C X0 d1_175 (by decide) ?_
                        refine g_aloadN 179 rfl C X0 d1_178 rfl rfl ?_
                        refine g_iloadN 180 rfl C X0 d1_179 rfl ?_
                        refine g_iload 182 rfl C X0 d1_180 rfl ?_
                        refine g_iadd 183 rfl C X0 d1_182 ?_
                        have fc822 : (3 : Int32).toInt = 3 := rfl
                        have fo823 := c_iadd p1 (3 : Int32)
                        have fr824 := rng32 (p1 + (3 : Int32))
                        refine g_baload 184 rfl C X0 e0 B_b0 (n + 3) (by omega) (by omega) x3 hx3 d1_183 ?_
                        refine g_sipush 187 rfl C X0 (192 : Int32) d1_184 rfl ?_
                        refine g_iand 188 rfl C X0 d1_187 ?_
                        refine g_sipush 191 rfl C X0 (128 : Int32) d1_188 rfl ?_
                        by_cases hb825 : (x3 &&& (192 : Int32)).toInt = (128 : Int32).toInt
                        · skip
                          refine g_icmp_eq_t 196 C X0 d1_191 (by decide) (by decide) hb825 ?_
                          refine g_iinc 199 rfl C X0 (1 : Int32) (4 : Int32) #[.val (.ref b0), .val (.int p1), .val (.int p2), .val (.int v2), .val (.int (3 : Int32)), .val (.int (128 : Int32)), .val (.int (191 : Int32)), .val (.int v774), .val (.int (4 : Int32))] d1_196 rfl rfl (by decide) rfl ?_
                          refine g_goto 171 C X0 d1_199 (by decide) (by decide) ?_
                          refine g_iload 173 rfl C X0 d1_171 rfl ?_
                          refine g_iload 175 rfl C X0 d1_173 rfl ?_
                          refine g_icmp_gt_t 202 C X0 d1_175 (by decide) (by decide) (by decide) ?_
                          refine g_iload 204 rfl C X0 d1_202 rfl ?_
                          refine g_iconst 205 rfl C X0 (1 : Int32) d1_204 rfl ?_
                          refine g_iadd 206 rfl C X0 d1_205 ?_
                          have fr826 := rng32 x0
                          have fr827 := rng32 v2
                          have fc828 : (255 : Int32).toInt = 255 := rfl
                          have fo829 : (x0 &&& (255 : Int32)).toInt = x0.toInt % 256 := c_mask x0 (255 : Int32) 8 (by decide) (by decide)
                          have fe830 : (x0 &&& (255 : Int32)).toInt = v2.toInt := congrArg Int32.toInt hv2
                          have fc831 : (128 : Int32).toInt = 128 := rfl
                          have fc832 : (194 : Int32).toInt = 194 := rfl
                          have fc833 : (224 : Int32).toInt = 224 := rfl
                          have fc834 : (240 : Int32).toInt = 240 := rfl
                          have fc835 : (245 : Int32).toInt = 245 := rfl
                          have fc836 : (244 : Int32).toInt = 244 := rfl
                          have fr837 := rng32 p2
                          have fr838 := rng32 x1
                          have fr839 := rng32 v774
                          have fo840 : (x1 &&& (255 : Int32)).toInt = x1.toInt % 256 := c_mask x1 (255 : Int32) 8 (by decide) (by decide)
                          have fe841 : (x1 &&& (255 : Int32)).toInt = v774.toInt := congrArg Int32.toInt hv774
                          have fc842 : (191 : Int32).toInt = 191 := rfl
                          have fr843 := rng32 x2
                          have fc844 : (192 : Int32).toInt = 192 := rfl
                          have fc846 : (63 : Int32).toInt = 63 := rfl
                          have fo847 : (x2 &&& (63 : Int32)).toInt = x2.toInt % 64 := c_mask x2 (63 : Int32) 6 (by decide) (by decide)
                          have fo848 : (x2 &&& (255 : Int32)).toInt = x2.toInt % 256 := c_mask x2 (255 : Int32) 8 (by decide) (by decide)
                          have fo845 := own_blk x2 (192 : Int32) (63 : Int32) (255 : Int32) (by decide) (by decide)
                          have fo849 := c_and x2 (192 : Int32) (by decide)
                          have fr850 := rng32 (x2 &&& (192 : Int32))
                          have fr851 := rng32 x3
                          have fo853 : (x3 &&& (63 : Int32)).toInt = x3.toInt % 64 := c_mask x3 (63 : Int32) 6 (by decide) (by decide)
                          have fo854 : (x3 &&& (255 : Int32)).toInt = x3.toInt % 256 := c_mask x3 (255 : Int32) 8 (by decide) (by decide)
                          have fo852 := own_blk x3 (192 : Int32) (63 : Int32) (255 : Int32) (by decide) (by decide)
                          have fo855 := c_and x3 (192 : Int32) (by decide)
                          have fr856 := rng32 (x3 &&& (192 : Int32))
                          have fc857 : (4 : Int32).toInt = 4 := rfl
                          have fc858 : ((3 : Int32) + (1 : Int32)).toInt = 4 := by decide
                          exact g_retI C X0 rfl d1_206 e0 (by decide) (by decide) ⟨_, rfl, by (simp only [own_seq]; (repeat' split) <;> omega), N0, rfl⟩
                        · skip
                          refine g_icmp_eq_f 194 rfl C X0 d1_191 hb825 ?_
                          refine g_iconst 195 rfl C X0 (0 : Int32) d1_194 rfl ?_
                          have fr859 := rng32 x0
                          have fr860 := rng32 v2
                          have fc861 : (255 : Int32).toInt = 255 := rfl
                          have fo862 : (x0 &&& (255 : Int32)).toInt = x0.toInt % 256 := c_mask x0 (255 : Int32) 8 (by decide) (by decide)
                          have fe863 : (x0 &&& (255 : Int32)).toInt = v2.toInt := congrArg Int32.toInt hv2
                          have fc864 : (128 : Int32).toInt = 128 := rfl
                          have fc865 : (194 : Int32).toInt = 194 := rfl
                          have fc866 : (224 : Int32).toInt = 224 := rfl
                          have fc867 : (240 : Int32).toInt = 240 := rfl
                          have fc868 : (245 : Int32).toInt = 245 := rfl
                          have fc869 : (244 : Int32).toInt = 244 := rfl
                          have fr870 := rng32 p2
                          have fr871 := rng32 x1
                          have fr872 := rng32 v774
                          have fo873 : (x1 &&& (255 : Int32)).toInt = x1.toInt % 256 := c_mask x1 (255 : Int32) 8 (by decide) (by decide)
                          have fe874 : (x1 &&& (255 : Int32)).toInt = v774.toInt := congrArg Int32.toInt hv774
                          have fc875 : (191 : Int32).toInt = 191 := rfl
                          have fr876 := rng32 x2
                          have fc877 : (192 : Int32).toInt = 192 := rfl
                          have fc879 : (63 : Int32).toInt = 63 := rfl
                          have fo880 : (x2 &&& (63 : Int32)).toInt = x2.toInt % 64 := c_mask x2 (63 : Int32) 6 (by decide) (by decide)
                          have fo881 : (x2 &&& (255 : Int32)).toInt = x2.toInt % 256 := c_mask x2 (255 : Int32) 8 (by decide) (by decide)
                          have fo878 := own_blk x2 (192 : Int32) (63 : Int32) (255 : Int32) (by decide) (by decide)
                          have fo882 := c_and x2 (192 : Int32) (by decide)
                          have fr883 := rng32 (x2 &&& (192 : Int32))
                          have fr884 := rng32 x3
                          have fo886 : (x3 &&& (63 : Int32)).toInt = x3.toInt % 64 := c_mask x3 (63 : Int32) 6 (by decide) (by decide)
                          have fo887 : (x3 &&& (255 : Int32)).toInt = x3.toInt % 256 := c_mask x3 (255 : Int32) 8 (by decide) (by decide)
                          have fo885 := own_blk x3 (192 : Int32) (63 : Int32) (255 : Int32) (by decide) (by decide)
                          have fo888 := c_and x3 (192 : Int32) (by decide)
                          have fr889 := rng32 (x3 &&& (192 : Int32))
                          have fc890 : (0 : Int32).toInt = 0 := rfl
                          exact g_retI C X0 rfl d1_195 e0 (by decide) (by decide) ⟨_, rfl, by (simp only [own_seq]; (repeat' split) <;> omega), N0, rfl⟩
                      · skip
                        refine g_icmp_eq_f 194 rfl C X0 d1_191 hb821 ?_
                        refine g_iconst 195 rfl C X0 (0 : Int32) d1_194 rfl ?_
                        have fr891 := rng32 x0
                        have fr892 := rng32 v2
                        have fc893 : (255 : Int32).toInt = 255 := rfl
                        have fo894 : (x0 &&& (255 : Int32)).toInt = x0.toInt % 256 := c_mask x0 (255 : Int32) 8 (by decide) (by decide)
                        have fe895 : (x0 &&& (255 : Int32)).toInt = v2.toInt := congrArg Int32.toInt hv2
                        have fc896 : (128 : Int32).toInt = 128 := rfl
                        have fc897 : (194 : Int32).toInt = 194 := rfl
                        have fc898 : (224 : Int32).toInt = 224 := rfl
                        have fc899 : (240 : Int32).toInt = 240 := rfl
                        have fc900 : (245 : Int32).toInt = 245 := rfl
                        have fc901 : (244 : Int32).toInt = 244 := rfl
                        have fc902 : (3 : Int32).toInt = 3 := rfl
                        have fo903 := c_iadd p1 (3 : Int32)
                        have fr904 := rng32 (p1 + (3 : Int32))
                        have fr905 := rng32 p2
                        have fr906 := rng32 x1
                        have fr907 := rng32 v774
                        have fo908 : (x1 &&& (255 : Int32)).toInt = x1.toInt % 256 := c_mask x1 (255 : Int32) 8 (by decide) (by decide)
                        have fe909 : (x1 &&& (255 : Int32)).toInt = v774.toInt := congrArg Int32.toInt hv774
                        have fc910 : (191 : Int32).toInt = 191 := rfl
                        have fr911 := rng32 x2
                        have fc912 : (192 : Int32).toInt = 192 := rfl
                        have fc914 : (63 : Int32).toInt = 63 := rfl
                        have fo915 : (x2 &&& (63 : Int32)).toInt = x2.toInt % 64 := c_mask x2 (63 : Int32) 6 (by decide) (by decide)
                        have fo916 : (x2 &&& (255 : Int32)).toInt = x2.toInt % 256 := c_mask x2 (255 : Int32) 8 (by decide) (by decide)
                        have fo913 := own_blk x2 (192 : Int32) (63 : Int32) (255 : Int32) (by decide) (by decide)
                        have fo917 := c_and x2 (192 : Int32) (by decide)
                        have fr918 := rng32 (x2 &&& (192 : Int32))
                        have fc919 : (0 : Int32).toInt = 0 := rfl
                        exact g_retI C X0 rfl d1_195 e0 (by decide) (by decide) ⟨_, rfl, by (simp only [own_seq]; (repeat' split) <;> omega), N0, rfl⟩
                · skip
                  refine g_icmp_lt_f 139 rfl C X0 d1_136 hb770 ?_
                  refine g_iconst 140 rfl C X0 (0 : Int32) d1_139 rfl ?_
                  have fr920 := rng32 x0
                  have fr921 := rng32 v2
                  have fc922 : (255 : Int32).toInt = 255 := rfl
                  have fo923 : (x0 &&& (255 : Int32)).toInt = x0.toInt % 256 := c_mask x0 (255 : Int32) 8 (by decide) (by decide)
                  have fe924 : (x0 &&& (255 : Int32)).toInt = v2.toInt := congrArg Int32.toInt hv2
                  have fc925 : (128 : Int32).toInt = 128 := rfl
                  have fc926 : (194 : Int32).toInt = 194 := rfl
                  have fc927 : (224 : Int32).toInt = 224 := rfl
                  have fc928 : (240 : Int32).toInt = 240 := rfl
                  have fc929 : (245 : Int32).toInt = 245 := rfl
                  have fc930 : (244 : Int32).toInt = 244 := rfl
                  have fc931 : (3 : Int32).toInt = 3 := rfl
                  have fo932 := c_iadd p1 (3 : Int32)
                  have fr933 := rng32 (p1 + (3 : Int32))
                  have fr934 := rng32 p2
                  have fc935 : (0 : Int32).toInt = 0 := rfl
                  exact g_retI C X0 rfl d1_140 e0 (by decide) (by decide) ⟨_, rfl, by (simp only [own_seq]; (repeat' split) <;> omega), N0, rfl⟩
          · skip
            refine g_icmp_ge_t 129 C X0 d1_93 (by decide) (by decide) hb436 ?_
            refine g_iconst 130 rfl C X0 (0 : Int32) d1_129 rfl ?_
            have fr936 := rng32 x0
            have fr937 := rng32 v2
            have fc938 : (255 : Int32).toInt = 255 := rfl
            have fo939 : (x0 &&& (255 : Int32)).toInt = x0.toInt % 256 := c_mask x0 (255 : Int32) 8 (by decide) (by decide)
            have fe940 : (x0 &&& (255 : Int32)).toInt = v2.toInt := congrArg Int32.toInt hv2
            have fc941 : (128 : Int32).toInt = 128 := rfl
            have fc942 : (194 : Int32).toInt = 194 := rfl
            have fc943 : (224 : Int32).toInt = 224 := rfl
            have fc944 : (240 : Int32).toInt = 240 := rfl
            have fc945 : (245 : Int32).toInt = 245 := rfl
            have fc946 : (0 : Int32).toInt = 0 := rfl
            exact g_retI C X0 rfl d1_130 e0 (by decide) (by decide) ⟨_, rfl, by (simp only [own_seq]; (repeat' split) <;> omega), N0, rfl⟩
theorem d3_0 : decode method_3_code 0 = .ok (.iload_n 0, 1) := by decide +kernel
theorem d3_1 : decode method_3_code 1 = .ok (.sipush 192, 3) := by decide +kernel
theorem d3_4 : decode method_3_code 4 = .ok (.iand, 1) := by decide +kernel
theorem d3_5 : decode method_3_code 5 = .ok (.sipush 128, 3) := by decide +kernel
theorem d3_8 : decode method_3_code 8 = .ok (.if_icmp .ne 7, 3) := by decide +kernel
theorem d3_11 : decode method_3_code 11 = .ok (.iconst 1, 1) := by decide +kernel
theorem d3_12 : decode method_3_code 12 = .ok (.goto 4, 3) := by decide +kernel
theorem d3_16 : decode method_3_code 16 = .ok (.ireturn, 1) := by decide +kernel
theorem d3_15 : decode method_3_code 15 = .ok (.iconst 0, 1) := by decide +kernel
theorem pn_18511380 : plainName "com/example/schedario/schedario/records/Utf8SequencePinLaw" = true := by first | (simp [plainName, overriddenIn]; done) | decide +kernel
theorem ef_3 (m : MethodId) (p0 : Int32) : entryFrame m #[(.int p0)] 1 = mkF m 0 #[.val (.int p0)] [] := by first | (simp [entryFrame, mkF, argsToLocals, Value.category]; done) | rfl
def Q3 (Z : State) (p0 : Int32) (h0 : Heap) (n0 : Nat) (v : Option Value) (h : Heap) (L : List Loc) : Prop := ∃ r : Int32, v = some (.int r) ∧ ((r.toInt = 1 ∧ p0.toInt % 256 / 64 = 2) ∨ (r.toInt = 0 ∧ ¬ p0.toInt % 256 / 64 = 2)) ∧ Fr n0 L ∧ h = h0
set_option maxRecDepth 65536 in
set_option maxHeartbeats 40000000 in
theorem rm3 (l : Launch) (Z : State) (a0 : Array Value) (hw : ∀ d ∈ tables_1, d.before a0 Z = true) (ws : List Jvm.Cond) (p0 : Int32) (h0 : Heap) (n0 : Nat) (Z0 : n0 ≤ h0.size) :
    MetFree l (⟨"com/example/schedario/schedario/records/Utf8SequencePinLaw", "cont", "(I)Z"⟩ : MethodName) (head1 (Jvm.Cond.code (⟨"com/example/schedario/schedario/records/Utf8SequencePinLaw", "cont", "(I)Z"⟩ : MethodName) method_3_code 1 (some .boolean) :: ws) ({ frames := 0, cells := 0, slots := 0, locals := 0 } : Room)) (fun a U => a = #[(.int p0)] ∧ Z.Warmed39 U.vm ∧ U.heap = h0) (fun _ _ _ _ _ => True) (fun _ U o U' => ∃ v L, o = .returned v ∧ Q3 Z p0 h0 n0 v U'.heap L ∧ FrameEnd U o U' L ({ frames := 0, cells := 0, slots := 0, locals := 0 } : Room).cells ({ frames := 0, cells := 0, slots := 0, locals := 0 } : Room).slots) := by
  refine MetFree.of_bodySF (plainFor_of_name pn_18511380) hisR ?_
  intro p e s m args below meth c s₁ Bd hml0 hP hK
  obtain ⟨rfl, hZ, hh⟩ := hP
  have C : Ctx p s m meth c Z "com/example/schedario/schedario/records/Utf8SequencePinLaw" "cont" method_3_code 1 (some .boolean) := Ctx.of Bd hml0 hZ
  have X0 : Stand p l e ({ frames := 0, cells := 0, slots := 0, locals := 0 } : Room) s m #[(.int p0)] below meth c s₁ [] 0 0 := Stand.of_body Bd
  have e0 : s₁.heap = h0 := by rw [← hh, Bd.state]; rfl
  have N0 := Fr.nil n0
  refine Goes.enter (ef_3 m p0) ?_
  clear hK hml0 hh
  refine g_iloadN 1 rfl C X0 d3_0 rfl ?_
  refine g_sipush 4 rfl C X0 (192 : Int32) d3_1 rfl ?_
  refine g_iand 5 rfl C X0 d3_4 ?_
  refine g_sipush 8 rfl C X0 (128 : Int32) d3_5 rfl ?_
  by_cases hb1 : (p0 &&& (192 : Int32)).toInt = (128 : Int32).toInt
  · skip
    refine g_icmp_ne_f 11 rfl C X0 d3_8 hb1 ?_
    refine g_iconst 12 rfl C X0 (1 : Int32) d3_11 rfl ?_
    refine g_goto 16 C X0 d3_12 (by decide) (by decide) ?_
    have fr2 := rng32 p0
    have fc3 : (192 : Int32).toInt = 192 := rfl
    have fc5 : (63 : Int32).toInt = 63 := rfl
    have fo6 : (p0 &&& (63 : Int32)).toInt = p0.toInt % 64 := c_mask p0 (63 : Int32) 6 (by decide) (by decide)
    have fc7 : (255 : Int32).toInt = 255 := rfl
    have fo8 : (p0 &&& (255 : Int32)).toInt = p0.toInt % 256 := c_mask p0 (255 : Int32) 8 (by decide) (by decide)
    have fo4 := own_blk p0 (192 : Int32) (63 : Int32) (255 : Int32) (by decide) (by decide)
    have fo9 := c_and p0 (192 : Int32) (by decide)
    have fr10 := rng32 (p0 &&& (192 : Int32))
    have fc11 : (128 : Int32).toInt = 128 := rfl
    have fc12 : (1 : Int32).toInt = 1 := rfl
    exact g_retN C X0 (z' := (1 : Int32)) rfl (Or.inl rfl) d3_16 e0 (by decide) (by decide) rfl ⟨_, rfl, by omega, N0, rfl⟩
  · skip
    refine g_icmp_ne_t 15 C X0 d3_8 (by decide) (by decide) hb1 ?_
    refine g_iconst 16 rfl C X0 (0 : Int32) d3_15 rfl ?_
    have fr13 := rng32 p0
    have fc14 : (192 : Int32).toInt = 192 := rfl
    have fc16 : (63 : Int32).toInt = 63 := rfl
    have fo17 : (p0 &&& (63 : Int32)).toInt = p0.toInt % 64 := c_mask p0 (63 : Int32) 6 (by decide) (by decide)
    have fc18 : (255 : Int32).toInt = 255 := rfl
    have fo19 : (p0 &&& (255 : Int32)).toInt = p0.toInt % 256 := c_mask p0 (255 : Int32) 8 (by decide) (by decide)
    have fo15 := own_blk p0 (192 : Int32) (63 : Int32) (255 : Int32) (by decide) (by decide)
    have fo20 := c_and p0 (192 : Int32) (by decide)
    have fr21 := rng32 (p0 &&& (192 : Int32))
    have fc22 : (128 : Int32).toInt = 128 := rfl
    have fc23 : (0 : Int32).toInt = 0 := rfl
    exact g_retN C X0 (z' := (0 : Int32)) rfl (Or.inl rfl) d3_16 e0 (by decide) (by decide) rfl ⟨_, rfl, by omega, N0, rfl⟩
theorem d2_0 : decode method_4_code 0 = .ok (.iload_n 0, 1) := by decide +kernel
theorem d2_1 : decode method_4_code 1 = .ok (.sipush 128, 3) := by decide +kernel
theorem d2_4 : decode method_4_code 4 = .ok (.if_icmp .ge 5, 3) := by decide +kernel
theorem d2_7 : decode method_4_code 7 = .ok (.iconst 1, 1) := by decide +kernel
theorem d2_8 : decode method_4_code 8 = .ok (.ireturn, 1) := by decide +kernel
theorem d2_9 : decode method_4_code 9 = .ok (.iload_n 0, 1) := by decide +kernel
theorem d2_10 : decode method_4_code 10 = .ok (.sipush 224, 3) := by decide +kernel
theorem d2_13 : decode method_4_code 13 = .ok (.iand, 1) := by decide +kernel
theorem d2_14 : decode method_4_code 14 = .ok (.sipush 192, 3) := by decide +kernel
theorem d2_17 : decode method_4_code 17 = .ok (.if_icmp .ne 9, 3) := by decide +kernel
theorem d2_20 : decode method_4_code 20 = .ok (.iconst 2, 1) := by decide +kernel
theorem d2_21 : decode method_4_code 21 = .ok (.istore 5, 2) := by decide +kernel
theorem d2_23 : decode method_4_code 23 = .ok (.goto 39, 3) := by decide +kernel
theorem d2_62 : decode method_4_code 62 = .ok (.iload 5, 2) := by decide +kernel
theorem d2_64 : decode method_4_code 64 = .ok (.iload 4, 2) := by decide +kernel
theorem d2_66 : decode method_4_code 66 = .ok (.if_icmp .le 5, 3) := by decide +kernel
theorem d2_69 : decode method_4_code 69 = .ok (.iconst 0, 1) := by decide +kernel
theorem d2_70 : decode method_4_code 70 = .ok (.ireturn, 1) := by decide +kernel
theorem d2_71 : decode method_4_code 71 = .ok (.iload_n 1, 1) := by decide +kernel
theorem d2_72 : decode method_4_code 72 = .ok (.invokestatic 20, 3) := by decide +kernel
theorem pd_52681301 : parseMethodDescriptor "(I)Z" = some ⟨[.int], some .boolean⟩ := by decide +kernel
theorem d2_75 : decode method_4_code 75 = .ok (.ifCond .ne 5, 3) := by decide +kernel
theorem d2_78 : decode method_4_code 78 = .ok (.iconst 0, 1) := by decide +kernel
theorem d2_79 : decode method_4_code 79 = .ok (.ireturn, 1) := by decide +kernel
theorem d2_80 : decode method_4_code 80 = .ok (.iload 5, 2) := by decide +kernel
theorem d2_82 : decode method_4_code 82 = .ok (.iconst 3, 1) := by decide +kernel
theorem d2_83 : decode method_4_code 83 = .ok (.if_icmp .lt 12, 3) := by decide +kernel
theorem d2_95 : decode method_4_code 95 = .ok (.iload 5, 2) := by decide +kernel
theorem d2_97 : decode method_4_code 97 = .ok (.iconst 4, 1) := by decide +kernel
theorem d2_98 : decode method_4_code 98 = .ok (.if_icmp .ne 12, 3) := by decide +kernel
theorem d2_110 : decode method_4_code 110 = .ok (.iload 5, 2) := by decide +kernel
theorem d2_112 : decode method_4_code 112 = .ok (.iconst 2, 1) := by decide +kernel
theorem d2_113 : decode method_4_code 113 = .ok (.if_icmp .ne 31, 3) := by decide +kernel
theorem d2_116 : decode method_4_code 116 = .ok (.iload_n 0, 1) := by decide +kernel
theorem d2_117 : decode method_4_code 117 = .ok (.bipush 31, 2) := by decide +kernel
theorem d2_119 : decode method_4_code 119 = .ok (.iand, 1) := by decide +kernel
theorem d2_120 : decode method_4_code 120 = .ok (.bipush 6, 2) := by decide +kernel
theorem d2_122 : decode method_4_code 122 = .ok (.ishl, 1) := by decide +kernel
theorem d2_123 : decode method_4_code 123 = .ok (.iload_n 1, 1) := by decide +kernel
theorem d2_124 : decode method_4_code 124 = .ok (.bipush 63, 2) := by decide +kernel
theorem d2_126 : decode method_4_code 126 = .ok (.iand, 1) := by decide +kernel
theorem d2_127 : decode method_4_code 127 = .ok (.ior, 1) := by decide +kernel
theorem d2_128 : decode method_4_code 128 = .ok (.istore 6, 2) := by decide +kernel
theorem d2_130 : decode method_4_code 130 = .ok (.iload 6, 2) := by decide +kernel
theorem d2_132 : decode method_4_code 132 = .ok (.sipush 128, 3) := by decide +kernel
theorem d2_135 : decode method_4_code 135 = .ok (.if_icmp .lt 7, 3) := by decide +kernel
theorem d2_142 : decode method_4_code 142 = .ok (.iconst 0, 1) := by decide +kernel
theorem d2_143 : decode method_4_code 143 = .ok (.ireturn, 1) := by decide +kernel
theorem d2_138 : decode method_4_code 138 = .ok (.iconst 2, 1) := by decide +kernel
theorem d2_139 : decode method_4_code 139 = .ok (.goto 4, 3) := by decide +kernel
theorem d2_26 : decode method_4_code 26 = .ok (.iload_n 0, 1) := by decide +kernel
theorem d2_27 : decode method_4_code 27 = .ok (.sipush 240, 3) := by decide +kernel
theorem d2_30 : decode method_4_code 30 = .ok (.iand, 1) := by decide +kernel
theorem d2_31 : decode method_4_code 31 = .ok (.sipush 224, 3) := by decide +kernel
theorem d2_34 : decode method_4_code 34 = .ok (.if_icmp .ne 9, 3) := by decide +kernel
theorem d2_37 : decode method_4_code 37 = .ok (.iconst 3, 1) := by decide +kernel
theorem d2_38 : decode method_4_code 38 = .ok (.istore 5, 2) := by decide +kernel
theorem d2_40 : decode method_4_code 40 = .ok (.goto 22, 3) := by decide +kernel
theorem d2_86 : decode method_4_code 86 = .ok (.iload_n 2, 1) := by decide +kernel
theorem d2_87 : decode method_4_code 87 = .ok (.invokestatic 20, 3) := by decide +kernel
theorem d2_90 : decode method_4_code 90 = .ok (.ifCond .ne 5, 3) := by decide +kernel
theorem d2_93 : decode method_4_code 93 = .ok (.iconst 0, 1) := by decide +kernel
theorem d2_94 : decode method_4_code 94 = .ok (.ireturn, 1) := by decide +kernel
theorem d2_144 : decode method_4_code 144 = .ok (.iload 5, 2) := by decide +kernel
theorem d2_146 : decode method_4_code 146 = .ok (.iconst 3, 1) := by decide +kernel
theorem d2_147 : decode method_4_code 147 = .ok (.if_icmp .ne 53, 3) := by decide +kernel
theorem d2_150 : decode method_4_code 150 = .ok (.iload_n 0, 1) := by decide +kernel
theorem d2_151 : decode method_4_code 151 = .ok (.bipush 15, 2) := by decide +kernel
theorem d2_153 : decode method_4_code 153 = .ok (.iand, 1) := by decide +kernel
theorem d2_154 : decode method_4_code 154 = .ok (.bipush 12, 2) := by decide +kernel
theorem d2_156 : decode method_4_code 156 = .ok (.ishl, 1) := by decide +kernel
theorem d2_157 : decode method_4_code 157 = .ok (.iload_n 1, 1) := by decide +kernel
theorem d2_158 : decode method_4_code 158 = .ok (.bipush 63, 2) := by decide +kernel
theorem d2_160 : decode method_4_code 160 = .ok (.iand, 1) := by decide +kernel
theorem d2_161 : decode method_4_code 161 = .ok (.bipush 6, 2) := by decide +kernel
theorem d2_163 : decode method_4_code 163 = .ok (.ishl, 1) := by decide +kernel
theorem d2_164 : decode method_4_code 164 = .ok (.ior, 1) := by decide +kernel
theorem d2_165 : decode method_4_code 165 = .ok (.iload_n 2, 1) := by decide +kernel
theorem d2_166 : decode method_4_code 166 = .ok (.bipush 63, 2) := by decide +kernel
theorem d2_168 : decode method_4_code 168 = .ok (.iand, 1) := by decide +kernel
theorem d2_169 : decode method_4_code 169 = .ok (.ior, 1) := by decide +kernel
theorem d2_170 : decode method_4_code 170 = .ok (.istore 6, 2) := by decide +kernel
theorem d2_172 : decode method_4_code 172 = .ok (.iload 6, 2) := by decide +kernel
theorem d2_174 : decode method_4_code 174 = .ok (.sipush 2048, 3) := by decide +kernel
theorem d2_177 : decode method_4_code 177 = .ok (.if_icmp .lt 21, 3) := by decide +kernel
theorem d2_198 : decode method_4_code 198 = .ok (.iconst 0, 1) := by decide +kernel
theorem d2_199 : decode method_4_code 199 = .ok (.ireturn, 1) := by decide +kernel
theorem d2_180 : decode method_4_code 180 = .ok (.iload 6, 2) := by decide +kernel
theorem d2_182 : decode method_4_code 182 = .ok (.ldc 24, 2) := by decide +kernel
theorem d2_184 : decode method_4_code 184 = .ok (.if_icmp .lt 10, 3) := by decide +kernel
theorem d2_194 : decode method_4_code 194 = .ok (.iconst 3, 1) := by decide +kernel
theorem d2_195 : decode method_4_code 195 = .ok (.goto 4, 3) := by decide +kernel
theorem d2_187 : decode method_4_code 187 = .ok (.iload 6, 2) := by decide +kernel
theorem d2_189 : decode method_4_code 189 = .ok (.ldc 25, 2) := by decide +kernel
theorem d2_191 : decode method_4_code 191 = .ok (.if_icmp .le 7, 3) := by decide +kernel
theorem d2_43 : decode method_4_code 43 = .ok (.iload_n 0, 1) := by decide +kernel
theorem d2_44 : decode method_4_code 44 = .ok (.sipush 248, 3) := by decide +kernel
theorem d2_47 : decode method_4_code 47 = .ok (.iand, 1) := by decide +kernel
theorem d2_48 : decode method_4_code 48 = .ok (.sipush 240, 3) := by decide +kernel
theorem d2_51 : decode method_4_code 51 = .ok (.if_icmp .ne 9, 3) := by decide +kernel
theorem d2_54 : decode method_4_code 54 = .ok (.iconst 4, 1) := by decide +kernel
theorem d2_55 : decode method_4_code 55 = .ok (.istore 5, 2) := by decide +kernel
theorem d2_57 : decode method_4_code 57 = .ok (.goto 5, 3) := by decide +kernel
theorem d2_101 : decode method_4_code 101 = .ok (.iload_n 3, 1) := by decide +kernel
theorem d2_102 : decode method_4_code 102 = .ok (.invokestatic 20, 3) := by decide +kernel
theorem d2_105 : decode method_4_code 105 = .ok (.ifCond .ne 5, 3) := by decide +kernel
theorem d2_108 : decode method_4_code 108 = .ok (.iconst 0, 1) := by decide +kernel
theorem d2_109 : decode method_4_code 109 = .ok (.ireturn, 1) := by decide +kernel
theorem d2_200 : decode method_4_code 200 = .ok (.iload_n 0, 1) := by decide +kernel
theorem d2_201 : decode method_4_code 201 = .ok (.bipush 7, 2) := by decide +kernel
theorem d2_203 : decode method_4_code 203 = .ok (.iand, 1) := by decide +kernel
theorem d2_204 : decode method_4_code 204 = .ok (.bipush 18, 2) := by decide +kernel
theorem d2_206 : decode method_4_code 206 = .ok (.ishl, 1) := by decide +kernel
theorem d2_207 : decode method_4_code 207 = .ok (.iload_n 1, 1) := by decide +kernel
theorem d2_208 : decode method_4_code 208 = .ok (.bipush 63, 2) := by decide +kernel
theorem d2_210 : decode method_4_code 210 = .ok (.iand, 1) := by decide +kernel
theorem d2_211 : decode method_4_code 211 = .ok (.bipush 12, 2) := by decide +kernel
theorem d2_213 : decode method_4_code 213 = .ok (.ishl, 1) := by decide +kernel
theorem d2_214 : decode method_4_code 214 = .ok (.ior, 1) := by decide +kernel
theorem d2_215 : decode method_4_code 215 = .ok (.iload_n 2, 1) := by decide +kernel
theorem d2_216 : decode method_4_code 216 = .ok (.bipush 63, 2) := by decide +kernel
theorem d2_218 : decode method_4_code 218 = .ok (.iand, 1) := by decide +kernel
theorem d2_219 : decode method_4_code 219 = .ok (.bipush 6, 2) := by decide +kernel
theorem d2_221 : decode method_4_code 221 = .ok (.ishl, 1) := by decide +kernel
theorem d2_222 : decode method_4_code 222 = .ok (.ior, 1) := by decide +kernel
theorem d2_223 : decode method_4_code 223 = .ok (.iload_n 3, 1) := by decide +kernel
theorem d2_224 : decode method_4_code 224 = .ok (.bipush 63, 2) := by decide +kernel
theorem d2_226 : decode method_4_code 226 = .ok (.iand, 1) := by decide +kernel
theorem d2_227 : decode method_4_code 227 = .ok (.ior, 1) := by decide +kernel
theorem d2_228 : decode method_4_code 228 = .ok (.istore 6, 2) := by decide +kernel
theorem d2_230 : decode method_4_code 230 = .ok (.iload 6, 2) := by decide +kernel
theorem d2_232 : decode method_4_code 232 = .ok (.ldc 26, 2) := by decide +kernel
theorem d2_234 : decode method_4_code 234 = .ok (.if_icmp .lt 14, 3) := by decide +kernel
theorem d2_248 : decode method_4_code 248 = .ok (.iconst 0, 1) := by decide +kernel
theorem d2_249 : decode method_4_code 249 = .ok (.ireturn, 1) := by decide +kernel
theorem d2_237 : decode method_4_code 237 = .ok (.iload 6, 2) := by decide +kernel
theorem d2_239 : decode method_4_code 239 = .ok (.ldc 27, 2) := by decide +kernel
theorem d2_241 : decode method_4_code 241 = .ok (.if_icmp .gt 7, 3) := by decide +kernel
theorem d2_244 : decode method_4_code 244 = .ok (.iconst 4, 1) := by decide +kernel
theorem d2_245 : decode method_4_code 245 = .ok (.goto 4, 3) := by decide +kernel
theorem d2_60 : decode method_4_code 60 = .ok (.iconst 0, 1) := by decide +kernel
theorem d2_61 : decode method_4_code 61 = .ok (.ireturn, 1) := by decide +kernel
theorem ef_2 (m : MethodId) (p0 : Int32) (p1 : Int32) (p2 : Int32) (p3 : Int32) (p4 : Int32) : entryFrame m #[(.int p0), (.int p1), (.int p2), (.int p3), (.int p4)] 7 = mkF m 0 #[.val (.int p0), .val (.int p1), .val (.int p2), .val (.int p3), .val (.int p4), .unset, .unset] [] := by first | (simp [entryFrame, mkF, argsToLocals, Value.category]; done) | rfl
def Q2 (Z : State) (p0 : Int32) (p1 : Int32) (p2 : Int32) (p3 : Int32) (p4 : Int32) (h0 : Heap) (n0 : Nat) (v : Option Value) (h : Heap) (L : List Loc) : Prop := ∃ r : Int32, v = some (.int r) ∧ (r.toInt = own_seq p0.toInt p1.toInt p2.toInt p3.toInt p4.toInt) ∧ Fr n0 L ∧ h = h0
set_option maxRecDepth 65536 in
set_option maxHeartbeats 40000000 in
theorem rm2 (l : Launch) (Z : State) (a0 : Array Value) (hw : ∀ d ∈ tables_1, d.before a0 Z = true) (ws : List Jvm.Cond) (p0 : Int32) (p1 : Int32) (p2 : Int32) (p3 : Int32) (p4 : Int32) (h0 : Heap) (n0 : Nat) (Z0 : n0 ≤ h0.size) (hr0 : 0 ≤ p0.toInt ∧ p0.toInt < 256) (hr1 : 0 ≤ p1.toInt ∧ p1.toInt < 256) (hr2 : 0 ≤ p2.toInt ∧ p2.toInt < 256) (hr3 : 0 ≤ p3.toInt ∧ p3.toInt < 256) (hm : 1 ≤ p4.toInt ∧ p4.toInt ≤ 5) :
    MetFree l (⟨"com/example/schedario/schedario/records/Utf8SequencePinLaw", "expected", "(IIIII)I"⟩ : MethodName) (head1 (Jvm.Cond.code (⟨"com/example/schedario/schedario/records/Utf8SequencePinLaw", "expected", "(IIIII)I"⟩ : MethodName) method_4_code 7 (some .int) :: ws) ({ frames := 1, cells := 0, slots := 0, locals := 12 } : Room)) (fun a U => a = #[(.int p0), (.int p1), (.int p2), (.int p3), (.int p4)] ∧ Z.Warmed39 U.vm ∧ U.heap = h0) (fun _ _ _ _ _ => True) (fun _ U o U' => ∃ v L, o = .returned v ∧ Q2 Z p0 p1 p2 p3 p4 h0 n0 v U'.heap L ∧ FrameEnd U o U' L ({ frames := 1, cells := 0, slots := 0, locals := 12 } : Room).cells ({ frames := 1, cells := 0, slots := 0, locals := 12 } : Room).slots) := by
  refine MetFree.of_bodySF (plainFor_of_name pn_18511380) hisR ?_
  intro p e s m args below meth c s₁ Bd hml0 hP hK
  obtain ⟨rfl, hZ, hh⟩ := hP
  have C : Ctx p s m meth c Z "com/example/schedario/schedario/records/Utf8SequencePinLaw" "expected" method_4_code 7 (some .int) := Ctx.of Bd hml0 hZ
  have X0 : Stand p l e ({ frames := 1, cells := 0, slots := 0, locals := 12 } : Room) s m #[(.int p0), (.int p1), (.int p2), (.int p3), (.int p4)] below meth c s₁ [] 0 0 := Stand.of_body Bd
  have e0 : s₁.heap = h0 := by rw [← hh, Bd.state]; rfl
  have N0 := Fr.nil n0
  refine Goes.enter (ef_2 m p0 p1 p2 p3 p4) ?_
  clear hK hml0 hh
  refine g_iloadN 1 rfl C X0 d2_0 rfl ?_
  refine g_sipush 4 rfl C X0 (128 : Int32) d2_1 rfl ?_
  by_cases hb1 : p0.toInt < (128 : Int32).toInt
  · skip
    refine g_icmp_ge_f 7 rfl C X0 d2_4 hb1 ?_
    refine g_iconst 8 rfl C X0 (1 : Int32) d2_7 rfl ?_
    have fr2 := rng32 p0
    have fc3 : (128 : Int32).toInt = 128 := rfl
    have fc4 : (1 : Int32).toInt = 1 := rfl
    exact g_retI C X0 rfl d2_8 e0 (by decide) (by decide) ⟨_, rfl, by (simp only [own_seq]; (repeat' split) <;> omega), N0, rfl⟩
  · skip
    refine g_icmp_ge_t 9 C X0 d2_4 (by decide) (by decide) hb1 ?_
    refine g_iloadN 10 rfl C X0 d2_9 rfl ?_
    refine g_sipush 13 rfl C X0 (224 : Int32) d2_10 rfl ?_
    refine g_iand 14 rfl C X0 d2_13 ?_
    refine g_sipush 17 rfl C X0 (192 : Int32) d2_14 rfl ?_
    by_cases hb5 : (p0 &&& (224 : Int32)).toInt = (192 : Int32).toInt
    · skip
      refine g_icmp_ne_f 20 rfl C X0 d2_17 hb5 ?_
      refine g_iconst 21 rfl C X0 (2 : Int32) d2_20 rfl ?_
      refine g_istore 23 rfl C X0 (2 : Int32) rfl #[.val (.int p0), .val (.int p1), .val (.int p2), .val (.int p3), .val (.int p4), .val (.int (2 : Int32)), .unset] d2_21 rfl ?_
      refine g_goto 62 C X0 d2_23 (by decide) (by decide) ?_
      refine g_iload 64 rfl C X0 d2_62 rfl ?_
      refine g_iload 66 rfl C X0 d2_64 rfl ?_
      by_cases hb6 : p4.toInt < (2 : Int32).toInt
      · skip
        refine g_icmp_le_f 69 rfl C X0 d2_66 hb6 ?_
        refine g_iconst 70 rfl C X0 (0 : Int32) d2_69 rfl ?_
        have fr7 := rng32 p0
        have fc8 : (128 : Int32).toInt = 128 := rfl
        have fc9 : (224 : Int32).toInt = 224 := rfl
        have fc11 : (31 : Int32).toInt = 31 := rfl
        have fo12 : (p0 &&& (31 : Int32)).toInt = p0.toInt % 32 := c_mask p0 (31 : Int32) 5 (by decide) (by decide)
        have fc13 : (255 : Int32).toInt = 255 := rfl
        have fo14 : (p0 &&& (255 : Int32)).toInt = p0.toInt % 256 := c_mask p0 (255 : Int32) 8 (by decide) (by decide)
        have fo10 := own_blk p0 (224 : Int32) (31 : Int32) (255 : Int32) (by decide) (by decide)
        have fo15 := c_and p0 (224 : Int32) (by decide)
        have fr16 := rng32 (p0 &&& (224 : Int32))
        have fc17 : (192 : Int32).toInt = 192 := rfl
        have fc18 : (2 : Int32).toInt = 2 := rfl
        have fr19 := rng32 p4
        have fc20 : (0 : Int32).toInt = 0 := rfl
        exact g_retI C X0 rfl d2_70 e0 (by decide) (by decide) ⟨_, rfl, by (simp only [own_seq]; (repeat' split) <;> omega), N0, rfl⟩
      · skip
        refine g_icmp_le_t 71 C X0 d2_66 (by decide) (by decide) hb6 ?_
        refine g_iloadN 72 rfl C X0 d2_71 rfl ?_
        refine g_callS 75 rfl C X0 (argsL := [(.int p1)]) (hw _ (List.mem_of_getElem? (i := 10) rfl)) (hw _ (List.mem_of_getElem? (i := 11) rfl)) (hw _ (List.mem_of_getElem? (i := 12) rfl)) (hw _ (List.mem_of_getElem? (i := 8) rfl)) e0 (rm3 l Z a0 hw [] p1 h0 n0 Z0) (lenOf pd_52681301 rfl) (by decide) (by decide) (by decide) (by decide) rfl (W := 0) (Nat.le_of_eq rfl) (by decide) d2_72 rfl fun r21 T22 Lc23 X24 hQ25 => ?_
        obtain ⟨r26, rfl, hs27, Nq28, eh29⟩ := hQ25
        have N30 := Fr.app N0 Nq28
        show Goes _ _ _ _ _ _ 75 _ [(.int r26)]
        by_cases hb31 : r26.toInt = 0
        · skip
          refine g_if_ne_f 78 rfl C X24 d2_75 hb31 ?_
          refine g_iconst 79 rfl C X24 (0 : Int32) d2_78 rfl ?_
          have fr32 := rng32 p0
          have fc33 : (128 : Int32).toInt = 128 := rfl
          have fc34 : (224 : Int32).toInt = 224 := rfl
          have fc36 : (31 : Int32).toInt = 31 := rfl
          have fo37 : (p0 &&& (31 : Int32)).toInt = p0.toInt % 32 := c_mask p0 (31 : Int32) 5 (by decide) (by decide)
          have fc38 : (255 : Int32).toInt = 255 := rfl
          have fo39 : (p0 &&& (255 : Int32)).toInt = p0.toInt % 256 := c_mask p0 (255 : Int32) 8 (by decide) (by decide)
          have fo35 := own_blk p0 (224 : Int32) (31 : Int32) (255 : Int32) (by decide) (by decide)
          have fo40 := c_and p0 (224 : Int32) (by decide)
          have fr41 := rng32 (p0 &&& (224 : Int32))
          have fc42 : (192 : Int32).toInt = 192 := rfl
          have fc43 : (2 : Int32).toInt = 2 := rfl
          have fr44 := rng32 p4
          have fr45 := rng32 p1
          have fr46 := rng32 r26
          have fc47 : (0 : Int32).toInt = 0 := rfl
          exact g_retI C X24 rfl d2_79 eh29 (by decide) (by decide) ⟨_, rfl, by (simp only [own_seq]; (repeat' split) <;> omega), N30, rfl⟩
        · skip
          refine g_if_ne_t 80 C X24 d2_75 (by decide) (by decide) hb31 ?_
          refine g_iload 82 rfl C X24 d2_80 rfl ?_
          refine g_iconst 83 rfl C X24 (3 : Int32) d2_82 rfl ?_
          refine g_icmp_lt_t 95 C X24 d2_83 (by decide) (by decide) (by decide) ?_
          refine g_iload 97 rfl C X24 d2_95 rfl ?_
          refine g_iconst 98 rfl C X24 (4 : Int32) d2_97 rfl ?_
          refine g_icmp_ne_t 110 C X24 d2_98 (by decide) (by decide) (by decide) ?_
          refine g_iload 112 rfl C X24 d2_110 rfl ?_
          refine g_iconst 113 rfl C X24 (2 : Int32) d2_112 rfl ?_
          refine g_icmp_ne_f 116 rfl C X24 d2_113 (by decide) ?_
          refine g_iloadN 117 rfl C X24 d2_116 rfl ?_
          refine g_bipush 119 rfl C X24 (31 : Int32) d2_117 rfl ?_
          refine g_iand 120 rfl C X24 d2_119 ?_
          refine g_bipush 122 rfl C X24 (6 : Int32) d2_120 rfl ?_
          refine g_ishl 123 rfl C X24 d2_122 ?_
          refine g_iloadN 124 rfl C X24 d2_123 rfl ?_
          refine g_bipush 126 rfl C X24 (63 : Int32) d2_124 rfl ?_
          refine g_iand 127 rfl C X24 d2_126 ?_
          refine g_ior 128 rfl C X24 d2_127 ?_
          obtain ⟨v48, hv48⟩ : ∃ z : Int32, (((p0 &&& (31 : Int32)) <<< ((6 : Int32) &&& 31)) ||| (p1 &&& (63 : Int32))) = z := ⟨_, rfl⟩
          refine g_istore 130 rfl C X24 v48 hv48 #[.val (.int p0), .val (.int p1), .val (.int p2), .val (.int p3), .val (.int p4), .val (.int (2 : Int32)), .val (.int v48)] d2_128 rfl ?_
          refine g_iload 132 rfl C X24 d2_130 rfl ?_
          refine g_sipush 135 rfl C X24 (128 : Int32) d2_132 rfl ?_
          by_cases hb49 : v48.toInt < (128 : Int32).toInt
          · skip
            refine g_icmp_lt_t 142 C X24 d2_135 (by decide) (by decide) hb49 ?_
            refine g_iconst 143 rfl C X24 (0 : Int32) d2_142 rfl ?_
            have fr50 := rng32 p0
            have fc51 : (128 : Int32).toInt = 128 := rfl
            have fc52 : (224 : Int32).toInt = 224 := rfl
            have fc54 : (31 : Int32).toInt = 31 := rfl
            have fo55 : (p0 &&& (31 : Int32)).toInt = p0.toInt % 32 := c_mask p0 (31 : Int32) 5 (by decide) (by decide)
            have fc56 : (255 : Int32).toInt = 255 := rfl
            have fo57 : (p0 &&& (255 : Int32)).toInt = p0.toInt % 256 := c_mask p0 (255 : Int32) 8 (by decide) (by decide)
            have fo53 := own_blk p0 (224 : Int32) (31 : Int32) (255 : Int32) (by decide) (by decide)
            have fo58 := c_and p0 (224 : Int32) (by decide)
            have fr59 := rng32 (p0 &&& (224 : Int32))
            have fc60 : (192 : Int32).toInt = 192 := rfl
            have fc61 : (2 : Int32).toInt = 2 := rfl
            have fr62 := rng32 p4
            have fr63 := rng32 p1
            have fr64 := rng32 r26
            have fc65 : (3 : Int32).toInt = 3 := rfl
            have fc66 : (4 : Int32).toInt = 4 := rfl
            have fr67 := rng32 v48
            have fc68 : (6 : Int32).toInt = 6 := rfl
            have fo69 : ((((p0 &&& (31 : Int32)) <<< ((6 : Int32) &&& 31))).toInt - (p0 &&& (31 : Int32)).toInt * 64) % 4294967296 = 0 := c_ishl (p0 &&& (31 : Int32)) (6 : Int32) 6 (by decide)
            have fr70 := rng32 ((p0 &&& (31 : Int32)) <<< ((6 : Int32) &&& 31))
            have fc71 : (63 : Int32).toInt = 63 := rfl
            have fo72 : (p1 &&& (63 : Int32)).toInt = p1.toInt % 64 := c_mask p1 (63 : Int32) 6 (by decide) (by decide)
            have fo73 := c_or ((p0 &&& (31 : Int32)) <<< ((6 : Int32) &&& 31)) (p1 &&& (63 : Int32)) 6 (by decide) 64 (by decide) (by omega) (by omega) (by omega)
            have fr74 := rng32 (((p0 &&& (31 : Int32)) <<< ((6 : Int32) &&& 31)) ||| (p1 &&& (63 : Int32)))
            have fe75 : (((p0 &&& (31 : Int32)) <<< ((6 : Int32) &&& 31)) ||| (p1 &&& (63 : Int32))).toInt = v48.toInt := congrArg Int32.toInt hv48
            have fc76 : (0 : Int32).toInt = 0 := rfl
            exact g_retI C X24 rfl d2_143 eh29 (by decide) (by decide) ⟨_, rfl, by (simp only [own_seq]; (repeat' split) <;> omega), N30, rfl⟩
          · skip
            refine g_icmp_lt_f 138 rfl C X24 d2_135 hb49 ?_
            refine g_iconst 139 rfl C X24 (2 : Int32) d2_138 rfl ?_
            refine g_goto 143 C X24 d2_139 (by decide) (by decide) ?_
            have fr77 := rng32 p0
            have fc78 : (128 : Int32).toInt = 128 := rfl
            have fc79 : (224 : Int32).toInt = 224 := rfl
            have fc81 : (31 : Int32).toInt = 31 := rfl
            have fo82 : (p0 &&& (31 : Int32)).toInt = p0.toInt % 32 := c_mask p0 (31 : Int32) 5 (by decide) (by decide)
            have fc83 : (255 : Int32).toInt = 255 := rfl
            have fo84 : (p0 &&& (255 : Int32)).toInt = p0.toInt % 256 := c_mask p0 (255 : Int32) 8 (by decide) (by decide)
            have fo80 := own_blk p0 (224 : Int32) (31 : Int32) (255 : Int32) (by decide) (by decide)
            have fo85 := c_and p0 (224 : Int32) (by decide)
            have fr86 := rng32 (p0 &&& (224 : Int32))
            have fc87 : (192 : Int32).toInt = 192 := rfl
            have fc88 : (2 : Int32).toInt = 2 := rfl
            have fr89 := rng32 p4
            have fr90 := rng32 p1
            have fr91 := rng32 r26
            have fc92 : (3 : Int32).toInt = 3 := rfl
            have fc93 : (4 : Int32).toInt = 4 := rfl
            have fr94 := rng32 v48
            have fc95 : (6 : Int32).toInt = 6 := rfl
            have fo96 : ((((p0 &&& (31 : Int32)) <<< ((6 : Int32) &&& 31))).toInt - (p0 &&& (31 : Int32)).toInt * 64) % 4294967296 = 0 := c_ishl (p0 &&& (31 : Int32)) (6 : Int32) 6 (by decide)
            have fr97 := rng32 ((p0 &&& (31 : Int32)) <<< ((6 : Int32) &&& 31))
            have fc98 : (63 : Int32).toInt = 63 := rfl
            have fo99 : (p1 &&& (63 : Int32)).toInt = p1.toInt % 64 := c_mask p1 (63 : Int32) 6 (by decide) (by decide)
            have fo100 := c_or ((p0 &&& (31 : Int32)) <<< ((6 : Int32) &&& 31)) (p1 &&& (63 : Int32)) 6 (by decide) 64 (by decide) (by omega) (by omega) (by omega)
            have fr101 := rng32 (((p0 &&& (31 : Int32)) <<< ((6 : Int32) &&& 31)) ||| (p1 &&& (63 : Int32)))
            have fe102 : (((p0 &&& (31 : Int32)) <<< ((6 : Int32) &&& 31)) ||| (p1 &&& (63 : Int32))).toInt = v48.toInt := congrArg Int32.toInt hv48
            exact g_retI C X24 rfl d2_143 eh29 (by decide) (by decide) ⟨_, rfl, by (simp only [own_seq]; (repeat' split) <;> omega), N30, rfl⟩
    · skip
      refine g_icmp_ne_t 26 C X0 d2_17 (by decide) (by decide) hb5 ?_
      refine g_iloadN 27 rfl C X0 d2_26 rfl ?_
      refine g_sipush 30 rfl C X0 (240 : Int32) d2_27 rfl ?_
      refine g_iand 31 rfl C X0 d2_30 ?_
      refine g_sipush 34 rfl C X0 (224 : Int32) d2_31 rfl ?_
      by_cases hb103 : (p0 &&& (240 : Int32)).toInt = (224 : Int32).toInt
      · skip
        refine g_icmp_ne_f 37 rfl C X0 d2_34 hb103 ?_
        refine g_iconst 38 rfl C X0 (3 : Int32) d2_37 rfl ?_
        refine g_istore 40 rfl C X0 (3 : Int32) rfl #[.val (.int p0), .val (.int p1), .val (.int p2), .val (.int p3), .val (.int p4), .val (.int (3 : Int32)), .unset] d2_38 rfl ?_
        refine g_goto 62 C X0 d2_40 (by decide) (by decide) ?_
        refine g_iload 64 rfl C X0 d2_62 rfl ?_
        refine g_iload 66 rfl C X0 d2_64 rfl ?_
        by_cases hb104 : p4.toInt < (3 : Int32).toInt
        · skip
          refine g_icmp_le_f 69 rfl C X0 d2_66 hb104 ?_
          refine g_iconst 70 rfl C X0 (0 : Int32) d2_69 rfl ?_
          have fr105 := rng32 p0
          have fc106 : (128 : Int32).toInt = 128 := rfl
          have fc107 : (224 : Int32).toInt = 224 := rfl
          have fc109 : (31 : Int32).toInt = 31 := rfl
          have fo110 : (p0 &&& (31 : Int32)).toInt = p0.toInt % 32 := c_mask p0 (31 : Int32) 5 (by decide) (by decide)
          have fc111 : (255 : Int32).toInt = 255 := rfl
          have fo112 : (p0 &&& (255 : Int32)).toInt = p0.toInt % 256 := c_mask p0 (255 : Int32) 8 (by decide) (by decide)
          have fo108 := own_blk p0 (224 : Int32) (31 : Int32) (255 : Int32) (by decide) (by decide)
          have fo113 := c_and p0 (224 : Int32) (by decide)
          have fr114 := rng32 (p0 &&& (224 : Int32))
          have fc115 : (192 : Int32).toInt = 192 := rfl
          have fc116 : (240 : Int32).toInt = 240 := rfl
          have fc118 : (15 : Int32).toInt = 15 := rfl
          have fo119 : (p0 &&& (15 : Int32)).toInt = p0.toInt % 16 := c_mask p0 (15 : Int32) 4 (by decide) (by decide)
          have fo117 := own_blk p0 (240 : Int32) (15 : Int32) (255 : Int32) (by decide) (by decide)
          have fo120 := c_and p0 (240 : Int32) (by decide)
          have fr121 := rng32 (p0 &&& (240 : Int32))
          have fc122 : (3 : Int32).toInt = 3 := rfl
          have fr123 := rng32 p4
          have fc124 : (0 : Int32).toInt = 0 := rfl
          exact g_retI C X0 rfl d2_70 e0 (by decide) (by decide) ⟨_, rfl, by (simp only [own_seq]; (repeat' split) <;> omega), N0, rfl⟩
        · skip
          refine g_icmp_le_t 71 C X0 d2_66 (by decide) (by decide) hb104 ?_
          refine g_iloadN 72 rfl C X0 d2_71 rfl ?_
          refine g_callS 75 rfl C X0 (argsL := [(.int p1)]) (hw _ (List.mem_of_getElem? (i := 10) rfl)) (hw _ (List.mem_of_getElem? (i := 11) rfl)) (hw _ (List.mem_of_getElem? (i := 12) rfl)) (hw _ (List.mem_of_getElem? (i := 8) rfl)) e0 (rm3 l Z a0 hw [] p1 h0 n0 Z0) (lenOf pd_52681301 rfl) (by decide) (by decide) (by decide) (by decide) rfl (W := 0) (Nat.le_of_eq rfl) (by decide) d2_72 rfl fun r125 T126 Lc127 X128 hQ129 => ?_
          obtain ⟨r130, rfl, hs131, Nq132, eh133⟩ := hQ129
          have N134 := Fr.app N0 Nq132
          show Goes _ _ _ _ _ _ 75 _ [(.int r130)]
          by_cases hb135 : r130.toInt = 0
          · skip
            refine g_if_ne_f 78 rfl C X128 d2_75 hb135 ?_
            refine g_iconst 79 rfl C X128 (0 : Int32) d2_78 rfl ?_
            have fr136 := rng32 p0
            have fc137 : (128 : Int32).toInt = 128 := rfl
            have fc138 : (224 : Int32).toInt = 224 := rfl
            have fc140 : (31 : Int32).toInt = 31 := rfl
            have fo141 : (p0 &&& (31 : Int32)).toInt = p0.toInt % 32 := c_mask p0 (31 : Int32) 5 (by decide) (by decide)
            have fc142 : (255 : Int32).toInt = 255 := rfl
            have fo143 : (p0 &&& (255 : Int32)).toInt = p0.toInt % 256 := c_mask p0 (255 : Int32) 8 (by decide) (by decide)
            have fo139 := own_blk p0 (224 : Int32) (31 : Int32) (255 : Int32) (by decide) (by decide)
            have fo144 := c_and p0 (224 : Int32) (by decide)
            have fr145 := rng32 (p0 &&& (224 : Int32))
            have fc146 : (192 : Int32).toInt = 192 := rfl
            have fc147 : (240 : Int32).toInt = 240 := rfl
            have fc149 : (15 : Int32).toInt = 15 := rfl
            have fo150 : (p0 &&& (15 : Int32)).toInt = p0.toInt % 16 := c_mask p0 (15 : Int32) 4 (by decide) (by decide)
            have fo148 := own_blk p0 (240 : Int32) (15 : Int32) (255 : Int32) (by decide) (by decide)
            have fo151 := c_and p0 (240 : Int32) (by decide)
            have fr152 := rng32 (p0 &&& (240 : Int32))
            have fc153 : (3 : Int32).toInt = 3 := rfl
            have fr154 := rng32 p4
            have fr155 := rng32 p1
            have fr156 := rng32 r130
            have fc157 : (0 : Int32).toInt = 0 := rfl
            exact g_retI C X128 rfl d2_79 eh133 (by decide) (by decide) ⟨_, rfl, by (simp only [own_seq]; (repeat' split) <;> omega), N134, rfl⟩
          · skip
            refine g_if_ne_t 80 C X128 d2_75 (by decide) (by decide) hb135 ?_
            refine g_iload 82 rfl C X128 d2_80 rfl ?_
            refine g_iconst 83 rfl C X128 (3 : Int32) d2_82 rfl ?_
            refine g_icmp_lt_f 86 rfl C X128 d2_83 (by decide) ?_
            refine g_iloadN 87 rfl C X128 d2_86 rfl ?_
            refine g_callS 90 rfl C X128 (argsL := [(.int p2)]) (hw _ (List.mem_of_getElem? (i := 10) rfl)) (hw _ (List.mem_of_getElem? (i := 11) rfl)) (hw _ (List.mem_of_getElem? (i := 12) rfl)) (hw _ (List.mem_of_getElem? (i := 8) rfl)) eh133 (rm3 l Z a0 hw [] p2 h0 n0 Z0) (lenOf pd_52681301 rfl) (by decide) (by decide) (by decide) (by decide) rfl (W := 0) (Nat.le_of_eq rfl) (by decide) d2_87 rfl fun r158 T159 Lc160 X161 hQ162 => ?_
            obtain ⟨r163, rfl, hs164, Nq165, eh166⟩ := hQ162
            have N167 := Fr.app N134 Nq165
            show Goes _ _ _ _ _ _ 90 _ [(.int r163)]
            by_cases hb168 : r163.toInt = 0
            · skip
              refine g_if_ne_f 93 rfl C X161 d2_90 hb168 ?_
              refine g_iconst 94 rfl C X161 (0 : Int32) d2_93 rfl ?_
              have fr169 := rng32 p0
              have fc170 : (128 : Int32).toInt = 128 := rfl
              have fc171 : (224 : Int32).toInt = 224 := rfl
              have fc173 : (31 : Int32).toInt = 31 := rfl
              have fo174 : (p0 &&& (31 : Int32)).toInt = p0.toInt % 32 := c_mask p0 (31 : Int32) 5 (by decide) (by decide)
              have fc175 : (255 : Int32).toInt = 255 := rfl
              have fo176 : (p0 &&& (255 : Int32)).toInt = p0.toInt % 256 := c_mask p0 (255 : Int32) 8 (by decide) (by decide)
              have fo172 := own_blk p0 (224 : Int32) (31 : Int32) (255 : Int32) (by decide) (by decide)
              have fo177 := c_and p0 (224 : Int32) (by decide)
              have fr178 := rng32 (p0 &&& (224 : Int32))
              have fc179 : (192 : Int32).toInt = 192 := rfl
              have fc180 : (240 : Int32).toInt = 240 := rfl
              have fc182 : (15 : Int32).toInt = 15 := rfl
              have fo183 : (p0 &&& (15 : Int32)).toInt = p0.toInt % 16 := c_mask p0 (15 : Int32) 4 (by decide) (by decide)
              have fo181 := own_blk p0 (240 : Int32) (15 : Int32) (255 : Int32) (by decide) (by decide)
              have fo184 := c_and p0 (240 : Int32) (by decide)
              have fr185 := rng32 (p0 &&& (240 : Int32))
              have fc186 : (3 : Int32).toInt = 3 := rfl
              have fr187 := rng32 p4
              have fr188 := rng32 p1
              have fr189 := rng32 r130
              have fr190 := rng32 p2
              have fr191 := rng32 r163
              have fc192 : (0 : Int32).toInt = 0 := rfl
              exact g_retI C X161 rfl d2_94 eh166 (by decide) (by decide) ⟨_, rfl, by (simp only [own_seq]; (repeat' split) <;> omega), N167, rfl⟩
            · skip
              refine g_if_ne_t 95 C X161 d2_90 (by decide) (by decide) hb168 ?_
              refine g_iload 97 rfl C X161 d2_95 rfl ?_
              refine g_iconst 98 rfl C X161 (4 : Int32) d2_97 rfl ?_
              refine g_icmp_ne_t 110 C X161 d2_98 (by decide) (by decide) (by decide) ?_
              refine g_iload 112 rfl C X161 d2_110 rfl ?_
              refine g_iconst 113 rfl C X161 (2 : Int32) d2_112 rfl ?_
              refine g_icmp_ne_t 144 C X161 d2_113 (by decide) (by decide) (by decide) ?_
              refine g_iload 146 rfl C X161 d2_144 rfl ?_
              refine g_iconst 147 rfl C X161 (3 : Int32) d2_146 rfl ?_
              refine g_icmp_ne_f 150 rfl C X161 d2_147 (by decide) ?_
              refine g_iloadN 151 rfl C X161 d2_150 rfl ?_
              refine g_bipush 153 rfl C X161 (15 : Int32) d2_151 rfl ?_
              refine g_iand 154 rfl C X161 d2_153 ?_
              refine g_bipush 156 rfl C X161 (12 : Int32) d2_154 rfl ?_
              refine g_ishl 157 rfl C X161 d2_156 ?_
              refine g_iloadN 158 rfl C X161 d2_157 rfl ?_
              refine g_bipush 160 rfl C X161 (63 : Int32) d2_158 rfl ?_
              refine g_iand 161 rfl C X161 d2_160 ?_
              refine g_bipush 163 rfl C X161 (6 : Int32) d2_161 rfl ?_
              refine g_ishl 164 rfl C X161 d2_163 ?_
              refine g_ior 165 rfl C X161 d2_164 ?_
              refine g_iloadN 166 rfl C X161 d2_165 rfl ?_
              refine g_bipush 168 rfl C X161 (63 : Int32) d2_166 rfl ?_
              refine g_iand 169 rfl C X161 d2_168 ?_
              refine g_ior 170 rfl C X161 d2_169 ?_
              obtain ⟨v193, hv193⟩ : ∃ z : Int32, ((((p0 &&& (15 : Int32)) <<< ((12 : Int32) &&& 31)) ||| ((p1 &&& (63 : Int32)) <<< ((6 : Int32) &&& 31))) ||| (p2 &&& (63 : Int32))) = z := ⟨_, rfl⟩
              refine g_istore 172 rfl C X161 v193 hv193 #[.val (.int p0), .val (.int p1), .val (.int p2), .val (.int p3), .val (.int p4), .val (.int (3 : Int32)), .val (.int v193)] d2_170 rfl ?_
              refine g_iload 174 rfl C X161 d2_172 rfl ?_
              refine g_sipush 177 rfl C X161 (2048 : Int32) d2_174 rfl ?_
              by_cases hb194 : v193.toInt < (2048 : Int32).toInt
              · skip
                refine g_icmp_lt_t 198 C X161 d2_177 (by decide) (by decide) hb194 ?_
                refine g_iconst 199 rfl C X161 (0 : Int32) d2_198 rfl ?_
                have fr195 := rng32 p0
                have fc196 : (128 : Int32).toInt = 128 := rfl
                have fc197 : (224 : Int32).toInt = 224 := rfl
                have fc199 : (31 : Int32).toInt = 31 := rfl
                have fo200 : (p0 &&& (31 : Int32)).toInt = p0.toInt % 32 := c_mask p0 (31 : Int32) 5 (by decide) (by decide)
                have fc201 : (255 : Int32).toInt = 255 := rfl
                have fo202 : (p0 &&& (255 : Int32)).toInt = p0.toInt % 256 := c_mask p0 (255 : Int32) 8 (by decide) (by decide)
                have fo198 := own_blk p0 (224 : Int32) (31 : Int32) (255 : Int32) (by decide) (by decide)
                have fo203 := c_and p0 (224 : Int32) (by decide)
                have fr204 := rng32 (p0 &&& (224 : Int32))
                have fc205 : (192 : Int32).toInt = 192 := rfl
                have fc206 : (240 : Int32).toInt = 240 := rfl
                have fc208 : (15 : Int32).toInt = 15 := rfl
                have fo209 : (p0 &&& (15 : Int32)).toInt = p0.toInt % 16 := c_mask p0 (15 : Int32) 4 (by decide) (by decide)
                have fo207 := own_blk p0 (240 : Int32) (15 : Int32) (255 : Int32) (by decide) (by decide)
                have fo210 := c_and p0 (240 : Int32) (by decide)
                have fr211 := rng32 (p0 &&& (240 : Int32))
                have fc212 : (3 : Int32).toInt = 3 := rfl
                have fr213 := rng32 p4
                have fr214 := rng32 p1
                have fr215 := rng32 r130
                have fr216 := rng32 p2
                have fr217 := rng32 r163
                have fc218 : (4 : Int32).toInt = 4 := rfl
                have fc219 : (2 : Int32).toInt = 2 := rfl
                have fr220 := rng32 v193
                have fc221 : (12 : Int32).toInt = 12 := rfl
                have fo222 : ((((p0 &&& (15 : Int32)) <<< ((12 : Int32) &&& 31))).toInt - (p0 &&& (15 : Int32)).toInt * 4096) % 4294967296 = 0 := c_ishl (p0 &&& (15 : Int32)) (12 : Int32) 12 (by decide)
                have fr223 := rng32 ((p0 &&& (15 : Int32)) <<< ((12 : Int32) &&& 31))
                have fc224 : (63 : Int32).toInt = 63 := rfl
                have fo225 : (p1 &&& (63 : Int32)).toInt = p1.toInt % 64 := c_mask p1 (63 : Int32) 6 (by decide) (by decide)
                have fc226 : (6 : Int32).toInt = 6 := rfl
                have fo227 : ((((p1 &&& (63 : Int32)) <<< ((6 : Int32) &&& 31))).toInt - (p1 &&& (63 : Int32)).toInt * 64) % 4294967296 = 0 := c_ishl (p1 &&& (63 : Int32)) (6 : Int32) 6 (by decide)
                have fr228 := rng32 ((p1 &&& (63 : Int32)) <<< ((6 : Int32) &&& 31))
                have fo229 := c_or ((p0 &&& (15 : Int32)) <<< ((12 : Int32) &&& 31)) ((p1 &&& (63 : Int32)) <<< ((6 : Int32) &&& 31)) 12 (by decide) 4096 (by decide) (by omega) (by omega) (by omega)
                have fr230 := rng32 (((p0 &&& (15 : Int32)) <<< ((12 : Int32) &&& 31)) ||| ((p1 &&& (63 : Int32)) <<< ((6 : Int32) &&& 31)))
                have fo231 : (p2 &&& (63 : Int32)).toInt = p2.toInt % 64 := c_mask p2 (63 : Int32) 6 (by decide) (by decide)
                have fo232 := c_or (((p0 &&& (15 : Int32)) <<< ((12 : Int32) &&& 31)) ||| ((p1 &&& (63 : Int32)) <<< ((6 : Int32) &&& 31))) (p2 &&& (63 : Int32)) 6 (by decide) 64 (by decide) (by omega) (by omega) (by omega)
                have fr233 := rng32 ((((p0 &&& (15 : Int32)) <<< ((12 : Int32) &&& 31)) ||| ((p1 &&& (63 : Int32)) <<< ((6 : Int32) &&& 31))) ||| (p2 &&& (63 : Int32)))
                have fe234 : ((((p0 &&& (15 : Int32)) <<< ((12 : Int32) &&& 31)) ||| ((p1 &&& (63 : Int32)) <<< ((6 : Int32) &&& 31))) ||| (p2 &&& (63 : Int32))).toInt = v193.toInt := congrArg Int32.toInt hv193
                have fc235 : (2048 : Int32).toInt = 2048 := rfl
                have fc236 : (0 : Int32).toInt = 0 := rfl
                exact g_retI C X161 rfl d2_199 eh166 (by decide) (by decide) ⟨_, rfl, by (simp only [own_seq]; (repeat' split) <;> omega), N167, rfl⟩
              · skip
                refine g_icmp_lt_f 180 rfl C X161 d2_177 hb194 ?_
                refine g_iload 182 rfl C X161 d2_180 rfl ?_
                refine g_ldc 184 rfl C X161 (hw _ (List.mem_of_getElem? (i := 13) rfl)) d2_182 ?_
                by_cases hb237 : v193.toInt < (55296 : Int32).toInt
                · skip
                  refine g_icmp_lt_t 194 C X161 d2_184 (by decide) (by decide) hb237 ?_
                  refine g_iconst 195 rfl C X161 (3 : Int32) d2_194 rfl ?_
                  refine g_goto 199 C X161 d2_195 (by decide) (by decide) ?_
                  have fr238 := rng32 p0
                  have fc239 : (128 : Int32).toInt = 128 := rfl
                  have fc240 : (224 : Int32).toInt = 224 := rfl
                  have fc242 : (31 : Int32).toInt = 31 := rfl
                  have fo243 : (p0 &&& (31 : Int32)).toInt = p0.toInt % 32 := c_mask p0 (31 : Int32) 5 (by decide) (by decide)
                  have fc244 : (255 : Int32).toInt = 255 := rfl
                  have fo245 : (p0 &&& (255 : Int32)).toInt = p0.toInt % 256 := c_mask p0 (255 : Int32) 8 (by decide) (by decide)
                  have fo241 := own_blk p0 (224 : Int32) (31 : Int32) (255 : Int32) (by decide) (by decide)
                  have fo246 := c_and p0 (224 : Int32) (by decide)
                  have fr247 := rng32 (p0 &&& (224 : Int32))
                  have fc248 : (192 : Int32).toInt = 192 := rfl
                  have fc249 : (240 : Int32).toInt = 240 := rfl
                  have fc251 : (15 : Int32).toInt = 15 := rfl
                  have fo252 : (p0 &&& (15 : Int32)).toInt = p0.toInt % 16 := c_mask p0 (15 : Int32) 4 (by decide) (by decide)
                  have fo250 := own_blk p0 (240 : Int32) (15 : Int32) (255 : Int32) (by decide) (by decide)
                  have fo253 := c_and p0 (240 : Int32) (by decide)
                  have fr254 := rng32 (p0 &&& (240 : Int32))
                  have fc255 : (3 : Int32).toInt = 3 := rfl
                  have fr256 := rng32 p4
                  have fr257 := rng32 p1
                  have fr258 := rng32 r130
                  have fr259 := rng32 p2
                  have fr260 := rng32 r163
                  have fc261 : (4 : Int32).toInt = 4 := rfl
                  have fc262 : (2 : Int32).toInt = 2 := rfl
                  have fr263 := rng32 v193
                  have fc264 : (12 : Int32).toInt = 12 := rfl
                  have fo265 : ((((p0 &&& (15 : Int32)) <<< ((12 : Int32) &&& 31))).toInt - (p0 &&& (15 : Int32)).toInt * 4096) % 4294967296 = 0 := c_ishl (p0 &&& (15 : Int32)) (12 : Int32) 12 (by decide)
                  have fr266 := rng32 ((p0 &&& (15 : Int32)) <<< ((12 : Int32) &&& 31))
                  have fc267 : (63 : Int32).toInt = 63 := rfl
                  have fo268 : (p1 &&& (63 : Int32)).toInt = p1.toInt % 64 := c_mask p1 (63 : Int32) 6 (by decide) (by decide)
                  have fc269 : (6 : Int32).toInt = 6 := rfl
                  have fo270 : ((((p1 &&& (63 : Int32)) <<< ((6 : Int32) &&& 31))).toInt - (p1 &&& (63 : Int32)).toInt * 64) % 4294967296 = 0 := c_ishl (p1 &&& (63 : Int32)) (6 : Int32) 6 (by decide)
                  have fr271 := rng32 ((p1 &&& (63 : Int32)) <<< ((6 : Int32) &&& 31))
                  have fo272 := c_or ((p0 &&& (15 : Int32)) <<< ((12 : Int32) &&& 31)) ((p1 &&& (63 : Int32)) <<< ((6 : Int32) &&& 31)) 12 (by decide) 4096 (by decide) (by omega) (by omega) (by omega)
                  have fr273 := rng32 (((p0 &&& (15 : Int32)) <<< ((12 : Int32) &&& 31)) ||| ((p1 &&& (63 : Int32)) <<< ((6 : Int32) &&& 31)))
                  have fo274 : (p2 &&& (63 : Int32)).toInt = p2.toInt % 64 := c_mask p2 (63 : Int32) 6 (by decide) (by decide)
                  have fo275 := c_or (((p0 &&& (15 : Int32)) <<< ((12 : Int32) &&& 31)) ||| ((p1 &&& (63 : Int32)) <<< ((6 : Int32) &&& 31))) (p2 &&& (63 : Int32)) 6 (by decide) 64 (by decide) (by omega) (by omega) (by omega)
                  have fr276 := rng32 ((((p0 &&& (15 : Int32)) <<< ((12 : Int32) &&& 31)) ||| ((p1 &&& (63 : Int32)) <<< ((6 : Int32) &&& 31))) ||| (p2 &&& (63 : Int32)))
                  have fe277 : ((((p0 &&& (15 : Int32)) <<< ((12 : Int32) &&& 31)) ||| ((p1 &&& (63 : Int32)) <<< ((6 : Int32) &&& 31))) ||| (p2 &&& (63 : Int32))).toInt = v193.toInt := congrArg Int32.toInt hv193
                  have fc278 : (2048 : Int32).toInt = 2048 := rfl
                  have fc279 : (55296 : Int32).toInt = 55296 := rfl
                  exact g_retI C X161 rfl d2_199 eh166 (by decide) (by decide) ⟨_, rfl, by (simp only [own_seq]; (repeat' split) <;> omega), N167, rfl⟩
                · skip
                  refine g_icmp_lt_f 187 rfl C X161 d2_184 hb237 ?_
                  refine g_iload 189 rfl C X161 d2_187 rfl ?_
                  refine g_ldc 191 rfl C X161 (hw _ (List.mem_of_getElem? (i := 14) rfl)) d2_189 ?_
                  by_cases hb280 : (57343 : Int32).toInt < v193.toInt
                  · skip
                    refine g_icmp_le_f 194 rfl C X161 d2_191 hb280 ?_
                    refine g_iconst 195 rfl C X161 (3 : Int32) d2_194 rfl ?_
                    refine g_goto 199 C X161 d2_195 (by decide) (by decide) ?_
                    have fr281 := rng32 p0
                    have fc282 : (128 : Int32).toInt = 128 := rfl
                    have fc283 : (224 : Int32).toInt = 224 := rfl
                    have fc285 : (31 : Int32).toInt = 31 := rfl
                    have fo286 : (p0 &&& (31 : Int32)).toInt = p0.toInt % 32 := c_mask p0 (31 : Int32) 5 (by decide) (by decide)
                    have fc287 : (255 : Int32).toInt = 255 := rfl
                    have fo288 : (p0 &&& (255 : Int32)).toInt = p0.toInt % 256 := c_mask p0 (255 : Int32) 8 (by decide) (by decide)
                    have fo284 := own_blk p0 (224 : Int32) (31 : Int32) (255 : Int32) (by decide) (by decide)
                    have fo289 := c_and p0 (224 : Int32) (by decide)
                    have fr290 := rng32 (p0 &&& (224 : Int32))
                    have fc291 : (192 : Int32).toInt = 192 := rfl
                    have fc292 : (240 : Int32).toInt = 240 := rfl
                    have fc294 : (15 : Int32).toInt = 15 := rfl
                    have fo295 : (p0 &&& (15 : Int32)).toInt = p0.toInt % 16 := c_mask p0 (15 : Int32) 4 (by decide) (by decide)
                    have fo293 := own_blk p0 (240 : Int32) (15 : Int32) (255 : Int32) (by decide) (by decide)
                    have fo296 := c_and p0 (240 : Int32) (by decide)
                    have fr297 := rng32 (p0 &&& (240 : Int32))
                    have fc298 : (3 : Int32).toInt = 3 := rfl
                    have fr299 := rng32 p4
                    have fr300 := rng32 p1
                    have fr301 := rng32 r130
                    have fr302 := rng32 p2
                    have fr303 := rng32 r163
                    have fc304 : (4 : Int32).toInt = 4 := rfl
                    have fc305 : (2 : Int32).toInt = 2 := rfl
                    have fr306 := rng32 v193
                    have fc307 : (12 : Int32).toInt = 12 := rfl
                    have fo308 : ((((p0 &&& (15 : Int32)) <<< ((12 : Int32) &&& 31))).toInt - (p0 &&& (15 : Int32)).toInt * 4096) % 4294967296 = 0 := c_ishl (p0 &&& (15 : Int32)) (12 : Int32) 12 (by decide)
                    have fr309 := rng32 ((p0 &&& (15 : Int32)) <<< ((12 : Int32) &&& 31))
                    have fc310 : (63 : Int32).toInt = 63 := rfl
                    have fo311 : (p1 &&& (63 : Int32)).toInt = p1.toInt % 64 := c_mask p1 (63 : Int32) 6 (by decide) (by decide)
                    have fc312 : (6 : Int32).toInt = 6 := rfl
                    have fo313 : ((((p1 &&& (63 : Int32)) <<< ((6 : Int32) &&& 31))).toInt - (p1 &&& (63 : Int32)).toInt * 64) % 4294967296 = 0 := c_ishl (p1 &&& (63 : Int32)) (6 : Int32) 6 (by decide)
                    have fr314 := rng32 ((p1 &&& (63 : Int32)) <<< ((6 : Int32) &&& 31))
                    have fo315 := c_or ((p0 &&& (15 : Int32)) <<< ((12 : Int32) &&& 31)) ((p1 &&& (63 : Int32)) <<< ((6 : Int32) &&& 31)) 12 (by decide) 4096 (by decide) (by omega) (by omega) (by omega)
                    have fr316 := rng32 (((p0 &&& (15 : Int32)) <<< ((12 : Int32) &&& 31)) ||| ((p1 &&& (63 : Int32)) <<< ((6 : Int32) &&& 31)))
                    have fo317 : (p2 &&& (63 : Int32)).toInt = p2.toInt % 64 := c_mask p2 (63 : Int32) 6 (by decide) (by decide)
                    have fo318 := c_or (((p0 &&& (15 : Int32)) <<< ((12 : Int32) &&& 31)) ||| ((p1 &&& (63 : Int32)) <<< ((6 : Int32) &&& 31))) (p2 &&& (63 : Int32)) 6 (by decide) 64 (by decide) (by omega) (by omega) (by omega)
                    have fr319 := rng32 ((((p0 &&& (15 : Int32)) <<< ((12 : Int32) &&& 31)) ||| ((p1 &&& (63 : Int32)) <<< ((6 : Int32) &&& 31))) ||| (p2 &&& (63 : Int32)))
                    have fe320 : ((((p0 &&& (15 : Int32)) <<< ((12 : Int32) &&& 31)) ||| ((p1 &&& (63 : Int32)) <<< ((6 : Int32) &&& 31))) ||| (p2 &&& (63 : Int32))).toInt = v193.toInt := congrArg Int32.toInt hv193
                    have fc321 : (2048 : Int32).toInt = 2048 := rfl
                    have fc322 : (55296 : Int32).toInt = 55296 := rfl
                    have fc323 : (57343 : Int32).toInt = 57343 := rfl
                    exact g_retI C X161 rfl d2_199 eh166 (by decide) (by decide) ⟨_, rfl, by (simp only [own_seq]; (repeat' split) <;> omega), N167, rfl⟩
                  · skip
                    refine g_icmp_le_t 198 C X161 d2_191 (by decide) (by decide) hb280 ?_
                    refine g_iconst 199 rfl C X161 (0 : Int32) d2_198 rfl ?_
                    have fr324 := rng32 p0
                    have fc325 : (128 : Int32).toInt = 128 := rfl
                    have fc326 : (224 : Int32).toInt = 224 := rfl
                    have fc328 : (31 : Int32).toInt = 31 := rfl
                    have fo329 : (p0 &&& (31 : Int32)).toInt = p0.toInt % 32 := c_mask p0 (31 : Int32) 5 (by decide) (by decide)
                    have fc330 : (255 : Int32).toInt = 255 := rfl
                    have fo331 : (p0 &&& (255 : Int32)).toInt = p0.toInt % 256 := c_mask p0 (255 : Int32) 8 (by decide) (by decide)
                    have fo327 := own_blk p0 (224 : Int32) (31 : Int32) (255 : Int32) (by decide) (by decide)
                    have fo332 := c_and p0 (224 : Int32) (by decide)
                    have fr333 := rng32 (p0 &&& (224 : Int32))
                    have fc334 : (192 : Int32).toInt = 192 := rfl
                    have fc335 : (240 : Int32).toInt = 240 := rfl
                    have fc337 : (15 : Int32).toInt = 15 := rfl
                    have fo338 : (p0 &&& (15 : Int32)).toInt = p0.toInt % 16 := c_mask p0 (15 : Int32) 4 (by decide) (by decide)
                    have fo336 := own_blk p0 (240 : Int32) (15 : Int32) (255 : Int32) (by decide) (by decide)
                    have fo339 := c_and p0 (240 : Int32) (by decide)
                    have fr340 := rng32 (p0 &&& (240 : Int32))
                    have fc341 : (3 : Int32).toInt = 3 := rfl
                    have fr342 := rng32 p4
                    have fr343 := rng32 p1
                    have fr344 := rng32 r130
                    have fr345 := rng32 p2
                    have fr346 := rng32 r163
                    have fc347 : (4 : Int32).toInt = 4 := rfl
                    have fc348 : (2 : Int32).toInt = 2 := rfl
                    have fr349 := rng32 v193
                    have fc350 : (12 : Int32).toInt = 12 := rfl
                    have fo351 : ((((p0 &&& (15 : Int32)) <<< ((12 : Int32) &&& 31))).toInt - (p0 &&& (15 : Int32)).toInt * 4096) % 4294967296 = 0 := c_ishl (p0 &&& (15 : Int32)) (12 : Int32) 12 (by decide)
                    have fr352 := rng32 ((p0 &&& (15 : Int32)) <<< ((12 : Int32) &&& 31))
                    have fc353 : (63 : Int32).toInt = 63 := rfl
                    have fo354 : (p1 &&& (63 : Int32)).toInt = p1.toInt % 64 := c_mask p1 (63 : Int32) 6 (by decide) (by decide)
                    have fc355 : (6 : Int32).toInt = 6 := rfl
                    have fo356 : ((((p1 &&& (63 : Int32)) <<< ((6 : Int32) &&& 31))).toInt - (p1 &&& (63 : Int32)).toInt * 64) % 4294967296 = 0 := c_ishl (p1 &&& (63 : Int32)) (6 : Int32) 6 (by decide)
                    have fr357 := rng32 ((p1 &&& (63 : Int32)) <<< ((6 : Int32) &&& 31))
                    have fo358 := c_or ((p0 &&& (15 : Int32)) <<< ((12 : Int32) &&& 31)) ((p1 &&& (63 : Int32)) <<< ((6 : Int32) &&& 31)) 12 (by decide) 4096 (by decide) (by omega) (by omega) (by omega)
                    have fr359 := rng32 (((p0 &&& (15 : Int32)) <<< ((12 : Int32) &&& 31)) ||| ((p1 &&& (63 : Int32)) <<< ((6 : Int32) &&& 31)))
                    have fo360 : (p2 &&& (63 : Int32)).toInt = p2.toInt % 64 := c_mask p2 (63 : Int32) 6 (by decide) (by decide)
                    have fo361 := c_or (((p0 &&& (15 : Int32)) <<< ((12 : Int32) &&& 31)) ||| ((p1 &&& (63 : Int32)) <<< ((6 : Int32) &&& 31))) (p2 &&& (63 : Int32)) 6 (by decide) 64 (by decide) (by omega) (by omega) (by omega)
                    have fr362 := rng32 ((((p0 &&& (15 : Int32)) <<< ((12 : Int32) &&& 31)) ||| ((p1 &&& (63 : Int32)) <<< ((6 : Int32) &&& 31))) ||| (p2 &&& (63 : Int32)))
                    have fe363 : ((((p0 &&& (15 : Int32)) <<< ((12 : Int32) &&& 31)) ||| ((p1 &&& (63 : Int32)) <<< ((6 : Int32) &&& 31))) ||| (p2 &&& (63 : Int32))).toInt = v193.toInt := congrArg Int32.toInt hv193
                    have fc364 : (2048 : Int32).toInt = 2048 := rfl
                    have fc365 : (55296 : Int32).toInt = 55296 := rfl
                    have fc366 : (57343 : Int32).toInt = 57343 := rfl
                    have fc367 : (0 : Int32).toInt = 0 := rfl
                    exact g_retI C X161 rfl d2_199 eh166 (by decide) (by decide) ⟨_, rfl, by (simp only [own_seq]; (repeat' split) <;> omega), N167, rfl⟩
      · skip
        refine g_icmp_ne_t 43 C X0 d2_34 (by decide) (by decide) hb103 ?_
        refine g_iloadN 44 rfl C X0 d2_43 rfl ?_
        refine g_sipush 47 rfl C X0 (248 : Int32) d2_44 rfl ?_
        refine g_iand 48 rfl C X0 d2_47 ?_
        refine g_sipush 51 rfl C X0 (240 : Int32) d2_48 rfl ?_
        by_cases hb368 : (p0 &&& (248 : Int32)).toInt = (240 : Int32).toInt
        · skip
          refine g_icmp_ne_f 54 rfl C X0 d2_51 hb368 ?_
          refine g_iconst 55 rfl C X0 (4 : Int32) d2_54 rfl ?_
          refine g_istore 57 rfl C X0 (4 : Int32) rfl #[.val (.int p0), .val (.int p1), .val (.int p2), .val (.int p3), .val (.int p4), .val (.int (4 : Int32)), .unset] d2_55 rfl ?_
          refine g_goto 62 C X0 d2_57 (by decide) (by decide) ?_
          refine g_iload 64 rfl C X0 d2_62 rfl ?_
          refine g_iload 66 rfl C X0 d2_64 rfl ?_
          by_cases hb369 : p4.toInt < (4 : Int32).toInt
          · skip
            refine g_icmp_le_f 69 rfl C X0 d2_66 hb369 ?_
            refine g_iconst 70 rfl C X0 (0 : Int32) d2_69 rfl ?_
            have fr370 := rng32 p0
            have fc371 : (128 : Int32).toInt = 128 := rfl
            have fc372 : (224 : Int32).toInt = 224 := rfl
            have fc374 : (31 : Int32).toInt = 31 := rfl
            have fo375 : (p0 &&& (31 : Int32)).toInt = p0.toInt % 32 := c_mask p0 (31 : Int32) 5 (by decide) (by decide)
            have fc376 : (255 : Int32).toInt = 255 := rfl
            have fo377 : (p0 &&& (255 : Int32)).toInt = p0.toInt % 256 := c_mask p0 (255 : Int32) 8 (by decide) (by decide)
            have fo373 := own_blk p0 (224 : Int32) (31 : Int32) (255 : Int32) (by decide) (by decide)
            have fo378 := c_and p0 (224 : Int32) (by decide)
            have fr379 := rng32 (p0 &&& (224 : Int32))
            have fc380 : (192 : Int32).toInt = 192 := rfl
            have fc381 : (240 : Int32).toInt = 240 := rfl
            have fc383 : (15 : Int32).toInt = 15 := rfl
            have fo384 : (p0 &&& (15 : Int32)).toInt = p0.toInt % 16 := c_mask p0 (15 : Int32) 4 (by decide) (by decide)
            have fo382 := own_blk p0 (240 : Int32) (15 : Int32) (255 : Int32) (by decide) (by decide)
            have fo385 := c_and p0 (240 : Int32) (by decide)
            have fr386 := rng32 (p0 &&& (240 : Int32))
            have fc387 : (248 : Int32).toInt = 248 := rfl
            have fc389 : (7 : Int32).toInt = 7 := rfl
            have fo390 : (p0 &&& (7 : Int32)).toInt = p0.toInt % 8 := c_mask p0 (7 : Int32) 3 (by decide) (by decide)
            have fo388 := own_blk p0 (248 : Int32) (7 : Int32) (255 : Int32) (by decide) (by decide)
            have fo391 := c_and p0 (248 : Int32) (by decide)
            have fr392 := rng32 (p0 &&& (248 : Int32))
            have fc393 : (4 : Int32).toInt = 4 := rfl
            have fr394 := rng32 p4
            have fc395 : (0 : Int32).toInt = 0 := rfl
            exact g_retI C X0 rfl d2_70 e0 (by decide) (by decide) ⟨_, rfl, by (simp only [own_seq]; (repeat' split) <;> omega), N0, rfl⟩
          · skip
            refine g_icmp_le_t 71 C X0 d2_66 (by decide) (by decide) hb369 ?_
            refine g_iloadN 72 rfl C X0 d2_71 rfl ?_
            refine g_callS 75 rfl C X0 (argsL := [(.int p1)]) (hw _ (List.mem_of_getElem? (i := 10) rfl)) (hw _ (List.mem_of_getElem? (i := 11) rfl)) (hw _ (List.mem_of_getElem? (i := 12) rfl)) (hw _ (List.mem_of_getElem? (i := 8) rfl)) e0 (rm3 l Z a0 hw [] p1 h0 n0 Z0) (lenOf pd_52681301 rfl) (by decide) (by decide) (by decide) (by decide) rfl (W := 0) (Nat.le_of_eq rfl) (by decide) d2_72 rfl fun r396 T397 Lc398 X399 hQ400 => ?_
            obtain ⟨r401, rfl, hs402, Nq403, eh404⟩ := hQ400
            have N405 := Fr.app N0 Nq403
            show Goes _ _ _ _ _ _ 75 _ [(.int r401)]
            by_cases hb406 : r401.toInt = 0
            · skip
              refine g_if_ne_f 78 rfl C X399 d2_75 hb406 ?_
              refine g_iconst 79 rfl C X399 (0 : Int32) d2_78 rfl ?_
              have fr407 := rng32 p0
              have fc408 : (128 : Int32).toInt = 128 := rfl
              have fc409 : (224 : Int32).toInt = 224 := rfl
              have fc411 : (31 : Int32).toInt = 31 := rfl
              have fo412 : (p0 &&& (31 : Int32)).toInt = p0.toInt % 32 := c_mask p0 (31 : Int32) 5 (by decide) (by decide)
              have fc413 : (255 : Int32).toInt = 255 := rfl
              have fo414 : (p0 &&& (255 : Int32)).toInt = p0.toInt % 256 := c_mask p0 (255 : Int32) 8 (by decide) (by decide)
              have fo410 := own_blk p0 (224 : Int32) (31 : Int32) (255 : Int32) (by decide) (by decide)
              have fo415 := c_and p0 (224 : Int32) (by decide)
              have fr416 := rng32 (p0 &&& (224 : Int32))
              have fc417 : (192 : Int32).toInt = 192 := rfl
              have fc418 : (240 : Int32).toInt = 240 := rfl
              have fc420 : (15 : Int32).toInt = 15 := rfl
              have fo421 : (p0 &&& (15 : Int32)).toInt = p0.toInt % 16 := c_mask p0 (15 : Int32) 4 (by decide) (by decide)
              have fo419 := own_blk p0 (240 : Int32) (15 : Int32) (255 : Int32) (by decide) (by decide)
              have fo422 := c_and p0 (240 : Int32) (by decide)
              have fr423 := rng32 (p0 &&& (240 : Int32))
              have fc424 : (248 : Int32).toInt = 248 := rfl
              have fc426 : (7 : Int32).toInt = 7 := rfl
              have fo427 : (p0 &&& (7 : Int32)).toInt = p0.toInt % 8 := c_mask p0 (7 : Int32) 3 (by decide) (by decide)
              have fo425 := own_blk p0 (248 : Int32) (7 : Int32) (255 : Int32) (by decide) (by decide)
              have fo428 := c_and p0 (248 : Int32) (by decide)
              have fr429 := rng32 (p0 &&& (248 : Int32))
              have fc430 : (4 : Int32).toInt = 4 := rfl
              have fr431 := rng32 p4
              have fr432 := rng32 p1
              have fr433 := rng32 r401
              have fc434 : (0 : Int32).toInt = 0 := rfl
              exact g_retI C X399 rfl d2_79 eh404 (by decide) (by decide) ⟨_, rfl, by (simp only [own_seq]; (repeat' split) <;> omega), N405, rfl⟩
            · skip
              refine g_if_ne_t 80 C X399 d2_75 (by decide) (by decide) hb406 ?_
              refine g_iload 82 rfl C X399 d2_80 rfl ?_
              refine g_iconst 83 rfl C X399 (3 : Int32) d2_82 rfl ?_
              refine g_icmp_lt_f 86 rfl C X399 d2_83 (by decide) ?_
              refine g_iloadN 87 rfl C X399 d2_86 rfl ?_
              refine g_callS 90 rfl C X399 (argsL := [(.int p2)]) (hw _ (List.mem_of_getElem? (i := 10) rfl)) (hw _ (List.mem_of_getElem? (i := 11) rfl)) (hw _ (List.mem_of_getElem? (i := 12) rfl)) (hw _ (List.mem_of_getElem? (i := 8) rfl)) eh404 (rm3 l Z a0 hw [] p2 h0 n0 Z0) (lenOf pd_52681301 rfl) (by decide) (by decide) (by decide) (by decide) rfl (W := 0) (Nat.le_of_eq rfl) (by decide) d2_87 rfl fun r435 T436 Lc437 X438 hQ439 => ?_
              obtain ⟨r440, rfl, hs441, Nq442, eh443⟩ := hQ439
              have N444 := Fr.app N405 Nq442
              show Goes _ _ _ _ _ _ 90 _ [(.int r440)]
              by_cases hb445 : r440.toInt = 0
              · skip
                refine g_if_ne_f 93 rfl C X438 d2_90 hb445 ?_
                refine g_iconst 94 rfl C X438 (0 : Int32) d2_93 rfl ?_
                have fr446 := rng32 p0
                have fc447 : (128 : Int32).toInt = 128 := rfl
                have fc448 : (224 : Int32).toInt = 224 := rfl
                have fc450 : (31 : Int32).toInt = 31 := rfl
                have fo451 : (p0 &&& (31 : Int32)).toInt = p0.toInt % 32 := c_mask p0 (31 : Int32) 5 (by decide) (by decide)
                have fc452 : (255 : Int32).toInt = 255 := rfl
                have fo453 : (p0 &&& (255 : Int32)).toInt = p0.toInt % 256 := c_mask p0 (255 : Int32) 8 (by decide) (by decide)
                have fo449 := own_blk p0 (224 : Int32) (31 : Int32) (255 : Int32) (by decide) (by decide)
                have fo454 := c_and p0 (224 : Int32) (by decide)
                have fr455 := rng32 (p0 &&& (224 : Int32))
                have fc456 : (192 : Int32).toInt = 192 := rfl
                have fc457 : (240 : Int32).toInt = 240 := rfl
                have fc459 : (15 : Int32).toInt = 15 := rfl
                have fo460 : (p0 &&& (15 : Int32)).toInt = p0.toInt % 16 := c_mask p0 (15 : Int32) 4 (by decide) (by decide)
                have fo458 := own_blk p0 (240 : Int32) (15 : Int32) (255 : Int32) (by decide) (by decide)
                have fo461 := c_and p0 (240 : Int32) (by decide)
                have fr462 := rng32 (p0 &&& (240 : Int32))
                have fc463 : (248 : Int32).toInt = 248 := rfl
                have fc465 : (7 : Int32).toInt = 7 := rfl
                have fo466 : (p0 &&& (7 : Int32)).toInt = p0.toInt % 8 := c_mask p0 (7 : Int32) 3 (by decide) (by decide)
                have fo464 := own_blk p0 (248 : Int32) (7 : Int32) (255 : Int32) (by decide) (by decide)
                have fo467 := c_and p0 (248 : Int32) (by decide)
                have fr468 := rng32 (p0 &&& (248 : Int32))
                have fc469 : (4 : Int32).toInt = 4 := rfl
                have fr470 := rng32 p4
                have fr471 := rng32 p1
                have fr472 := rng32 r401
                have fc473 : (3 : Int32).toInt = 3 := rfl
                have fr474 := rng32 p2
                have fr475 := rng32 r440
                have fc476 : (0 : Int32).toInt = 0 := rfl
                exact g_retI C X438 rfl d2_94 eh443 (by decide) (by decide) ⟨_, rfl, by (simp only [own_seq]; (repeat' split) <;> omega), N444, rfl⟩
              · skip
                refine g_if_ne_t 95 C X438 d2_90 (by decide) (by decide) hb445 ?_
                refine g_iload 97 rfl C X438 d2_95 rfl ?_
                refine g_iconst 98 rfl C X438 (4 : Int32) d2_97 rfl ?_
                refine g_icmp_ne_f 101 rfl C X438 d2_98 (by decide) ?_
                refine g_iloadN 102 rfl C X438 d2_101 rfl ?_
                refine g_callS 105 rfl C X438 (argsL := [(.int p3)]) (hw _ (List.mem_of_getElem? (i := 10) rfl)) (hw _ (List.mem_of_getElem? (i := 11) rfl)) (hw _ (List.mem_of_getElem? (i := 12) rfl)) (hw _ (List.mem_of_getElem? (i := 8) rfl)) eh443 (rm3 l Z a0 hw [] p3 h0 n0 Z0) (lenOf pd_52681301 rfl) (by decide) (by decide) (by decide) (by decide) rfl (W := 0) (Nat.le_of_eq rfl) (by decide) d2_102 rfl fun r477 T478 Lc479 X480 hQ481 => ?_
                obtain ⟨r482, rfl, hs483, Nq484, eh485⟩ := hQ481
                have N486 := Fr.app N444 Nq484
                show Goes _ _ _ _ _ _ 105 _ [(.int r482)]
                by_cases hb487 : r482.toInt = 0
                · skip
                  refine g_if_ne_f 108 rfl C X480 d2_105 hb487 ?_
                  refine g_iconst 109 rfl C X480 (0 : Int32) d2_108 rfl ?_
                  have fr488 := rng32 p0
                  have fc489 : (128 : Int32).toInt = 128 := rfl
                  have fc490 : (224 : Int32).toInt = 224 := rfl
                  have fc492 : (31 : Int32).toInt = 31 := rfl
                  have fo493 : (p0 &&& (31 : Int32)).toInt = p0.toInt % 32 := c_mask p0 (31 : Int32) 5 (by decide) (by decide)
                  have fc494 : (255 : Int32).toInt = 255 := rfl
                  have fo495 : (p0 &&& (255 : Int32)).toInt = p0.toInt % 256 := c_mask p0 (255 : Int32) 8 (by decide) (by decide)
                  have fo491 := own_blk p0 (224 : Int32) (31 : Int32) (255 : Int32) (by decide) (by decide)
                  have fo496 := c_and p0 (224 : Int32) (by decide)
                  have fr497 := rng32 (p0 &&& (224 : Int32))
                  have fc498 : (192 : Int32).toInt = 192 := rfl
                  have fc499 : (240 : Int32).toInt = 240 := rfl
                  have fc501 : (15 : Int32).toInt = 15 := rfl
                  have fo502 : (p0 &&& (15 : Int32)).toInt = p0.toInt % 16 := c_mask p0 (15 : Int32) 4 (by decide) (by decide)
                  have fo500 := own_blk p0 (240 : Int32) (15 : Int32) (255 : Int32) (by decide) (by decide)
                  have fo503 := c_and p0 (240 : Int32) (by decide)
                  have fr504 := rng32 (p0 &&& (240 : Int32))
                  have fc505 : (248 : Int32).toInt = 248 := rfl
                  have fc507 : (7 : Int32).toInt = 7 := rfl
                  have fo508 : (p0 &&& (7 : Int32)).toInt = p0.toInt % 8 := c_mask p0 (7 : Int32) 3 (by decide) (by decide)
                  have fo506 := own_blk p0 (248 : Int32) (7 : Int32) (255 : Int32) (by decide) (by decide)
                  have fo509 := c_and p0 (248 : Int32) (by decide)
                  have fr510 := rng32 (p0 &&& (248 : Int32))
                  have fc511 : (4 : Int32).toInt = 4 := rfl
                  have fr512 := rng32 p4
                  have fr513 := rng32 p1
                  have fr514 := rng32 r401
                  have fc515 : (3 : Int32).toInt = 3 := rfl
                  have fr516 := rng32 p2
                  have fr517 := rng32 r440
                  have fr518 := rng32 p3
                  have fr519 := rng32 r482
                  have fc520 : (0 : Int32).toInt = 0 := rfl
                  exact g_retI C X480 rfl d2_109 eh485 (by decide) (by decide) ⟨_, rfl, by (simp only [own_seq]; (repeat' split) <;> omega), N486, rfl⟩
                · skip
                  refine g_if_ne_t 110 C X480 d2_105 (by decide) (by decide) hb487 ?_
                  refine g_iload 112 rfl C X480 d2_110 rfl ?_
                  refine g_iconst 113 rfl C X480 (2 : Int32) d2_112 rfl ?_
                  refine g_icmp_ne_t 144 C X480 d2_113 (by decide) (by decide) (by decide) ?_
                  refine g_iload 146 rfl C X480 d2_144 rfl ?_
                  refine g_iconst 147 rfl C X480 (3 : Int32) d2_146 rfl ?_
                  refine g_icmp_ne_t 200 C X480 d2_147 (by decide) (by decide) (by decide) ?_
                  refine g_iloadN 201 rfl C X480 d2_200 rfl ?_
                  refine g_bipush 203 rfl C X480 (7 : Int32) d2_201 rfl ?_
                  refine g_iand 204 rfl C X480 d2_203 ?_
                  refine g_bipush 206 rfl C X480 (18 : Int32) d2_204 rfl ?_
                  refine g_ishl 207 rfl C X480 d2_206 ?_
                  refine g_iloadN 208 rfl C X480 d2_207 rfl ?_
                  refine g_bipush 210 rfl C X480 (63 : Int32) d2_208 rfl ?_
                  refine g_iand 211 rfl C X480 d2_210 ?_
                  refine g_bipush 213 rfl C X480 (12 : Int32) d2_211 rfl ?_
                  refine g_ishl 214 rfl C X480 d2_213 ?_
                  refine g_ior 215 rfl C X480 d2_214 ?_
                  refine g_iloadN 216 rfl C X480 d2_215 rfl ?_
                  refine g_bipush 218 rfl C X480 (63 : Int32) d2_216 rfl ?_
                  refine g_iand 219 rfl C X480 d2_218 ?_
                  refine g_bipush 221 rfl C X480 (6 : Int32) d2_219 rfl ?_
                  refine g_ishl 222 rfl C X480 d2_221 ?_
                  refine g_ior 223 rfl C X480 d2_222 ?_
                  refine g_iloadN 224 rfl C X480 d2_223 rfl ?_
                  refine g_bipush 226 rfl C X480 (63 : Int32) d2_224 rfl ?_
                  refine g_iand 227 rfl C X480 d2_226 ?_
                  refine g_ior 228 rfl C X480 d2_227 ?_
                  obtain ⟨v521, hv521⟩ : ∃ z : Int32, (((((p0 &&& (7 : Int32)) <<< ((18 : Int32) &&& 31)) ||| ((p1 &&& (63 : Int32)) <<< ((12 : Int32) &&& 31))) ||| ((p2 &&& (63 : Int32)) <<< ((6 : Int32) &&& 31))) ||| (p3 &&& (63 : Int32))) = z := ⟨_, rfl⟩
                  refine g_istore 230 rfl C X480 v521 hv521 #[.val (.int p0), .val (.int p1), .val (.int p2), .val (.int p3), .val (.int p4), .val (.int (4 : Int32)), .val (.int v521)] d2_228 rfl ?_
                  refine g_iload 232 rfl C X480 d2_230 rfl ?_
                  refine g_ldc 234 rfl C X480 (hw _ (List.mem_of_getElem? (i := 15) rfl)) d2_232 ?_
                  by_cases hb522 : v521.toInt < (65536 : Int32).toInt
                  · skip
                    refine g_icmp_lt_t 248 C X480 d2_234 (by decide) (by decide) hb522 ?_
                    refine g_iconst 249 rfl C X480 (0 : Int32) d2_248 rfl ?_
                    have fr523 := rng32 p0
                    have fc524 : (128 : Int32).toInt = 128 := rfl
                    have fc525 : (224 : Int32).toInt = 224 := rfl
                    have fc527 : (31 : Int32).toInt = 31 := rfl
                    have fo528 : (p0 &&& (31 : Int32)).toInt = p0.toInt % 32 := c_mask p0 (31 : Int32) 5 (by decide) (by decide)
                    have fc529 : (255 : Int32).toInt = 255 := rfl
                    have fo530 : (p0 &&& (255 : Int32)).toInt = p0.toInt % 256 := c_mask p0 (255 : Int32) 8 (by decide) (by decide)
                    have fo526 := own_blk p0 (224 : Int32) (31 : Int32) (255 : Int32) (by decide) (by decide)
                    have fo531 := c_and p0 (224 : Int32) (by decide)
                    have fr532 := rng32 (p0 &&& (224 : Int32))
                    have fc533 : (192 : Int32).toInt = 192 := rfl
                    have fc534 : (240 : Int32).toInt = 240 := rfl
                    have fc536 : (15 : Int32).toInt = 15 := rfl
                    have fo537 : (p0 &&& (15 : Int32)).toInt = p0.toInt % 16 := c_mask p0 (15 : Int32) 4 (by decide) (by decide)
                    have fo535 := own_blk p0 (240 : Int32) (15 : Int32) (255 : Int32) (by decide) (by decide)
                    have fo538 := c_and p0 (240 : Int32) (by decide)
                    have fr539 := rng32 (p0 &&& (240 : Int32))
                    have fc540 : (248 : Int32).toInt = 248 := rfl
                    have fc542 : (7 : Int32).toInt = 7 := rfl
                    have fo543 : (p0 &&& (7 : Int32)).toInt = p0.toInt % 8 := c_mask p0 (7 : Int32) 3 (by decide) (by decide)
                    have fo541 := own_blk p0 (248 : Int32) (7 : Int32) (255 : Int32) (by decide) (by decide)
                    have fo544 := c_and p0 (248 : Int32) (by decide)
                    have fr545 := rng32 (p0 &&& (248 : Int32))
                    have fc546 : (4 : Int32).toInt = 4 := rfl
                    have fr547 := rng32 p4
                    have fr548 := rng32 p1
                    have fr549 := rng32 r401
                    have fc550 : (3 : Int32).toInt = 3 := rfl
                    have fr551 := rng32 p2
                    have fr552 := rng32 r440
                    have fr553 := rng32 p3
                    have fr554 := rng32 r482
                    have fc555 : (2 : Int32).toInt = 2 := rfl
                    have fr556 := rng32 v521
                    have fc557 : (18 : Int32).toInt = 18 := rfl
                    have fo558 : ((((p0 &&& (7 : Int32)) <<< ((18 : Int32) &&& 31))).toInt - (p0 &&& (7 : Int32)).toInt * 262144) % 4294967296 = 0 := c_ishl (p0 &&& (7 : Int32)) (18 : Int32) 18 (by decide)
                    have fr559 := rng32 ((p0 &&& (7 : Int32)) <<< ((18 : Int32) &&& 31))
                    have fc560 : (63 : Int32).toInt = 63 := rfl
                    have fo561 : (p1 &&& (63 : Int32)).toInt = p1.toInt % 64 := c_mask p1 (63 : Int32) 6 (by decide) (by decide)
                    have fc562 : (12 : Int32).toInt = 12 := rfl
                    have fo563 : ((((p1 &&& (63 : Int32)) <<< ((12 : Int32) &&& 31))).toInt - (p1 &&& (63 : Int32)).toInt * 4096) % 4294967296 = 0 := c_ishl (p1 &&& (63 : Int32)) (12 : Int32) 12 (by decide)
                    have fr564 := rng32 ((p1 &&& (63 : Int32)) <<< ((12 : Int32) &&& 31))
                    have fo565 := c_or ((p0 &&& (7 : Int32)) <<< ((18 : Int32) &&& 31)) ((p1 &&& (63 : Int32)) <<< ((12 : Int32) &&& 31)) 18 (by decide) 262144 (by decide) (by omega) (by omega) (by omega)
                    have fr566 := rng32 (((p0 &&& (7 : Int32)) <<< ((18 : Int32) &&& 31)) ||| ((p1 &&& (63 : Int32)) <<< ((12 : Int32) &&& 31)))
                    have fo567 : (p2 &&& (63 : Int32)).toInt = p2.toInt % 64 := c_mask p2 (63 : Int32) 6 (by decide) (by decide)
                    have fc568 : (6 : Int32).toInt = 6 := rfl
                    have fo569 : ((((p2 &&& (63 : Int32)) <<< ((6 : Int32) &&& 31))).toInt - (p2 &&& (63 : Int32)).toInt * 64) % 4294967296 = 0 := c_ishl (p2 &&& (63 : Int32)) (6 : Int32) 6 (by decide)
                    have fr570 := rng32 ((p2 &&& (63 : Int32)) <<< ((6 : Int32) &&& 31))
                    have fo571 := c_or (((p0 &&& (7 : Int32)) <<< ((18 : Int32) &&& 31)) ||| ((p1 &&& (63 : Int32)) <<< ((12 : Int32) &&& 31))) ((p2 &&& (63 : Int32)) <<< ((6 : Int32) &&& 31)) 12 (by decide) 4096 (by decide) (by omega) (by omega) (by omega)
                    have fr572 := rng32 ((((p0 &&& (7 : Int32)) <<< ((18 : Int32) &&& 31)) ||| ((p1 &&& (63 : Int32)) <<< ((12 : Int32) &&& 31))) ||| ((p2 &&& (63 : Int32)) <<< ((6 : Int32) &&& 31)))
                    have fo573 : (p3 &&& (63 : Int32)).toInt = p3.toInt % 64 := c_mask p3 (63 : Int32) 6 (by decide) (by decide)
                    have fo574 := c_or ((((p0 &&& (7 : Int32)) <<< ((18 : Int32) &&& 31)) ||| ((p1 &&& (63 : Int32)) <<< ((12 : Int32) &&& 31))) ||| ((p2 &&& (63 : Int32)) <<< ((6 : Int32) &&& 31))) (p3 &&& (63 : Int32)) 6 (by decide) 64 (by decide) (by omega) (by omega) (by omega)
                    have fr575 := rng32 (((((p0 &&& (7 : Int32)) <<< ((18 : Int32) &&& 31)) ||| ((p1 &&& (63 : Int32)) <<< ((12 : Int32) &&& 31))) ||| ((p2 &&& (63 : Int32)) <<< ((6 : Int32) &&& 31))) ||| (p3 &&& (63 : Int32)))
                    have fe576 : (((((p0 &&& (7 : Int32)) <<< ((18 : Int32) &&& 31)) ||| ((p1 &&& (63 : Int32)) <<< ((12 : Int32) &&& 31))) ||| ((p2 &&& (63 : Int32)) <<< ((6 : Int32) &&& 31))) ||| (p3 &&& (63 : Int32))).toInt = v521.toInt := congrArg Int32.toInt hv521
                    have fc577 : (65536 : Int32).toInt = 65536 := rfl
                    have fc578 : (0 : Int32).toInt = 0 := rfl
                    exact g_retI C X480 rfl d2_249 eh485 (by decide) (by decide) ⟨_, rfl, by (simp only [own_seq]; (repeat' split) <;> omega), N486, rfl⟩
                  · skip
                    refine g_icmp_lt_f 237 rfl C X480 d2_234 hb522 ?_
                    refine g_iload 239 rfl C X480 d2_237 rfl ?_
                    refine g_ldc 241 rfl C X480 (hw _ (List.mem_of_getElem? (i := 16) rfl)) d2_239 ?_
                    by_cases hb579 : (1114111 : Int32).toInt < v521.toInt
                    · skip
                      refine g_icmp_gt_t 248 C X480 d2_241 (by decide) (by decide) hb579 ?_
                      refine g_iconst 249 rfl C X480 (0 : Int32) d2_248 rfl ?_
                      have fr580 := rng32 p0
                      have fc581 : (128 : Int32).toInt = 128 := rfl
                      have fc582 : (224 : Int32).toInt = 224 := rfl
                      have fc584 : (31 : Int32).toInt = 31 := rfl
                      have fo585 : (p0 &&& (31 : Int32)).toInt = p0.toInt % 32 := c_mask p0 (31 : Int32) 5 (by decide) (by decide)
                      have fc586 : (255 : Int32).toInt = 255 := rfl
                      have fo587 : (p0 &&& (255 : Int32)).toInt = p0.toInt % 256 := c_mask p0 (255 : Int32) 8 (by decide) (by decide)
                      have fo583 := own_blk p0 (224 : Int32) (31 : Int32) (255 : Int32) (by decide) (by decide)
                      have fo588 := c_and p0 (224 : Int32) (by decide)
                      have fr589 := rng32 (p0 &&& (224 : Int32))
                      have fc590 : (192 : Int32).toInt = 192 := rfl
                      have fc591 : (240 : Int32).toInt = 240 := rfl
                      have fc593 : (15 : Int32).toInt = 15 := rfl
                      have fo594 : (p0 &&& (15 : Int32)).toInt = p0.toInt % 16 := c_mask p0 (15 : Int32) 4 (by decide) (by decide)
                      have fo592 := own_blk p0 (240 : Int32) (15 : Int32) (255 : Int32) (by decide) (by decide)
                      have fo595 := c_and p0 (240 : Int32) (by decide)
                      have fr596 := rng32 (p0 &&& (240 : Int32))
                      have fc597 : (248 : Int32).toInt = 248 := rfl
                      have fc599 : (7 : Int32).toInt = 7 := rfl
                      have fo600 : (p0 &&& (7 : Int32)).toInt = p0.toInt % 8 := c_mask p0 (7 : Int32) 3 (by decide) (by decide)
                      have fo598 := own_blk p0 (248 : Int32) (7 : Int32) (255 : Int32) (by decide) (by decide)
                      have fo601 := c_and p0 (248 : Int32) (by decide)
                      have fr602 := rng32 (p0 &&& (248 : Int32))
                      have fc603 : (4 : Int32).toInt = 4 := rfl
                      have fr604 := rng32 p4
                      have fr605 := rng32 p1
                      have fr606 := rng32 r401
                      have fc607 : (3 : Int32).toInt = 3 := rfl
                      have fr608 := rng32 p2
                      have fr609 := rng32 r440
                      have fr610 := rng32 p3
                      have fr611 := rng32 r482
                      have fc612 : (2 : Int32).toInt = 2 := rfl
                      have fr613 := rng32 v521
                      have fc614 : (18 : Int32).toInt = 18 := rfl
                      have fo615 : ((((p0 &&& (7 : Int32)) <<< ((18 : Int32) &&& 31))).toInt - (p0 &&& (7 : Int32)).toInt * 262144) % 4294967296 = 0 := c_ishl (p0 &&& (7 : Int32)) (18 : Int32) 18 (by decide)
                      have fr616 := rng32 ((p0 &&& (7 : Int32)) <<< ((18 : Int32) &&& 31))
                      have fc617 : (63 : Int32).toInt = 63 := rfl
                      have fo618 : (p1 &&& (63 : Int32)).toInt = p1.toInt % 64 := c_mask p1 (63 : Int32) 6 (by decide) (by decide)
                      have fc619 : (12 : Int32).toInt = 12 := rfl
                      have fo620 : ((((p1 &&& (63 : Int32)) <<< ((12 : Int32) &&& 31))).toInt - (p1 &&& (63 : Int32)).toInt * 4096) % 4294967296 = 0 := c_ishl (p1 &&& (63 : Int32)) (12 : Int32) 12 (by decide)
                      have fr621 := rng32 ((p1 &&& (63 : Int32)) <<< ((12 : Int32) &&& 31))
                      have fo622 := c_or ((p0 &&& (7 : Int32)) <<< ((18 : Int32) &&& 31)) ((p1 &&& (63 : Int32)) <<< ((12 : Int32) &&& 31)) 18 (by decide) 262144 (by decide) (by omega) (by omega) (by omega)
                      have fr623 := rng32 (((p0 &&& (7 : Int32)) <<< ((18 : Int32) &&& 31)) ||| ((p1 &&& (63 : Int32)) <<< ((12 : Int32) &&& 31)))
                      have fo624 : (p2 &&& (63 : Int32)).toInt = p2.toInt % 64 := c_mask p2 (63 : Int32) 6 (by decide) (by decide)
                      have fc625 : (6 : Int32).toInt = 6 := rfl
                      have fo626 : ((((p2 &&& (63 : Int32)) <<< ((6 : Int32) &&& 31))).toInt - (p2 &&& (63 : Int32)).toInt * 64) % 4294967296 = 0 := c_ishl (p2 &&& (63 : Int32)) (6 : Int32) 6 (by decide)
                      have fr627 := rng32 ((p2 &&& (63 : Int32)) <<< ((6 : Int32) &&& 31))
                      have fo628 := c_or (((p0 &&& (7 : Int32)) <<< ((18 : Int32) &&& 31)) ||| ((p1 &&& (63 : Int32)) <<< ((12 : Int32) &&& 31))) ((p2 &&& (63 : Int32)) <<< ((6 : Int32) &&& 31)) 12 (by decide) 4096 (by decide) (by omega) (by omega) (by omega)
                      have fr629 := rng32 ((((p0 &&& (7 : Int32)) <<< ((18 : Int32) &&& 31)) ||| ((p1 &&& (63 : Int32)) <<< ((12 : Int32) &&& 31))) ||| ((p2 &&& (63 : Int32)) <<< ((6 : Int32) &&& 31)))
                      have fo630 : (p3 &&& (63 : Int32)).toInt = p3.toInt % 64 := c_mask p3 (63 : Int32) 6 (by decide) (by decide)
                      have fo631 := c_or ((((p0 &&& (7 : Int32)) <<< ((18 : Int32) &&& 31)) ||| ((p1 &&& (63 : Int32)) <<< ((12 : Int32) &&& 31))) ||| ((p2 &&& (63 : Int32)) <<< ((6 : Int32) &&& 31))) (p3 &&& (63 : Int32)) 6 (by decide) 64 (by decide) (by omega) (by omega) (by omega)
                      have fr632 := rng32 (((((p0 &&& (7 : Int32)) <<< ((18 : Int32) &&& 31)) ||| ((p1 &&& (63 : Int32)) <<< ((12 : Int32) &&& 31))) ||| ((p2 &&& (63 : Int32)) <<< ((6 : Int32) &&& 31))) ||| (p3 &&& (63 : Int32)))
                      have fe633 : (((((p0 &&& (7 : Int32)) <<< ((18 : Int32) &&& 31)) ||| ((p1 &&& (63 : Int32)) <<< ((12 : Int32) &&& 31))) ||| ((p2 &&& (63 : Int32)) <<< ((6 : Int32) &&& 31))) ||| (p3 &&& (63 : Int32))).toInt = v521.toInt := congrArg Int32.toInt hv521
                      have fc634 : (65536 : Int32).toInt = 65536 := rfl
                      have fc635 : (1114111 : Int32).toInt = 1114111 := rfl
                      have fc636 : (0 : Int32).toInt = 0 := rfl
                      exact g_retI C X480 rfl d2_249 eh485 (by decide) (by decide) ⟨_, rfl, by (simp only [own_seq]; (repeat' split) <;> omega), N486, rfl⟩
                    · skip
                      refine g_icmp_gt_f 244 rfl C X480 d2_241 hb579 ?_
                      refine g_iconst 245 rfl C X480 (4 : Int32) d2_244 rfl ?_
                      refine g_goto 249 C X480 d2_245 (by decide) (by decide) ?_
                      have fr637 := rng32 p0
                      have fc638 : (128 : Int32).toInt = 128 := rfl
                      have fc639 : (224 : Int32).toInt = 224 := rfl
                      have fc641 : (31 : Int32).toInt = 31 := rfl
                      have fo642 : (p0 &&& (31 : Int32)).toInt = p0.toInt % 32 := c_mask p0 (31 : Int32) 5 (by decide) (by decide)
                      have fc643 : (255 : Int32).toInt = 255 := rfl
                      have fo644 : (p0 &&& (255 : Int32)).toInt = p0.toInt % 256 := c_mask p0 (255 : Int32) 8 (by decide) (by decide)
                      have fo640 := own_blk p0 (224 : Int32) (31 : Int32) (255 : Int32) (by decide) (by decide)
                      have fo645 := c_and p0 (224 : Int32) (by decide)
                      have fr646 := rng32 (p0 &&& (224 : Int32))
                      have fc647 : (192 : Int32).toInt = 192 := rfl
                      have fc648 : (240 : Int32).toInt = 240 := rfl
                      have fc650 : (15 : Int32).toInt = 15 := rfl
                      have fo651 : (p0 &&& (15 : Int32)).toInt = p0.toInt % 16 := c_mask p0 (15 : Int32) 4 (by decide) (by decide)
                      have fo649 := own_blk p0 (240 : Int32) (15 : Int32) (255 : Int32) (by decide) (by decide)
                      have fo652 := c_and p0 (240 : Int32) (by decide)
                      have fr653 := rng32 (p0 &&& (240 : Int32))
                      have fc654 : (248 : Int32).toInt = 248 := rfl
                      have fc656 : (7 : Int32).toInt = 7 := rfl
                      have fo657 : (p0 &&& (7 : Int32)).toInt = p0.toInt % 8 := c_mask p0 (7 : Int32) 3 (by decide) (by decide)
                      have fo655 := own_blk p0 (248 : Int32) (7 : Int32) (255 : Int32) (by decide) (by decide)
                      have fo658 := c_and p0 (248 : Int32) (by decide)
                      have fr659 := rng32 (p0 &&& (248 : Int32))
                      have fc660 : (4 : Int32).toInt = 4 := rfl
                      have fr661 := rng32 p4
                      have fr662 := rng32 p1
                      have fr663 := rng32 r401
                      have fc664 : (3 : Int32).toInt = 3 := rfl
                      have fr665 := rng32 p2
                      have fr666 := rng32 r440
                      have fr667 := rng32 p3
                      have fr668 := rng32 r482
                      have fc669 : (2 : Int32).toInt = 2 := rfl
                      have fr670 := rng32 v521
                      have fc671 : (18 : Int32).toInt = 18 := rfl
                      have fo672 : ((((p0 &&& (7 : Int32)) <<< ((18 : Int32) &&& 31))).toInt - (p0 &&& (7 : Int32)).toInt * 262144) % 4294967296 = 0 := c_ishl (p0 &&& (7 : Int32)) (18 : Int32) 18 (by decide)
                      have fr673 := rng32 ((p0 &&& (7 : Int32)) <<< ((18 : Int32) &&& 31))
                      have fc674 : (63 : Int32).toInt = 63 := rfl
                      have fo675 : (p1 &&& (63 : Int32)).toInt = p1.toInt % 64 := c_mask p1 (63 : Int32) 6 (by decide) (by decide)
                      have fc676 : (12 : Int32).toInt = 12 := rfl
                      have fo677 : ((((p1 &&& (63 : Int32)) <<< ((12 : Int32) &&& 31))).toInt - (p1 &&& (63 : Int32)).toInt * 4096) % 4294967296 = 0 := c_ishl (p1 &&& (63 : Int32)) (12 : Int32) 12 (by decide)
                      have fr678 := rng32 ((p1 &&& (63 : Int32)) <<< ((12 : Int32) &&& 31))
                      have fo679 := c_or ((p0 &&& (7 : Int32)) <<< ((18 : Int32) &&& 31)) ((p1 &&& (63 : Int32)) <<< ((12 : Int32) &&& 31)) 18 (by decide) 262144 (by decide) (by omega) (by omega) (by omega)
                      have fr680 := rng32 (((p0 &&& (7 : Int32)) <<< ((18 : Int32) &&& 31)) ||| ((p1 &&& (63 : Int32)) <<< ((12 : Int32) &&& 31)))
                      have fo681 : (p2 &&& (63 : Int32)).toInt = p2.toInt % 64 := c_mask p2 (63 : Int32) 6 (by decide) (by decide)
                      have fc682 : (6 : Int32).toInt = 6 := rfl
                      have fo683 : ((((p2 &&& (63 : Int32)) <<< ((6 : Int32) &&& 31))).toInt - (p2 &&& (63 : Int32)).toInt * 64) % 4294967296 = 0 := c_ishl (p2 &&& (63 : Int32)) (6 : Int32) 6 (by decide)
                      have fr684 := rng32 ((p2 &&& (63 : Int32)) <<< ((6 : Int32) &&& 31))
                      have fo685 := c_or (((p0 &&& (7 : Int32)) <<< ((18 : Int32) &&& 31)) ||| ((p1 &&& (63 : Int32)) <<< ((12 : Int32) &&& 31))) ((p2 &&& (63 : Int32)) <<< ((6 : Int32) &&& 31)) 12 (by decide) 4096 (by decide) (by omega) (by omega) (by omega)
                      have fr686 := rng32 ((((p0 &&& (7 : Int32)) <<< ((18 : Int32) &&& 31)) ||| ((p1 &&& (63 : Int32)) <<< ((12 : Int32) &&& 31))) ||| ((p2 &&& (63 : Int32)) <<< ((6 : Int32) &&& 31)))
                      have fo687 : (p3 &&& (63 : Int32)).toInt = p3.toInt % 64 := c_mask p3 (63 : Int32) 6 (by decide) (by decide)
                      have fo688 := c_or ((((p0 &&& (7 : Int32)) <<< ((18 : Int32) &&& 31)) ||| ((p1 &&& (63 : Int32)) <<< ((12 : Int32) &&& 31))) ||| ((p2 &&& (63 : Int32)) <<< ((6 : Int32) &&& 31))) (p3 &&& (63 : Int32)) 6 (by decide) 64 (by decide) (by omega) (by omega) (by omega)
                      have fr689 := rng32 (((((p0 &&& (7 : Int32)) <<< ((18 : Int32) &&& 31)) ||| ((p1 &&& (63 : Int32)) <<< ((12 : Int32) &&& 31))) ||| ((p2 &&& (63 : Int32)) <<< ((6 : Int32) &&& 31))) ||| (p3 &&& (63 : Int32)))
                      have fe690 : (((((p0 &&& (7 : Int32)) <<< ((18 : Int32) &&& 31)) ||| ((p1 &&& (63 : Int32)) <<< ((12 : Int32) &&& 31))) ||| ((p2 &&& (63 : Int32)) <<< ((6 : Int32) &&& 31))) ||| (p3 &&& (63 : Int32))).toInt = v521.toInt := congrArg Int32.toInt hv521
                      have fc691 : (65536 : Int32).toInt = 65536 := rfl
                      have fc692 : (1114111 : Int32).toInt = 1114111 := rfl
                      exact g_retI C X480 rfl d2_249 eh485 (by decide) (by decide) ⟨_, rfl, by (simp only [own_seq]; (repeat' split) <;> omega), N486, rfl⟩
        · skip
          refine g_icmp_ne_t 60 C X0 d2_51 (by decide) (by decide) hb368 ?_
          refine g_iconst 61 rfl C X0 (0 : Int32) d2_60 rfl ?_
          have fr693 := rng32 p0
          have fc694 : (128 : Int32).toInt = 128 := rfl
          have fc695 : (224 : Int32).toInt = 224 := rfl
          have fc697 : (31 : Int32).toInt = 31 := rfl
          have fo698 : (p0 &&& (31 : Int32)).toInt = p0.toInt % 32 := c_mask p0 (31 : Int32) 5 (by decide) (by decide)
          have fc699 : (255 : Int32).toInt = 255 := rfl
          have fo700 : (p0 &&& (255 : Int32)).toInt = p0.toInt % 256 := c_mask p0 (255 : Int32) 8 (by decide) (by decide)
          have fo696 := own_blk p0 (224 : Int32) (31 : Int32) (255 : Int32) (by decide) (by decide)
          have fo701 := c_and p0 (224 : Int32) (by decide)
          have fr702 := rng32 (p0 &&& (224 : Int32))
          have fc703 : (192 : Int32).toInt = 192 := rfl
          have fc704 : (240 : Int32).toInt = 240 := rfl
          have fc706 : (15 : Int32).toInt = 15 := rfl
          have fo707 : (p0 &&& (15 : Int32)).toInt = p0.toInt % 16 := c_mask p0 (15 : Int32) 4 (by decide) (by decide)
          have fo705 := own_blk p0 (240 : Int32) (15 : Int32) (255 : Int32) (by decide) (by decide)
          have fo708 := c_and p0 (240 : Int32) (by decide)
          have fr709 := rng32 (p0 &&& (240 : Int32))
          have fc710 : (248 : Int32).toInt = 248 := rfl
          have fc712 : (7 : Int32).toInt = 7 := rfl
          have fo713 : (p0 &&& (7 : Int32)).toInt = p0.toInt % 8 := c_mask p0 (7 : Int32) 3 (by decide) (by decide)
          have fo711 := own_blk p0 (248 : Int32) (7 : Int32) (255 : Int32) (by decide) (by decide)
          have fo714 := c_and p0 (248 : Int32) (by decide)
          have fr715 := rng32 (p0 &&& (248 : Int32))
          have fc716 : (0 : Int32).toInt = 0 := rfl
          exact g_retI C X0 rfl d2_61 e0 (by decide) (by decide) ⟨_, rfl, by (simp only [own_seq]; (repeat' split) <;> omega), N0, rfl⟩
theorem pd_14998784 : parseMethodDescriptor "([BII)I" = some ⟨[(.array .byte), .int, .int], some .int⟩ := by decide +kernel
theorem pd_85216236 : parseMethodDescriptor "(IIIII)I" = some ⟨[.int, .int, .int, .int, .int], some .int⟩ := by decide +kernel
theorem ef_0 (m : MethodId) (p0 : Int32) (p1 : Int32) (p2 : Int32) (p3 : Int32) (p4 : Int32) (p5 : Int32) : entryFrame m #[(.int p0), (.int p1), (.int p2), (.int p3), (.int p4), (.int p5)] maxLocals = mkF m 0 #[.val (.int p0), .val (.int p1), .val (.int p2), .val (.int p3), .val (.int p4), .val (.int p5), .unset, .unset, .unset, .unset, .unset] [] := by first | (simp [entryFrame, mkF, argsToLocals, Value.category, maxLocals]; done) | rfl
def Q0 (Z : State) (p0 : Int32) (p1 : Int32) (p2 : Int32) (p3 : Int32) (p4 : Int32) (p5 : Int32) (h0 : Heap) (n0 : Nat) (v : Option Value) (h : Heap) (L : List Loc) : Prop := v = some (.int 1) ∧ Fr n0 L
set_option maxRecDepth 65536 in
set_option maxHeartbeats 40000000 in
theorem rm0 (l : Launch) (Z : State) (a0 : Array Value) (hw : ∀ d ∈ tables_1, d.before a0 Z = true) (ws : List Jvm.Cond) (p0 : Int32) (p1 : Int32) (p2 : Int32) (p3 : Int32) (p4 : Int32) (p5 : Int32) (h0 : Heap) (n0 : Nat) (Z0 : n0 ≤ h0.size) :
    MetFree l x (head1 (Jvm.Cond.code x code maxLocals ret :: ws) room_1) (fun a U => a = #[(.int p0), (.int p1), (.int p2), (.int p3), (.int p4), (.int p5)] ∧ Z.Warmed39 U.vm ∧ U.heap = h0) (fun _ _ _ _ _ => True) (fun _ U o U' => ∃ v L, o = .returned v ∧ Q0 Z p0 p1 p2 p3 p4 p5 h0 n0 v U'.heap L ∧ FrameEnd U o U' L 16 128) := by
  refine MetFree.of_bodySF (plainFor_of_name pn_18511380) hisR ?_
  intro p e s m args below meth c s₁ Bd hml0 hP hK
  obtain ⟨rfl, hZ, hh⟩ := hP
  have C : Ctx p s m meth c Z "com/example/schedario/schedario/records/Utf8SequencePinLaw" "law" code maxLocals ret := Ctx.of Bd hml0 hZ
  have X0 : Stand p l e room_1 s m #[(.int p0), (.int p1), (.int p2), (.int p3), (.int p4), (.int p5)] below meth c s₁ [] 0 0 := Stand.of_body Bd
  have e0 : s₁.heap = h0 := by rw [← hh, Bd.state]; rfl
  have N0 := Fr.nil n0
  refine Goes.enter (ef_0 m p0 p1 p2 p3 p4 p5) ?_
  clear hK hml0 hh
  refine g_iload 2 rfl C X0 at_0 rfl ?_
  refine g_iconst 3 rfl C X0 (1 : Int32) at_2 rfl ?_
  refine g_iand 4 rfl C X0 at_3 ?_
  obtain ⟨v1, hv1⟩ : ∃ z : Int32, (p4 &&& (1 : Int32)) = z := ⟨_, rfl⟩
  refine g_istore 6 rfl C X0 v1 hv1 #[.val (.int p0), .val (.int p1), .val (.int p2), .val (.int p3), .val (.int p4), .val (.int p5), .val (.int v1), .unset, .unset, .unset, .unset] at_4 rfl ?_
  refine g_iconst 7 rfl C X0 (1 : Int32) at_6 rfl ?_
  refine g_iload 9 rfl C X0 at_7 rfl ?_
  refine g_ldc 11 rfl C X0 (hw _ (List.mem_of_getElem? (i := 0) rfl)) at_9 ?_
  refine g_iand 12 rfl C X0 at_11 ?_
  refine g_iconst 13 rfl C X0 (5 : Int32) at_12 rfl ?_
  refine g_irem 14 rfl C X0 at_13 (by decide) ?_
  refine g_iadd 15 rfl C X0 at_14 ?_
  obtain ⟨v2, hv2⟩ : ∃ z : Int32, ((1 : Int32) + ((p5 &&& (2147483647 : Int32)) % (5 : Int32))) = z := ⟨_, rfl⟩
  refine g_istore 17 rfl C X0 v2 hv2 #[.val (.int p0), .val (.int p1), .val (.int p2), .val (.int p3), .val (.int p4), .val (.int p5), .val (.int v1), .val (.int v2), .unset, .unset, .unset] at_15 rfl ?_
  refine g_iload 19 rfl C X0 at_17 rfl ?_
  refine g_iload 21 rfl C X0 at_19 rfl ?_
  refine g_iadd 22 rfl C X0 at_21 ?_
  obtain ⟨v3, hv3⟩ : ∃ z : Int32, (v1 + v2) = z := ⟨_, rfl⟩
  refine g_istore 24 rfl C X0 v3 hv3 #[.val (.int p0), .val (.int p1), .val (.int p2), .val (.int p3), .val (.int p4), .val (.int p5), .val (.int v1), .val (.int v2), .val (.int v3), .unset, .unset] at_22 rfl ?_
  refine g_bipush 26 rfl C X0 (6 : Int32) at_24 rfl ?_
  refine g_newP 28 rfl C X0 6 (by decide) 6 (by decide) (by decide) rfl (hw _ (List.mem_of_getElem? (i := 1) rfl)) e0 at_26 (by decide) (by decide) fun T4 h5 o6 g7 X8 e9 E10 B11 => ?_
  have gn12 : n0 ≤ o6 := by rw [g7]; exact Z0
  have Zs13 := Nat.le_trans Z0 E10.1
  refine g_astore 30 rfl C X8 #[.val (.int p0), .val (.int p1), .val (.int p2), .val (.int p3), .val (.int p4), .val (.int p5), .val (.int v1), .val (.int v2), .val (.int v3), .val (.ref o6), .unset] at_28 rfl rfl ?_
  refine g_aload 32 rfl C X8 at_30 rfl rfl ?_
  refine g_iconst 33 rfl C X8 (0 : Int32) at_32 rfl ?_
  refine g_bipush 35 rfl C X8 (-128 : Int32) at_33 rfl ?_
  refine g_bastore 36 rfl C X8 e9 B11 0 (by decide) (by decide) (-128 : Int32) (by decide) at_35 N0 gn12 fun T14 h15 ls16 X17 e18 W19 B20 N21 => ?_
  have Zs22 := Nat.le_trans Zs13 (Nat.le_of_eq W19.size.symm)
  refine g_aload 38 rfl C X17 at_36 rfl rfl ?_
  refine g_iconst 39 rfl C X17 (1 : Int32) at_38 rfl ?_
  refine g_bipush 41 rfl C X17 (-128 : Int32) at_39 rfl ?_
  refine g_bastore 42 rfl C X17 e18 B20 1 (by decide) (by decide) (-128 : Int32) (by decide) at_41 N21 gn12 fun T23 h24 ls25 X26 e27 W28 B29 N30 => ?_
  have Zs31 := Nat.le_trans Zs22 (Nat.le_of_eq W28.size.symm)
  refine g_aload 44 rfl C X26 at_42 rfl rfl ?_
  refine g_iconst 45 rfl C X26 (2 : Int32) at_44 rfl ?_
  refine g_bipush 47 rfl C X26 (-128 : Int32) at_45 rfl ?_
  refine g_bastore 48 rfl C X26 e27 B29 2 (by decide) (by decide) (-128 : Int32) (by decide) at_47 N30 gn12 fun T32 h33 ls34 X35 e36 W37 B38 N39 => ?_
  have Zs40 := Nat.le_trans Zs31 (Nat.le_of_eq W37.size.symm)
  refine g_aload 50 rfl C X35 at_48 rfl rfl ?_
  refine g_iconst 51 rfl C X35 (3 : Int32) at_50 rfl ?_
  refine g_bipush 53 rfl C X35 (-128 : Int32) at_51 rfl ?_
  refine g_bastore 54 rfl C X35 e36 B38 3 (by decide) (by decide) (-128 : Int32) (by decide) at_53 N39 gn12 fun T41 h42 ls43 X44 e45 W46 B47 N48 => ?_
  have Zs49 := Nat.le_trans Zs40 (Nat.le_of_eq W46.size.symm)
  refine g_aload 56 rfl C X44 at_54 rfl rfl ?_
  refine g_iconst 57 rfl C X44 (4 : Int32) at_56 rfl ?_
  refine g_bipush 59 rfl C X44 (-128 : Int32) at_57 rfl ?_
  refine g_bastore 60 rfl C X44 e45 B47 4 (by decide) (by decide) (-128 : Int32) (by decide) at_59 N48 gn12 fun T50 h51 ls52 X53 e54 W55 B56 N57 => ?_
  have Zs58 := Nat.le_trans Zs49 (Nat.le_of_eq W55.size.symm)
  refine g_aload 62 rfl C X53 at_60 rfl rfl ?_
  refine g_iconst 63 rfl C X53 (5 : Int32) at_62 rfl ?_
  refine g_bipush 65 rfl C X53 (-128 : Int32) at_63 rfl ?_
  refine g_bastore 66 rfl C X53 e54 B56 5 (by decide) (by decide) (-128 : Int32) (by decide) at_65 N57 gn12 fun T59 h60 ls61 X62 e63 W64 B65 N66 => ?_
  have Zs67 := Nat.le_trans Zs58 (Nat.le_of_eq W64.size.symm)
  obtain ⟨f68, B69⟩ : ∃ f, Ba Z h60 o6 .byte 6 f := ⟨_, B65⟩
  refine g_aload 68 rfl C X62 at_66 rfl rfl ?_
  refine g_iload 70 rfl C X62 at_68 rfl ?_
  refine g_iloadN 71 rfl C X62 at_70 rfl ?_
  refine g_i2b 72 rfl C X62 at_71 ?_
  have hq71 : 0 ≤ v1.toInt ∧ v1.toInt ≤ 1 := by
    have fr72 := rng32 v1
    have fr73 := rng32 p4
    have fc74 : (1 : Int32).toInt = 1 := rfl
    have fo75 : (p4 &&& (1 : Int32)).toInt = p4.toInt % 2 := c_mask p4 (1 : Int32) 1 (by decide) (by decide)
    have fe76 : (p4 &&& (1 : Int32)).toInt = v1.toInt := congrArg Int32.toInt hv1
    omega
  obtain ⟨n70, hn70⟩ : ∃ n : Nat, v1.toInt = n := ⟨v1.toInt.toNat, by omega⟩
  have hn70m : n70 ≤ 1 := by omega
  obtain ⟨w77, hw77⟩ : ∃ z : Int32, ((((p0).toInt8.toInt32)).toInt8.toInt32) = z := ⟨_, rfl⟩
  refine g_bastore 73 rfl C X62 e63 B69 (n70) hn70 (by omega) w77 hw77 at_72 N66 gn12 fun T78 h79 ls80 X81 e82 W83 B84 N85 => ?_
  have Zs86 := Nat.le_trans Zs67 (Nat.le_of_eq W83.size.symm)
  refine g_aload 75 rfl C X81 at_73 rfl rfl ?_
  refine g_iload 77 rfl C X81 at_75 rfl ?_
  refine g_iconst 78 rfl C X81 (1 : Int32) at_77 rfl ?_
  refine g_iadd 79 rfl C X81 at_78 ?_
  refine g_iloadN 80 rfl C X81 at_79 rfl ?_
  refine g_i2b 81 rfl C X81 at_80 ?_
  have hq87 : (v1 + (1 : Int32)).toInt = ((n70 + 1 : Nat) : Int) := by
    have fr88 := rng32 v1
    have fr89 := rng32 p4
    have fc90 : (1 : Int32).toInt = 1 := rfl
    have fo91 : (p4 &&& (1 : Int32)).toInt = p4.toInt % 2 := c_mask p4 (1 : Int32) 1 (by decide) (by decide)
    have fe92 : (p4 &&& (1 : Int32)).toInt = v1.toInt := congrArg Int32.toInt hv1
    have fo93 := c_iadd v1 (1 : Int32)
    have fr94 := rng32 (v1 + (1 : Int32))
    omega
  obtain ⟨w95, hw95⟩ : ∃ z : Int32, ((((p1).toInt8.toInt32)).toInt8.toInt32) = z := ⟨_, rfl⟩
  refine g_bastore 82 rfl C X81 e82 B84 (n70 + 1) hq87 (by omega) w95 hw95 at_81 N85 gn12 fun T96 h97 ls98 X99 e100 W101 B102 N103 => ?_
  have Zs104 := Nat.le_trans Zs86 (Nat.le_of_eq W101.size.symm)
  refine g_aload 84 rfl C X99 at_82 rfl rfl ?_
  refine g_iload 86 rfl C X99 at_84 rfl ?_
  refine g_iconst 87 rfl C X99 (2 : Int32) at_86 rfl ?_
  refine g_iadd 88 rfl C X99 at_87 ?_
  refine g_iloadN 89 rfl C X99 at_88 rfl ?_
  refine g_i2b 90 rfl C X99 at_89 ?_
  have hq105 : (v1 + (2 : Int32)).toInt = ((n70 + 2 : Nat) : Int) := by
    have fr106 := rng32 v1
    have fr107 := rng32 p4
    have fc108 : (1 : Int32).toInt = 1 := rfl
    have fo109 : (p4 &&& (1 : Int32)).toInt = p4.toInt % 2 := c_mask p4 (1 : Int32) 1 (by decide) (by decide)
    have fe110 : (p4 &&& (1 : Int32)).toInt = v1.toInt := congrArg Int32.toInt hv1
    have fc111 : (2 : Int32).toInt = 2 := rfl
    have fo112 := c_iadd v1 (2 : Int32)
    have fr113 := rng32 (v1 + (2 : Int32))
    omega
  obtain ⟨w114, hw114⟩ : ∃ z : Int32, ((((p2).toInt8.toInt32)).toInt8.toInt32) = z := ⟨_, rfl⟩
  refine g_bastore 91 rfl C X99 e100 B102 (n70 + 2) hq105 (by omega) w114 hw114 at_90 N103 gn12 fun T115 h116 ls117 X118 e119 W120 B121 N122 => ?_
  have Zs123 := Nat.le_trans Zs104 (Nat.le_of_eq W120.size.symm)
  refine g_aload 93 rfl C X118 at_91 rfl rfl ?_
  refine g_iload 95 rfl C X118 at_93 rfl ?_
  refine g_iconst 96 rfl C X118 (3 : Int32) at_95 rfl ?_
  refine g_iadd 97 rfl C X118 at_96 ?_
  refine g_iloadN 98 rfl C X118 at_97 rfl ?_
  refine g_i2b 99 rfl C X118 at_98 ?_
  have hq124 : (v1 + (3 : Int32)).toInt = ((n70 + 3 : Nat) : Int) := by
    have fr125 := rng32 v1
    have fr126 := rng32 p4
    have fc127 : (1 : Int32).toInt = 1 := rfl
    have fo128 : (p4 &&& (1 : Int32)).toInt = p4.toInt % 2 := c_mask p4 (1 : Int32) 1 (by decide) (by decide)
    have fe129 : (p4 &&& (1 : Int32)).toInt = v1.toInt := congrArg Int32.toInt hv1
    have fc130 : (3 : Int32).toInt = 3 := rfl
    have fo131 := c_iadd v1 (3 : Int32)
    have fr132 := rng32 (v1 + (3 : Int32))
    omega
  obtain ⟨w133, hw133⟩ : ∃ z : Int32, ((((p3).toInt8.toInt32)).toInt8.toInt32) = z := ⟨_, rfl⟩
  refine g_bastore 100 rfl C X118 e119 B121 (n70 + 3) hq124 (by omega) w133 hw133 at_99 N122 gn12 fun T134 h135 ls136 X137 e138 W139 B140 N141 => ?_
  have Zs142 := Nat.le_trans Zs123 (Nat.le_of_eq W139.size.symm)
  refine g_aload 102 rfl C X137 at_100 rfl rfl ?_
  refine g_iload 104 rfl C X137 at_102 rfl ?_
  refine g_iload 106 rfl C X137 at_104 rfl ?_
  have hq143 : 1 ≤ v3.toInt - v1.toInt ∧ v3.toInt - v1.toInt ≤ 5 := by
    have fr144 := rng32 v3
    have fr145 := rng32 v1
    have fr146 := rng32 p4
    have fc147 : (1 : Int32).toInt = 1 := rfl
    have fo148 : (p4 &&& (1 : Int32)).toInt = p4.toInt % 2 := c_mask p4 (1 : Int32) 1 (by decide) (by decide)
    have fe149 : (p4 &&& (1 : Int32)).toInt = v1.toInt := congrArg Int32.toInt hv1
    have fr150 := rng32 v2
    have fr151 := rng32 p5
    have fc152 : (2147483647 : Int32).toInt = 2147483647 := rfl
    have fo153 : (p5 &&& (2147483647 : Int32)).toInt = p5.toInt % 2147483648 := c_mask p5 (2147483647 : Int32) 31 (by decide) (by decide)
    have fc154 : (5 : Int32).toInt = 5 := rfl
    have fo155 := c_irem (p5 &&& (2147483647 : Int32)) (5 : Int32) 5 rfl
    have fr156 := rng32 ((p5 &&& (2147483647 : Int32)) % (5 : Int32))
    have fo157 := c_iadd (1 : Int32) ((p5 &&& (2147483647 : Int32)) % (5 : Int32))
    have fr158 := rng32 ((1 : Int32) + ((p5 &&& (2147483647 : Int32)) % (5 : Int32)))
    have fe159 : ((1 : Int32) + ((p5 &&& (2147483647 : Int32)) % (5 : Int32))).toInt = v2.toInt := congrArg Int32.toInt hv2
    have fo160 := c_iadd v1 v2
    have fr161 := rng32 (v1 + v2)
    have fe162 : (v1 + v2).toInt = v3.toInt := congrArg Int32.toInt hv3
    omega
  refine g_callS 109 rfl C X137 (argsL := [(.ref o6), (.int v1), (.int v3)]) (hw _ (List.mem_of_getElem? (i := 2) rfl)) (hw _ (List.mem_of_getElem? (i := 3) rfl)) (hw _ (List.mem_of_getElem? (i := 5) rfl)) (hw _ (List.mem_of_getElem? (i := 4) rfl)) e138 (rm1 l Z a0 hw [] o6 v1 v3 (upd (upd (upd (upd f68 (n70) w77) (n70 + 1) w95) (n70 + 2) w114) (n70 + 3) w133) n70 w77 w95 w114 w133 h135 n0 Zs142 B140 hn70 (by omega) hq143 ((upd_ne (by omega)).trans ((upd_ne (by omega)).trans ((upd_ne (by omega)).trans (upd_same (by omega))))) ((upd_ne (by omega)).trans ((upd_ne (by omega)).trans (upd_same (by omega)))) ((upd_ne (by omega)).trans (upd_same (by omega))) (upd_same (by omega))) (lenOf pd_14998784 rfl) (by decide) (by decide) (by decide) (by decide) rfl (W := 0) (Nat.le_of_eq rfl) (by decide) at_106 rfl fun r163 T164 Lc165 X166 hQ167 => ?_
  obtain ⟨r168, rfl, hs169, Nq170, eh171⟩ := hQ167
  have N172 := Fr.app N141 Nq170
  show Goes _ _ _ _ _ _ 109 _ [(.int r168)]
  refine g_istore 111 rfl C X166 r168 rfl #[.val (.int p0), .val (.int p1), .val (.int p2), .val (.int p3), .val (.int p4), .val (.int p5), .val (.int v1), .val (.int v2), .val (.int v3), .val (.ref o6), .val (.int r168)] at_109 rfl ?_
  refine g_iload 113 rfl C X166 at_111 rfl ?_
  refine g_iloadN 114 rfl C X166 at_113 rfl ?_
  refine g_sipush 117 rfl C X166 (255 : Int32) at_114 rfl ?_
  refine g_iand 118 rfl C X166 at_117 ?_
  refine g_iloadN 119 rfl C X166 at_118 rfl ?_
  refine g_sipush 122 rfl C X166 (255 : Int32) at_119 rfl ?_
  refine g_iand 123 rfl C X166 at_122 ?_
  refine g_iloadN 124 rfl C X166 at_123 rfl ?_
  refine g_sipush 127 rfl C X166 (255 : Int32) at_124 rfl ?_
  refine g_iand 128 rfl C X166 at_127 ?_
  refine g_iloadN 129 rfl C X166 at_128 rfl ?_
  refine g_sipush 132 rfl C X166 (255 : Int32) at_129 rfl ?_
  refine g_iand 133 rfl C X166 at_132 ?_
  refine g_iload 135 rfl C X166 at_133 rfl ?_
  have hq173 : 0 ≤ (p0 &&& (255 : Int32)).toInt ∧ (p0 &&& (255 : Int32)).toInt < 256 := by
    have fr174 := rng32 p0
    have fc175 : (255 : Int32).toInt = 255 := rfl
    have fo176 : (p0 &&& (255 : Int32)).toInt = p0.toInt % 256 := c_mask p0 (255 : Int32) 8 (by decide) (by decide)
    omega
  have hq177 : 0 ≤ (p1 &&& (255 : Int32)).toInt ∧ (p1 &&& (255 : Int32)).toInt < 256 := by
    have fr178 := rng32 p1
    have fc179 : (255 : Int32).toInt = 255 := rfl
    have fo180 : (p1 &&& (255 : Int32)).toInt = p1.toInt % 256 := c_mask p1 (255 : Int32) 8 (by decide) (by decide)
    omega
  have hq181 : 0 ≤ (p2 &&& (255 : Int32)).toInt ∧ (p2 &&& (255 : Int32)).toInt < 256 := by
    have fr182 := rng32 p2
    have fc183 : (255 : Int32).toInt = 255 := rfl
    have fo184 : (p2 &&& (255 : Int32)).toInt = p2.toInt % 256 := c_mask p2 (255 : Int32) 8 (by decide) (by decide)
    omega
  have hq185 : 0 ≤ (p3 &&& (255 : Int32)).toInt ∧ (p3 &&& (255 : Int32)).toInt < 256 := by
    have fr186 := rng32 p3
    have fc187 : (255 : Int32).toInt = 255 := rfl
    have fo188 : (p3 &&& (255 : Int32)).toInt = p3.toInt % 256 := c_mask p3 (255 : Int32) 8 (by decide) (by decide)
    omega
  have hq189 : 1 ≤ v2.toInt ∧ v2.toInt ≤ 5 := by
    have fr190 := rng32 v2
    have fc191 : (1 : Int32).toInt = 1 := rfl
    have fr192 := rng32 p5
    have fc193 : (2147483647 : Int32).toInt = 2147483647 := rfl
    have fo194 : (p5 &&& (2147483647 : Int32)).toInt = p5.toInt % 2147483648 := c_mask p5 (2147483647 : Int32) 31 (by decide) (by decide)
    have fc195 : (5 : Int32).toInt = 5 := rfl
    have fo196 := c_irem (p5 &&& (2147483647 : Int32)) (5 : Int32) 5 rfl
    have fr197 := rng32 ((p5 &&& (2147483647 : Int32)) % (5 : Int32))
    have fo198 := c_iadd (1 : Int32) ((p5 &&& (2147483647 : Int32)) % (5 : Int32))
    have fr199 := rng32 ((1 : Int32) + ((p5 &&& (2147483647 : Int32)) % (5 : Int32)))
    have fe200 : ((1 : Int32) + ((p5 &&& (2147483647 : Int32)) % (5 : Int32))).toInt = v2.toInt := congrArg Int32.toInt hv2
    omega
  refine g_callS 138 rfl C X166 (argsL := [(.int (p0 &&& (255 : Int32))), (.int (p1 &&& (255 : Int32))), (.int (p2 &&& (255 : Int32))), (.int (p3 &&& (255 : Int32))), (.int v2)]) (hw _ (List.mem_of_getElem? (i := 6) rfl)) (hw _ (List.mem_of_getElem? (i := 7) rfl)) (hw _ (List.mem_of_getElem? (i := 9) rfl)) (hw _ (List.mem_of_getElem? (i := 8) rfl)) eh171 (rm2 l Z a0 hw [] (p0 &&& (255 : Int32)) (p1 &&& (255 : Int32)) (p2 &&& (255 : Int32)) (p3 &&& (255 : Int32)) v2 h135 n0 Zs142 hq173 hq177 hq181 hq185 hq189) (lenOf pd_85216236 rfl) (by decide) (by decide) (by decide) (by decide) rfl (W := 1) (Nat.le_of_eq rfl) (by decide) at_135 rfl fun r201 T202 Lc203 X204 hQ205 => ?_
  obtain ⟨r206, rfl, hs207, Nq208, eh209⟩ := hQ205
  have N210 := Fr.app N172 Nq208
  show Goes _ _ _ _ _ _ 138 _ [(.int r206), (.int r168)]
  have hq211 : w77.toInt % 256 = (p0 &&& (255 : Int32)).toInt := by
    have fr212 := rng32 w77
    have fr213 := rng32 p0
    have fo214 := c_i2b p0
    have fo215 := c_i2b ((p0).toInt8.toInt32)
    have fe216 : ((((p0).toInt8.toInt32)).toInt8.toInt32).toInt = w77.toInt := congrArg Int32.toInt hw77
    have fc217 : (255 : Int32).toInt = 255 := rfl
    have fo218 : (p0 &&& (255 : Int32)).toInt = p0.toInt % 256 := c_mask p0 (255 : Int32) 8 (by decide) (by decide)
    omega
  have hq219 : w95.toInt % 256 = (p1 &&& (255 : Int32)).toInt := by
    have fr220 := rng32 w95
    have fr221 := rng32 p1
    have fo222 := c_i2b p1
    have fo223 := c_i2b ((p1).toInt8.toInt32)
    have fe224 : ((((p1).toInt8.toInt32)).toInt8.toInt32).toInt = w95.toInt := congrArg Int32.toInt hw95
    have fc225 : (255 : Int32).toInt = 255 := rfl
    have fo226 : (p1 &&& (255 : Int32)).toInt = p1.toInt % 256 := c_mask p1 (255 : Int32) 8 (by decide) (by decide)
    omega
  have hq227 : w114.toInt % 256 = (p2 &&& (255 : Int32)).toInt := by
    have fr228 := rng32 w114
    have fr229 := rng32 p2
    have fo230 := c_i2b p2
    have fo231 := c_i2b ((p2).toInt8.toInt32)
    have fe232 : ((((p2).toInt8.toInt32)).toInt8.toInt32).toInt = w114.toInt := congrArg Int32.toInt hw114
    have fc233 : (255 : Int32).toInt = 255 := rfl
    have fo234 : (p2 &&& (255 : Int32)).toInt = p2.toInt % 256 := c_mask p2 (255 : Int32) 8 (by decide) (by decide)
    omega
  have hq235 : w133.toInt % 256 = (p3 &&& (255 : Int32)).toInt := by
    have fr236 := rng32 w133
    have fr237 := rng32 p3
    have fo238 := c_i2b p3
    have fo239 := c_i2b ((p3).toInt8.toInt32)
    have fe240 : ((((p3).toInt8.toInt32)).toInt8.toInt32).toInt = w133.toInt := congrArg Int32.toInt hw133
    have fc241 : (255 : Int32).toInt = 255 := rfl
    have fo242 : (p3 &&& (255 : Int32)).toInt = p3.toInt % 256 := c_mask p3 (255 : Int32) 8 (by decide) (by decide)
    omega
  have hq243 : v3.toInt - v1.toInt = v2.toInt := by
    have fr244 := rng32 v3
    have fr245 := rng32 v1
    have fr246 := rng32 p4
    have fc247 : (1 : Int32).toInt = 1 := rfl
    have fo248 : (p4 &&& (1 : Int32)).toInt = p4.toInt % 2 := c_mask p4 (1 : Int32) 1 (by decide) (by decide)
    have fe249 : (p4 &&& (1 : Int32)).toInt = v1.toInt := congrArg Int32.toInt hv1
    have fr250 := rng32 v2
    have fr251 := rng32 p5
    have fc252 : (2147483647 : Int32).toInt = 2147483647 := rfl
    have fo253 : (p5 &&& (2147483647 : Int32)).toInt = p5.toInt % 2147483648 := c_mask p5 (2147483647 : Int32) 31 (by decide) (by decide)
    have fc254 : (5 : Int32).toInt = 5 := rfl
    have fo255 := c_irem (p5 &&& (2147483647 : Int32)) (5 : Int32) 5 rfl
    have fr256 := rng32 ((p5 &&& (2147483647 : Int32)) % (5 : Int32))
    have fo257 := c_iadd (1 : Int32) ((p5 &&& (2147483647 : Int32)) % (5 : Int32))
    have fr258 := rng32 ((1 : Int32) + ((p5 &&& (2147483647 : Int32)) % (5 : Int32)))
    have fe259 : ((1 : Int32) + ((p5 &&& (2147483647 : Int32)) % (5 : Int32))).toInt = v2.toInt := congrArg Int32.toInt hv2
    have fo260 := c_iadd v1 v2
    have fr261 := rng32 (v1 + v2)
    have fe262 : (v1 + v2).toInt = v3.toInt := congrArg Int32.toInt hv3
    omega
  have hg263 : r168.toInt = r206.toInt := by rw [hs169, hs207, hq211, hq219, hq227, hq235, hq243]
  have hb264 : r168.toInt = r206.toInt := hg263
  refine g_icmp_ne_f 141 rfl C X204 at_138 hb264 ?_
  refine g_iconst 142 rfl C X204 (1 : Int32) at_141 rfl ?_
  refine g_goto 146 C X204 at_142 (by decide) (by decide) ?_
  exact g_retN C X204 (z' := (1 : Int32)) rfl (Or.inl rfl) at_146 eh209 (by decide) (by decide) rfl ⟨rfl, N210⟩
set_option maxRecDepth 65536 in
set_option maxHeartbeats 40000000 in
theorem comes_1 {Post : Tables → Env → Array Value → State → Outcome → State → Prop} (hpost : ∀ tb e args s v u, (limb_1_1.after args s (.returned v) u = true ∧ limb_1_2.after args s (.returned v) u = true ∧ True) → FrameEnd s (.returned v) u (Jvm.fieldLocs frame_1_writes args s ++ Jvm.arrayLocs frame_1_arrays args s ++ Jvm.staticLocs frame_1_statics s) 16 128 → Post tb e args s (.returned v) u) :
    ArmFor flags0 classFile x code maxLocals ret World_1 tables_1 room_1 Calls_1 rest_1 Pre_1 Post := by
  intro l hfl _ _ p e ha hc hk s m args below hf hA hF happ hP
  obtain ⟨hcalls, hrest, hpre⟩ := hP
  obtain ⟨-, -, -, hnamed, -, -, -, hat⟩ := (Spec.applies_iff hf).mp happ
  obtain ⟨hg, hn⟩ := and_e (Cond.before_iff.mp (show (Jvm.Cond.and given_1 narrow_1).before args s = true from hpre))
  obtain ⟨g1, g2⟩ := and_e hg
  obtain ⟨g3, g4⟩ := and_e g2
  obtain ⟨g5, g6⟩ := and_e g4
  obtain ⟨g7, g8⟩ := and_e g6
  obtain ⟨g9, g10⟩ := and_e g8
  obtain ⟨g11, g12⟩ := and_e g10
  obtain ⟨w0, w1, w2, w3, w4, w5, rfl⟩ : ∃ w0 w1 w2 w3 w4 w5 : Value, args = #[w0, w1, w2, w3, w4, w5] := by
    have hs : args.size = 6 := by simpa [Cond.value, given_1] using g1
    obtain ⟨L⟩ := args
    match L, hs with
    | [w0, w1, w2, w3, w4, w5], _ => exact ⟨w0, w1, w2, w3, w4, w5, rfl⟩
  have hw := fun d (hd : d ∈ tables_1) => atoms_spec (ws := Jvm.Cond.code x code maxLocals ret :: tables_1) hat d (List.mem_cons_of_mem _ hd)
  obtain ⟨i0, ei0⟩ := is_v g3
  obtain rfl : w0 = (.int i0) := Option.some.inj ei0
  obtain ⟨i1, ei1⟩ := is_v g5
  obtain rfl : w1 = (.int i1) := Option.some.inj ei1
  obtain ⟨i2, ei2⟩ := is_v g7
  obtain rfl : w2 = (.int i2) := Option.some.inj ei2
  obtain ⟨i3, ei3⟩ := is_v g9
  obtain rfl : w3 = (.int i3) := Option.some.inj ei3
  obtain ⟨i4, ei4⟩ := is_v g11
  obtain rfl : w4 = (.int i4) := Option.some.inj ei4
  obtain ⟨i5, ei5⟩ := is_v g12
  obtain rfl : w5 = (.int i5) := Option.some.inj ei5
  obtain ⟨n, o, h1, h2, h3, _, L, rfl, ⟨rfl, N⟩, hq⟩ := rm0 l s _ hw tables_1 i0 i1 i2 i3 i4 i5 s.heap s.heap.size (Nat.le_refl _) p e ha hc hk s m _ below hf ((Spec.applies_iff_loose hf).mp happ).1 ⟨rfl, State.Warmed39.refl s, rfl⟩ trivial
  refine ⟨n, _, h1, h2, h3, hpost _ _ _ _ _ _ ⟨Cond.after_iff.mpr rfl, Cond.after_iff.mpr (eq_i res_at (Term.int_eval (1)) rfl), trivial⟩ ⟨hq.1, hq.2.1, (hq.2.2.sift fun y hy => Or.inr (N y hy)).mono (by decide) (by decide)⟩⟩
theorem main_1_1 : Claimed_1_1 := comes_1 fun _ _ _ _ _ _ h hF => ⟨h.1, hF⟩
theorem main_1_2 : Claimed_1_2 := comes_1 fun _ _ _ _ _ _ h hF => ⟨h.2.1, hF⟩
end Jvm.Pilot.@@N@@
namespace Jvm.Pilot.@@N@@
open Jvm Jvm.ClassFile Sem Op Lib Jvm.Free Jvm.Stand Jvm.Pilot.@@N@@.Jvm.D
/-! MADE BY PROGRAM (witnessworld.py) out of the Statement's table words and the real class files: 9 classes; the members and pool entries that the words name. The judged class is class 1, her method 1. -/
namespace start1
open Jvm.ClassFile
def u (s : String) : CpInfo := .utf8 (stringToUtf16 s)
/-- a pool by its gaps: so many unusable entries, then the entry; so many at the end -/
def gap : Nat → List CpInfo → List CpInfo
  | 0, r => r
  | n + 1, r => .unusable :: gap n r
def poolList (es : List (Nat × CpInfo)) (last : Nat) : List CpInfo := es.foldr (fun e r => gap e.1 (e.2 :: r)) (gap last [])
def pool (es : List (Nat × CpInfo)) (last : Nat) : Array CpInfo := ⟨poolList es last⟩
def fileOf (pool : Array CpInfo) (this : Nat) (attrs : Array Attribute := #[]) (ms : Array MethodInfo := #[]) (fl : Nat := 33) (sup : Nat := 0) (ifs : Array Nat := #[]) (fds : Array FieldInfo := #[]) : ClassFile where
  minorVersion := 0
  majorVersion := 65
  constantPool := pool
  accessFlags := fl
  thisClass := this
  superClass := sup
  interfaces := ifs
  fields := fds
  methods := ms
  attributes := attrs
def plain (name : String) (sup : Option ClassId) : Class where
  name := name
  kind := .ordinary
  loader := none
  accessFlags := 33
  super := sup
  interfaces := #[]
  cf := none
  fields := #[]
  methods := #[]
  instanceTypes := #[]
  staticTypes := #[]
  resolved := #[]
  callSites := []
  init := .initialized
  statics := none
  mirror := none

def pool0 : Array CpInfo := pool [(5, u "<init>"), (0, u "()V"), (1, .class_ 10), (1, u "java/lang/Object")] 113

def k0m0 : Method := { name := "<init>", desc := "()V", sig := { parameters := [], returnType := none }, accessFlags := 1, code := none }
/-- java/lang/Object -/
def k0 : Class := { plain "java/lang/Object" none with
  accessFlags := 33
  interfaces := #[]
  cf := some (fileOf pool0 8 #[] #[{ accessFlags := 1, nameIndex := 5, descriptorIndex := 6, attributes := #[] }] 33 0 #[] #[])
  fields := #[]
  methods := #[k0m0]
  instanceTypes := #[]
  staticTypes := #[]
  resolved := Array.replicate 124 none
  statics := none }

def pool1 : Array CpInfo := pool [(2, .class_ 4), (1, u "java/lang/Object"), (0, u "<init>"), (0, u "()V"), (0, .integer 2147483647), (0, .methodref 9 10), (0, .class_ 11), (0, .nameAndType 12 13), (0, u "com/example/schedario/schedario/records/Utf8"), (0, u "sequence"), (0, u "([BII)I"), (0, .methodref 15 16), (0, .class_ 17), (0, .nameAndType 18 19), (0, u "com/example/schedario/schedario/records/Utf8SequencePinLaw"), (0, u "expected"), (0, u "(IIIII)I"), (0, .methodref 15 21), (0, .nameAndType 22 23), (0, u "cont"), (0, u "(I)Z"), (0, .integer 55296), (0, .integer 57343), (0, .integer 65536), (0, .integer 1114111), (2, u "law"), (0, u "(IIIIII)Z")] 5

def k1m0 : Method := { name := "<init>", desc := "()V", sig := { parameters := [], returnType := none }, accessFlags := 2, code := none }
def k1c1 : Code := { maxStack := 6, maxLocals := 11, code := code, exceptionTable := #[], attributes := #[] }
def k1m1 : Method := { name := "law", desc := "(IIIIII)Z", sig := { parameters := [.int, .int, .int, .int, .int, .int], returnType := some .boolean }, accessFlags := 9, code := some k1c1 }
def k1c2 : Code := { maxStack := 2, maxLocals := 1, code := method_3_code, exceptionTable := #[], attributes := #[] }
def k1m2 : Method := { name := "cont", desc := "(I)Z", sig := { parameters := [.int], returnType := some .boolean }, accessFlags := 10, code := some k1c2 }
def k1c3 : Code := { maxStack := 3, maxLocals := 7, code := method_4_code, exceptionTable := #[], attributes := #[] }
def k1m3 : Method := { name := "expected", desc := "(IIIII)I", sig := { parameters := [.int, .int, .int, .int, .int], returnType := some .int }, accessFlags := 10, code := some k1c3 }
/-- com/example/schedario/schedario/records/Utf8SequencePinLaw -/
def k1 : Class := { plain "com/example/schedario/schedario/records/Utf8SequencePinLaw" (some 0) with
  accessFlags := 49
  interfaces := #[]
  cf := some (fileOf pool1 15 #[] #[{ accessFlags := 2, nameIndex := 5, descriptorIndex := 6, attributes := #[] }, { accessFlags := 9, nameIndex := 30, descriptorIndex := 31, attributes := #[] }, { accessFlags := 10, nameIndex := 22, descriptorIndex := 23, attributes := #[] }, { accessFlags := 10, nameIndex := 18, descriptorIndex := 19, attributes := #[] }] 49 2 #[] #[])
  fields := #[]
  methods := #[k1m0, k1m1, k1m2, k1m3]
  instanceTypes := #[]
  staticTypes := #[]
  resolved := Array.replicate 37 none
  statics := none }

def pool2 : Array CpInfo := pool [(2, .class_ 4), (1, u "java/lang/Object"), (0, u "<init>"), (0, u "()V"), (1, .class_ 10), (1, u "com/example/schedario/schedario/records/Utf8"), (0, u "sequence"), (0, u "([BII)I")] 18

def k2m0 : Method := { name := "<init>", desc := "()V", sig := { parameters := [], returnType := none }, accessFlags := 2, code := none }
def k2c1 : Code := { maxStack := 3, maxLocals := 9, code := prog_50_method_3_code, exceptionTable := #[], attributes := #[] }
def k2m1 : Method := { name := "sequence", desc := "([BII)I", sig := { parameters := [(.array .byte), .int, .int], returnType := some .int }, accessFlags := 8, code := some k2c1 }
/-- com/example/schedario/schedario/records/Utf8 -/
def k2 : Class := { plain "com/example/schedario/schedario/records/Utf8" (some 0) with
  accessFlags := 48
  interfaces := #[]
  cf := some (fileOf pool2 8 #[] #[{ accessFlags := 2, nameIndex := 5, descriptorIndex := 6, attributes := #[] }, { accessFlags := 8, nameIndex := 11, descriptorIndex := 12, attributes := #[] }] 48 2 #[] #[])
  fields := #[]
  methods := #[k2m0, k2m1]
  instanceTypes := #[]
  staticTypes := #[]
  resolved := Array.replicate 31 none
  statics := none }

def pool3 : Array CpInfo := pool [(1, u "java/lang/Cloneable"), (0, .class_ 1), (0, u "java/lang/Object"), (0, .class_ 3)] 3

/-- java/lang/Cloneable -/
def k3 : Class := { plain "java/lang/Cloneable" (some 0) with
  accessFlags := 1537
  interfaces := #[]
  cf := some (fileOf pool3 2 #[] #[] 1537 4 #[] #[])
  fields := #[]
  methods := #[]
  instanceTypes := #[]
  staticTypes := #[]
  resolved := Array.replicate 8 none
  statics := none }

def pool4 : Array CpInfo := pool [(1, u "java/io/Serializable"), (0, .class_ 1), (0, u "java/lang/Object"), (0, .class_ 3)] 3

/-- java/io/Serializable -/
def k4 : Class := { plain "java/io/Serializable" (some 0) with
  accessFlags := 1537
  interfaces := #[]
  cf := some (fileOf pool4 2 #[] #[] 1537 4 #[] #[])
  fields := #[]
  methods := #[]
  instanceTypes := #[]
  staticTypes := #[]
  resolved := Array.replicate 8 none
  statics := none }

/-- the primitive byte -/
def k5 : Class := { plain "byte" none with kind := .primitive 'B', accessFlags := 0x411 }
/-- [B -/
def k6 : Class := { plain "[B" (some 0) with kind := .array 5 .byte, interfaces := #[3, 4], accessFlags := 1041 }

/-- the primitive int -/
def k7 : Class := { plain "int" none with kind := .primitive 'I', accessFlags := 0x411 }
/-- [I -/
def k8 : Class := { plain "[I" (some 0) with kind := .array 7 .int, interfaces := #[3, 4], accessFlags := 1041 }

def heap : Heap := #[]
def classes : Array Class := #[k0, k1, k2, k3, k4, k5, k6, k7, k8]
def interned : List (Array UInt16 × Addr) := []
def slotsUsed : Nat := 0
def theMethod : MethodId := ⟨1, 1⟩
def args0 : Array Value := #[.int 5, .int 7, .int 9, .int 2, .int 3, .int 4]
def aboutOver (below : List Frame) : State where
  vm := { classes := classes, interned := interned.toArray }
  heap := heap
  slotsUsed := slotsUsed
  threads := #[{ frames := .invoking theMethod args0 :: below }]
def below0 : List Frame := [.native { method := ⟨0, 0⟩, args := #[] }]
def about1 : State := aboutOver below0
def p0 : Program := .bare "" "" ""
def e0 : Env := launch0.env 0 0 0
theorem w_frames : about1.frames = Frame.invoking theMethod args0 :: below0 := rfl
set_option maxRecDepth 65536 in
theorem w_args : argsFit about1.vm theMethod args0 = true := by decide +kernel
set_option maxRecDepth 65536 in
theorem w_heap : heapFits about1 = true := by decide +kernel
set_option maxRecDepth 65536 in
theorem w_runnable : about1.curStatus? = some .runnable := by decide +kernel
set_option maxRecDepth 65536 in
theorem w_alone : about1.alone = true := by decide +kernel
set_option maxRecDepth 65536 in
theorem w_named : about1.methodNamed? x = some theMethod := by decide +kernel
set_option maxRecDepth 65536 in
theorem w_hears : about1.hears theMethod below0 = true := by decide +kernel
set_option maxRecDepth 65536 in
theorem w_ripe : about1.ripe theMethod args0 below0 = true := by decide +kernel
theorem w_running : about1.status = .running := rfl
set_option maxRecDepth 65536 in
theorem w_room : about1.hasRoom e0.platform room_1 = true :=
  launch0.hasRoom_least _ room_1 (by decide +kernel) (by decide +kernel) (by decide +kernel) (by decide +kernel) (by decide +kernel) (by decide +kernel)
theorem allAtoms_all (ts : List Jvm.Cond) (a : Array Jvm.Value) (st : Jvm.State) : (allAtoms ts).before a st = ts.all (fun c => c.before a st) := by
  induction ts with
  | nil => rfl
  | cons c t ih =>
    show (Jvm.Cond.and c (allAtoms t)).before a st = _
    rw [Jvm.Cond.before_and, ih, List.all_cons]
def words1 : List Jvm.Cond := Jvm.Cond.code x code maxLocals ret :: tables_1
/-- a 'code' word, met by the world's own term for the bytes: nothing is compared byte by byte -/
theorem code_word {y : MethodName} {bytes : ByteArray} {mx : Nat} {rt : Option FieldType} {a : Array Value} {s : State} {m : MethodId} {meth : Method} {c : Code} (h1 : s.methodNamed? y = some m) (h2 : s.vm.method? m = some meth) (h3 : meth.code = some c) (h4 : c.code = bytes)
    (h5 : (c.maxLocals == mx && c.exceptionTable.isEmpty && decide (c.maxStack ≤ mostOperands) && decide (meth.sig.returnType = rt) && !meth.locks && decide (parseMethodDescriptor y.desc = some meth.sig)) = true) : (Jvm.Cond.code y bytes mx rt).before a s = true := by
  simp only [Bool.and_eq_true, beq_iff_eq, Bool.not_eq_true', decide_eq_true_eq] at h5
  obtain ⟨⟨⟨⟨⟨g1, g2⟩, g3⟩, g4⟩, g5⟩, g6⟩ := h5
  simp [Cond.before, Cond.holds, Cond.value, h1, h2, h3, h4, g1, g2, g3, g4, g5, g6]
def isCode : Jvm.Cond → Bool
  | .code _ _ _ _ => true
  | _ => false
theorem all_split {L : List Jvm.Cond} {P : Jvm.Cond → Bool} (h1 : L.all (fun c => isCode c || P c) = true) (h2 : ∀ c ∈ L.filter isCode, P c = true) : L.all P = true := by
  refine List.all_eq_true.mpr fun c hc => ?_
  have h := List.all_eq_true.mp h1 c hc
  rcases Bool.eq_false_or_eq_true (isCode c) with hi | hi
  · exact h2 c (List.mem_filter.mpr ⟨hc, hi⟩)
  · simpa [hi] using h
set_option maxRecDepth 65536 in
theorem w_c0 : (Jvm.Cond.code x code maxLocals ret).before args0 about1 = true := code_word (m := ⟨1, 1⟩) (meth := k1m1) (c := k1c1) (by decide +kernel) rfl rfl rfl (by decide +kernel)
set_option maxRecDepth 65536 in
theorem w_c1 : (Jvm.Cond.code ({ cls := "com/example/schedario/schedario/records/Utf8", name := "sequence", desc := "([BII)I" } : Jvm.MethodName) prog_50_method_3_code (9 : Nat) (Option.some Jvm.ClassFile.FieldType.int)).before args0 about1 = true := code_word (m := ⟨2, 1⟩) (meth := k2m1) (c := k2c1) (by decide +kernel) rfl rfl rfl (by decide +kernel)
set_option maxRecDepth 65536 in
theorem w_c2 : (Jvm.Cond.code ({ cls := "com/example/schedario/schedario/records/Utf8SequencePinLaw", name := "expected", desc := "(IIIII)I" } : Jvm.MethodName) method_4_code (7 : Nat) (Option.some Jvm.ClassFile.FieldType.int)).before args0 about1 = true := code_word (m := ⟨1, 3⟩) (meth := k1m3) (c := k1c3) (by decide +kernel) rfl rfl rfl (by decide +kernel)
set_option maxRecDepth 65536 in
theorem w_c3 : (Jvm.Cond.code ({ cls := "com/example/schedario/schedario/records/Utf8SequencePinLaw", name := "cont", desc := "(I)Z" } : Jvm.MethodName) method_3_code (1 : Nat) (Option.some Jvm.ClassFile.FieldType.boolean)).before args0 about1 = true := code_word (m := ⟨1, 2⟩) (meth := k1m2) (c := k1c2) (by decide +kernel) rfl rfl rfl (by decide +kernel)
def codes1 : List Jvm.Cond := [Jvm.Cond.code x code maxLocals ret, Jvm.Cond.code ({ cls := "com/example/schedario/schedario/records/Utf8", name := "sequence", desc := "([BII)I" } : Jvm.MethodName) prog_50_method_3_code (9 : Nat) (Option.some Jvm.ClassFile.FieldType.int), Jvm.Cond.code ({ cls := "com/example/schedario/schedario/records/Utf8SequencePinLaw", name := "expected", desc := "(IIIII)I" } : Jvm.MethodName) method_4_code (7 : Nat) (Option.some Jvm.ClassFile.FieldType.int), Jvm.Cond.code ({ cls := "com/example/schedario/schedario/records/Utf8SequencePinLaw", name := "cont", desc := "(I)Z" } : Jvm.MethodName) method_3_code (1 : Nat) (Option.some Jvm.ClassFile.FieldType.boolean)]
set_option maxRecDepth 65536 in
theorem codes_eq : words1.filter isCode = codes1 := rfl
theorem w_codes : ∀ c ∈ words1.filter isCode, c.before args0 about1 = true := by
  rw [codes_eq]
  intro c hc
  simp only [codes1, List.mem_cons, List.not_mem_nil, or_false] at hc
  rcases hc with rfl | rfl | rfl | rfl
  · exact w_c0
  · exact w_c1
  · exact w_c2
  · exact w_c3
set_option maxRecDepth 65536 in
theorem w_t1 : words1.all (fun c => isCode c || c.before args0 about1) = true := by decide +kernel
theorem w_tables : (allAtoms (Jvm.Cond.code x code maxLocals ret :: tables_1)).before args0 about1 = true := by
  rw [allAtoms_all]
  show words1.all (fun c => c.before args0 about1) = true
  refine all_split ?_ w_codes
  rw [w_t1]
set_option maxRecDepth 65536 in
theorem w_case : (Jvm.Cond.and given_1 narrow_1).before args0 about1 = true := by decide +kernel
theorem w_applies : (headSpec (Jvm.Cond.code x code maxLocals ret :: tables_1) room_1).applies x e0.platform about1 = true :=
  (Spec.applies_iff w_frames).mpr ⟨w_running, w_runnable, w_alone, w_named, w_hears, w_ripe, w_room, w_tables⟩
theorem atStart : AtStart classFile x code maxLocals ret World_1 tables_1 room_1 Calls_1 rest_1 Pre_1 launch0 p0 e0 about1 theMethod args0 below0 :=
  ⟨lists_1, trivial, launch0.admits_env _ _ _, launch0.least_env, fairChoices_fair.cas, fairChoices_fair.clock, w_frames, w_args, w_heap, w_applies, trivial, trivial, w_case⟩
end start1
theorem witness_1 : WitnessClaimed_1 := ⟨start1.p0, start1.e0, start1.about1, start1.theMethod, start1.args0, start1.below0, start1.atStart⟩
end Jvm.Pilot.@@N@@
