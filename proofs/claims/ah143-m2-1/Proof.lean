import JvmDerived
import JvmDerived.Pilot.@@N@@Statement
import JvmDerived.Pilot.@@N@@Code
set_option linter.unusedVariables false
set_option linter.unusedSimpArgs false
namespace Jvm.Pilot.@@N@@
open Jvm Jvm.ClassFile Sem Op Lib Jvm.Free Jvm.Stand Jvm.LawKit Jvm.RoadKit Bundle Jvm.Pilot.@@N@@.Jvm.D
section Own
set_option maxHeartbeats 4000000
variable {p : Program} {l : Launch} {e : Env} {R : Room} {s : State} {m : MethodId} {args : Array Value} {below : List Frame} {meth : Method} {c : Code} {T : State} {locs : List Loc} {cells slots : Nat} {Z : State} {a0 : Array Value} {h : Heap} {own nm : String} {bytes : ByteArray} {ml : Nat} {rt : Option FieldType} {Q : Option Value → Heap → List Loc → Prop} {CC SS : Nat} {E : Outcome → State → Prop} {pc : Nat} {Ls : Array Slot} {St : List Value}
def Ctx (p : Program) (s : State) (m : MethodId) (meth : Method) (c : Code) (Z : State) (own nm : String) (bytes : ByteArray) (ml : Nat) (rt : Option FieldType) : Prop :=
  p.tables.exec = Jvm.exec ∧ Z.Warmed39 s.vm ∧ c.code = bytes ∧ c.maxLocals = ml ∧ s.vm.findClass own = some m.cls ∧ meth.locks = false ∧ meth.sig.returnType = rt ∧ meth.name = nm
theorem Ctx.c_x (C : Ctx p s m meth c Z own nm bytes ml rt) : p.tables.exec = Jvm.exec := C.1
theorem Ctx.c_z (C : Ctx p s m meth c Z own nm bytes ml rt) : Z.Warmed39 s.vm := C.2.1
theorem Ctx.c_by (C : Ctx p s m meth c Z own nm bytes ml rt) : c.code = bytes := C.2.2.1
theorem Ctx.c_ml (C : Ctx p s m meth c Z own nm bytes ml rt) : c.maxLocals = ml := C.2.2.2.1
theorem Ctx.c_own (C : Ctx p s m meth c Z own nm bytes ml rt) : s.vm.findClass own = some m.cls := C.2.2.2.2.1
theorem Ctx.c_lk (C : Ctx p s m meth c Z own nm bytes ml rt) : meth.locks = false := C.2.2.2.2.2.1
theorem Ctx.c_rt (C : Ctx p s m meth c Z own nm bytes ml rt) : meth.sig.returnType = rt := C.2.2.2.2.2.2.1
theorem Ctx.c_nm (C : Ctx p s m meth c Z own nm bytes ml rt) : meth.name = nm := C.2.2.2.2.2.2.2
def EndN (s : State) (Q : Option Value → Heap → List Loc → Prop) (CC SS : Nat) (o : Outcome) (t : State) : Prop := ∃ v L, o = .returned v ∧ Q v t.heap L ∧ FrameEnd s o t L CC SS
def Goes (p : Program) (e : Env) (below : List Frame) (E : Outcome → State → Prop) (T : State) (m : MethodId) (pc : Nat) (Ls : Array Slot) (St : List Value) : Prop :=
  ∃ s₂ o, Steps p.tables e below (T.setTop (mkF m pc Ls St)) s₂ ∧ s₂.status = .running ∧ Ended s₂ below o ∧ E o s₂
theorem Goes.back {T' : State} {q : Nat} {Ls' : Array Slot} {St' : List Value} (k : Goes p e below E T' m q Ls' St') (f : ∀ t, Steps p.tables e below (T'.setTop (mkF m q Ls' St')) t → Steps p.tables e below (T.setTop (mkF m pc Ls St)) t) : Goes p e below E T m pc Ls St := by
  obtain ⟨s2, o, h1, h2⟩ := k
  exact ⟨s2, o, f _ h1, h2⟩
theorem Goes.enter {g : JFrame} (hg : g = mkF m 0 Ls []) (k : Goes p e below (EndN s Q CC SS) T m 0 Ls []) : ∃ s₂ o, Steps p.tables e below (T.setTop g) s₂ ∧ s₂.status = .running ∧ Ended s₂ below o ∧ ∃ v L, o = .returned v ∧ Q v s₂.heap L ∧ FrameEnd s o s₂ L CC SS := by
  subst hg
  exact k
theorem Ctx.of {x : MethodName} {S : Spec} {s₁ : State} (Bd : BodyLoose p l x S bytes ml rt e s m args below meth c s₁) (hml : c.maxLocals = ml) (hZ : Z.Warmed39 s.vm) : Ctx p s m meth c Z x.cls x.name bytes ml rt :=
  ⟨Bd.exec, hZ, Bd.bytes, hml, findClass_of_methodNamed Bd.named, Bd.notSynchronized, Bd.returns, (name_of_methodNamed Bd.named Bd.method).1⟩
theorem g_iadd (q : Nat) (hq : pc + 1 = q) (C : Ctx p s m meth c Z own nm bytes ml rt) (X : Stand p l e R s m args below meth c T locs cells slots) {x y : Int32} (hd : decode bytes pc = .ok (.iadd, 1)) (k : Goes p e below E T m q Ls (.int (x + y) :: St)) : Goes p e below E T m pc Ls (.int y :: .int x :: St) := by
  subst hq
  exact k.back fun t kt => XS.iadd (g := mkF m pc Ls (.int y :: .int x :: St)) X.here C.c_x rfl (hb C.c_by hd) rfl kt
theorem g_iand (q : Nat) (hq : pc + 1 = q) (C : Ctx p s m meth c Z own nm bytes ml rt) (X : Stand p l e R s m args below meth c T locs cells slots) {x y : Int32} (hd : decode bytes pc = .ok (.iand, 1)) (k : Goes p e below E T m q Ls (.int (x &&& y) :: St)) : Goes p e below E T m pc Ls (.int y :: .int x :: St) := by
  subst hq
  exact k.back fun t kt => XS.iand (g := mkF m pc Ls (.int y :: .int x :: St)) X.here C.c_x rfl (hb C.c_by hd) rfl kt
theorem g_ior (q : Nat) (hq : pc + 1 = q) (C : Ctx p s m meth c Z own nm bytes ml rt) (X : Stand p l e R s m args below meth c T locs cells slots) {x y : Int32} (hd : decode bytes pc = .ok (.ior, 1)) (k : Goes p e below E T m q Ls (.int (x ||| y) :: St)) : Goes p e below E T m pc Ls (.int y :: .int x :: St) := by
  subst hq
  exact k.back fun t kt => XS.ior (g := mkF m pc Ls (.int y :: .int x :: St)) X.here C.c_x rfl (hb C.c_by hd) rfl kt
theorem g_irem (q : Nat) (hq : pc + 1 = q) (C : Ctx p s m meth c Z own nm bytes ml rt) (X : Stand p l e R s m args below meth c T locs cells slots) {x y : Int32} (hd : decode bytes pc = .ok (.irem, 1)) (hy : y ≠ 0) (k : Goes p e below E T m q Ls (.int (x % y) :: St)) : Goes p e below E T m pc Ls (.int y :: .int x :: St) := by
  subst hq
  exact k.back fun t kt => XS.irem (g := mkF m pc Ls (.int y :: .int x :: St)) X.here C.c_x rfl (hb C.c_by hd) rfl hy (by rw [irem_eq_mod]; exact kt)
theorem g_ishl (q : Nat) (hq : pc + 1 = q) (C : Ctx p s m meth c Z own nm bytes ml rt) (X : Stand p l e R s m args below meth c T locs cells slots) {x y : Int32} (hd : decode bytes pc = .ok (.ishl, 1)) (k : Goes p e below E T m q Ls (.int (x <<< (y &&& 31)) :: St)) : Goes p e below E T m pc Ls (.int y :: .int x :: St) := by
  subst hq
  exact k.back fun t kt => XS.ishl (g := mkF m pc Ls (.int y :: .int x :: St)) X.here C.c_x rfl (hb C.c_by hd) rfl kt
theorem g_ishr (q : Nat) (hq : pc + 1 = q) (C : Ctx p s m meth c Z own nm bytes ml rt) (X : Stand p l e R s m args below meth c T locs cells slots) {x y : Int32} (hd : decode bytes pc = .ok (.ishr, 1)) (k : Goes p e below E T m q Ls (.int (x >>> (y &&& 31)) :: St)) : Goes p e below E T m pc Ls (.int y :: .int x :: St) := by
  subst hq
  exact k.back fun t kt => XS.ishr (g := mkF m pc Ls (.int y :: .int x :: St)) X.here C.c_x rfl (hb C.c_by hd) rfl kt
theorem g_lushr (q : Nat) (hq : pc + 1 = q) (C : Ctx p s m meth c Z own nm bytes ml rt) (X : Stand p l e R s m args below meth c T locs cells slots) {x : Int64} {y : Int32} (hd : decode bytes pc = .ok (.lushr, 1)) (k : Goes p e below E T m q Ls (.long ((x.toUInt64 >>> (y &&& 0x3f).toInt64.toUInt64).toInt64) :: St)) : Goes p e below E T m pc Ls (.int y :: .long x :: St) := by
  subst hq
  exact k.back fun t kt => XS.lushr (g := mkF m pc Ls (.int y :: .long x :: St)) X.here C.c_x rfl (hb C.c_by hd) rfl kt
theorem g_i2b (q : Nat) (hq : pc + 1 = q) (C : Ctx p s m meth c Z own nm bytes ml rt) (X : Stand p l e R s m args below meth c T locs cells slots) {x : Int32} (hd : decode bytes pc = .ok (.i2b, 1)) (k : Goes p e below E T m q Ls (.int (x.toInt8.toInt32) :: St)) : Goes p e below E T m pc Ls (.int x :: St) := by
  subst hq
  exact k.back fun t kt => XS.i2b (g := mkF m pc Ls (.int x :: St)) X.here C.c_x rfl (hb C.c_by hd) rfl kt
theorem g_l2i (q : Nat) (hq : pc + 1 = q) (C : Ctx p s m meth c Z own nm bytes ml rt) (X : Stand p l e R s m args below meth c T locs cells slots) {x : Int64} (hd : decode bytes pc = .ok (.l2i, 1)) (k : Goes p e below E T m q Ls (.int x.toInt32 :: St)) : Goes p e below E T m pc Ls (.long x :: St) := by
  subst hq
  exact k.back fun t kt => XS.l2i (g := mkF m pc Ls (.long x :: St)) X.here C.c_x rfl (hb C.c_by hd) rfl kt
theorem g_iconst (q : Nat) (hq : pc + 1 = q) (C : Ctx p s m meth c Z own nm bytes ml rt) (X : Stand p l e R s m args below meth c T locs cells slots) {i : Int} (v : Int32) (hd : decode bytes pc = .ok (.iconst i, 1)) (hv : Int32.ofInt i = v) (k : Goes p e below E T m q Ls (.int v :: St)) : Goes p e below E T m pc Ls St := by
  subst hq
  exact k.back fun t kt => XS.iconst (g := mkF m pc Ls St) X.here C.c_x rfl (hb C.c_by hd) (by subst hv; exact kt)
theorem g_bipush (q : Nat) (hq : pc + 2 = q) (C : Ctx p s m meth c Z own nm bytes ml rt) (X : Stand p l e R s m args below meth c T locs cells slots) {i : Int} (v : Int32) (hd : decode bytes pc = .ok (.bipush i, 2)) (hv : (Int8.ofInt i).toInt32 = v) (k : Goes p e below E T m q Ls (.int v :: St)) : Goes p e below E T m pc Ls St := by
  subst hq
  exact k.back fun t kt => XS.bipush (g := mkF m pc Ls St) X.here C.c_x rfl (hb C.c_by hd) (by subst hv; exact kt)
theorem g_sipush (q : Nat) (hq : pc + 3 = q) (C : Ctx p s m meth c Z own nm bytes ml rt) (X : Stand p l e R s m args below meth c T locs cells slots) {i : Int} (v : Int32) (hd : decode bytes pc = .ok (.sipush i, 3)) (hv : (Int16.ofInt i).toInt32 = v) (k : Goes p e below E T m q Ls (.int v :: St)) : Goes p e below E T m pc Ls St := by
  subst hq
  exact k.back fun t kt => XS.sipush (g := mkF m pc Ls St) X.here C.c_x rfl (hb C.c_by hd) (by subst hv; exact kt)
theorem g_iloadN (q : Nat) (hq : pc + 1 = q) (C : Ctx p s m meth c Z own nm bytes ml rt) (X : Stand p l e R s m args below meth c T locs cells slots) {k0 : Fin 4} {v : Int32} (hd : decode bytes pc = .ok (.iload_n k0, 1)) (hl : Ls[k0.val]? = some (.val (.int v))) (k : Goes p e below E T m q Ls (.int v :: St)) : Goes p e below E T m pc Ls St := by
  subst hq
  exact k.back fun t kt => XS.iloadN (g := mkF m pc Ls St) X.here C.c_x rfl (hb C.c_by hd) hl kt
theorem g_iload (q : Nat) (hq : pc + 2 = q) (C : Ctx p s m meth c Z own nm bytes ml rt) (X : Stand p l e R s m args below meth c T locs cells slots) {k0 : Nat} {v : Int32} (hd : decode bytes pc = .ok (.iload k0, 2)) (hl : Ls[k0]? = some (.val (.int v))) (k : Goes p e below E T m q Ls (.int v :: St)) : Goes p e below E T m pc Ls St := by
  subst hq
  exact k.back fun t kt => XS.iload (g := mkF m pc Ls St) X.here C.c_x rfl (hb C.c_by hd) hl kt
theorem g_lloadN (q : Nat) (hq : pc + 1 = q) (C : Ctx p s m meth c Z own nm bytes ml rt) (X : Stand p l e R s m args below meth c T locs cells slots) {k0 : Fin 4} {v : Int64} (hd : decode bytes pc = .ok (.lload_n k0, 1)) (hl : Ls[k0.val]? = some (.val (.long v))) (k : Goes p e below E T m q Ls (.long v :: St)) : Goes p e below E T m pc Ls St := by
  subst hq
  exact k.back fun t kt => XS.lloadN (g := mkF m pc Ls St) X.here C.c_x rfl (hb C.c_by hd) hl kt
theorem g_aloadN (q : Nat) (hq : pc + 1 = q) (C : Ctx p s m meth c Z own nm bytes ml rt) (X : Stand p l e R s m args below meth c T locs cells slots) {k0 : Fin 4} {v : Value} (hd : decode bytes pc = .ok (.aload_n k0, 1)) (hl : Ls[k0.val]? = some (.val v)) (hv : v.isRef = true) (k : Goes p e below E T m q Ls (v :: St)) : Goes p e below E T m pc Ls St := by
  subst hq
  exact k.back fun t kt => XS.aloadN (g := mkF m pc Ls St) X.here C.c_x rfl (hb C.c_by hd) hl hv kt
theorem g_aload (q : Nat) (hq : pc + 2 = q) (C : Ctx p s m meth c Z own nm bytes ml rt) (X : Stand p l e R s m args below meth c T locs cells slots) {k0 : Nat} {v : Value} (hd : decode bytes pc = .ok (.aload k0, 2)) (hl : Ls[k0]? = some (.val v)) (hv : v.isRef = true) (k : Goes p e below E T m q Ls (v :: St)) : Goes p e below E T m pc Ls St := by
  subst hq
  exact k.back fun t kt => XS.aload (g := mkF m pc Ls St) X.here C.c_x rfl (hb C.c_by hd) hl hv kt
theorem g_istoreN (q : Nat) (hq : pc + 1 = q) (C : Ctx p s m meth c Z own nm bytes ml rt) (X : Stand p l e R s m args below meth c T locs cells slots) {k0 : Fin 4} {x : Int32} (v : Int32) (hv : x = v) (Ls' : Array Slot) (hd : decode bytes pc = .ok (.istore_n k0, 1)) (hl : storeLocals Ls k0.val (.int v) = some Ls') (k : Goes p e below E T m q Ls' St) : Goes p e below E T m pc Ls (.int x :: St) := by
  subst hq
  exact k.back fun t kt => XS.istoreN (g := mkF m pc Ls (.int x :: St)) X.here C.c_x rfl (hb C.c_by hd) rfl (by subst hv; exact hl) kt
theorem g_istore (q : Nat) (hq : pc + 2 = q) (C : Ctx p s m meth c Z own nm bytes ml rt) (X : Stand p l e R s m args below meth c T locs cells slots) {k0 : Nat} {x : Int32} (v : Int32) (hv : x = v) (Ls' : Array Slot) (hd : decode bytes pc = .ok (.istore k0, 2)) (hl : storeLocals Ls k0 (.int v) = some Ls') (k : Goes p e below E T m q Ls' St) : Goes p e below E T m pc Ls (.int x :: St) := by
  subst hq
  exact k.back fun t kt => XS.istore (g := mkF m pc Ls (.int x :: St)) X.here C.c_x rfl (hb C.c_by hd) rfl (by subst hv; exact hl) kt
theorem g_astore (q : Nat) (hq : pc + 2 = q) (C : Ctx p s m meth c Z own nm bytes ml rt) (X : Stand p l e R s m args below meth c T locs cells slots) {k0 : Nat} {x : Value} (Ls' : Array Slot) (hd : decode bytes pc = .ok (.astore k0, 2)) (hv : x.isRef = true) (hl : storeLocals Ls k0 x = some Ls') (k : Goes p e below E T m q Ls' St) : Goes p e below E T m pc Ls (x :: St) := by
  subst hq
  exact k.back fun t kt => XS.astore (g := mkF m pc Ls (x :: St)) X.here C.c_x rfl (hb C.c_by hd) rfl hv hl kt
theorem g_iinc (q : Nat) (hq : pc + 3 = q) (C : Ctx p s m meth c Z own nm bytes ml rt) (X : Stand p l e R s m args below meth c T locs cells slots) {k0 : Nat} {i : Int} {x : Int32} (w v : Int32) (Ls' : Array Slot) (hd : decode bytes pc = .ok (.iinc k0 i, 3)) (hw : Int32.ofInt i = w) (hl : Ls[k0]? = some (.val (.int x))) (hv : x + w = v) (hl' : storeLocals Ls k0 (.int v) = some Ls') (k : Goes p e below E T m q Ls' St) : Goes p e below E T m pc Ls St := by
  subst hq
  exact k.back fun t kt => XS.iinc (g := mkF m pc Ls St) X.here C.c_x rfl (hb C.c_by hd) hl (by subst hw hv; exact hl') kt
theorem g_goto (q : Nat) (C : Ctx p s m meth c Z own nm bytes ml rt) (X : Stand p l e R s m args below meth c T locs cells slots) {o : Int} (hd : decode bytes pc = .ok (.goto o, 3)) (ho : 0 ≤ (pc : Int) + o) (hp : ((pc : Int) + o).toNat = q) (k : Goes p e below E T m q Ls St) : Goes p e below E T m pc Ls St :=
  k.back fun t kt => XS.goto (g := mkF m pc Ls St) X.here C.c_x rfl (pc0 := pc) (pc' := q) rfl (hb C.c_by hd) ho hp kt
theorem own_z0 : (0 : Int32).toInt = 0 := rfl
theorem g_icmp_lt_t (q : Nat) (C : Ctx p s m meth c Z own nm bytes ml rt) (X : Stand p l e R s m args below meth c T locs cells slots) {o : Int} {x y : Int32} (hd : decode bytes pc = .ok (.if_icmp .lt o, 3)) (ho : 0 ≤ (pc : Int) + o) (hp : ((pc : Int) + o).toNat = q) (h : x.toInt < y.toInt) (k : Goes p e below E T m q Ls St) : Goes p e below E T m pc Ls (.int y :: .int x :: St) :=
  k.back fun t kt => XS.icmpYes (g := mkF m pc Ls (.int y :: .int x :: St)) X.here C.c_x rfl (pc0 := pc) (pc' := q) rfl (hb C.c_by hd) rfl (tlt (Int32.lt_iff_toInt_lt.mpr h)).1 ho hp kt
theorem g_icmp_lt_f (q : Nat) (hq : pc + 3 = q) (C : Ctx p s m meth c Z own nm bytes ml rt) (X : Stand p l e R s m args below meth c T locs cells slots) {o : Int} {x y : Int32} (hd : decode bytes pc = .ok (.if_icmp .lt o, 3)) (h : ¬ x.toInt < y.toInt) (k : Goes p e below E T m q Ls St) : Goes p e below E T m pc Ls (.int y :: .int x :: St) := by
  subst hq
  exact k.back fun t kt => XS.icmpNo (g := mkF m pc Ls (.int y :: .int x :: St)) X.here C.c_x rfl (hb C.c_by hd) rfl (flt (fun r => h (Int32.lt_iff_toInt_lt.mp r))).1 kt
theorem g_icmp_ge_t (q : Nat) (C : Ctx p s m meth c Z own nm bytes ml rt) (X : Stand p l e R s m args below meth c T locs cells slots) {o : Int} {x y : Int32} (hd : decode bytes pc = .ok (.if_icmp .ge o, 3)) (ho : 0 ≤ (pc : Int) + o) (hp : ((pc : Int) + o).toNat = q) (h : ¬ x.toInt < y.toInt) (k : Goes p e below E T m q Ls St) : Goes p e below E T m pc Ls (.int y :: .int x :: St) :=
  k.back fun t kt => XS.icmpYes (g := mkF m pc Ls (.int y :: .int x :: St)) X.here C.c_x rfl (pc0 := pc) (pc' := q) rfl (hb C.c_by hd) rfl (flt (fun r => h (Int32.lt_iff_toInt_lt.mp r))).2.1 ho hp kt
theorem g_icmp_ge_f (q : Nat) (hq : pc + 3 = q) (C : Ctx p s m meth c Z own nm bytes ml rt) (X : Stand p l e R s m args below meth c T locs cells slots) {o : Int} {x y : Int32} (hd : decode bytes pc = .ok (.if_icmp .ge o, 3)) (h : x.toInt < y.toInt) (k : Goes p e below E T m q Ls St) : Goes p e below E T m pc Ls (.int y :: .int x :: St) := by
  subst hq
  exact k.back fun t kt => XS.icmpNo (g := mkF m pc Ls (.int y :: .int x :: St)) X.here C.c_x rfl (hb C.c_by hd) rfl (tlt (Int32.lt_iff_toInt_lt.mpr h)).2.1 kt
theorem g_icmp_gt_t (q : Nat) (C : Ctx p s m meth c Z own nm bytes ml rt) (X : Stand p l e R s m args below meth c T locs cells slots) {o : Int} {x y : Int32} (hd : decode bytes pc = .ok (.if_icmp .gt o, 3)) (ho : 0 ≤ (pc : Int) + o) (hp : ((pc : Int) + o).toNat = q) (h : y.toInt < x.toInt) (k : Goes p e below E T m q Ls St) : Goes p e below E T m pc Ls (.int y :: .int x :: St) :=
  k.back fun t kt => XS.icmpYes (g := mkF m pc Ls (.int y :: .int x :: St)) X.here C.c_x rfl (pc0 := pc) (pc' := q) rfl (hb C.c_by hd) rfl (tlt (Int32.lt_iff_toInt_lt.mpr h)).2.2.1 ho hp kt
theorem g_icmp_gt_f (q : Nat) (hq : pc + 3 = q) (C : Ctx p s m meth c Z own nm bytes ml rt) (X : Stand p l e R s m args below meth c T locs cells slots) {o : Int} {x y : Int32} (hd : decode bytes pc = .ok (.if_icmp .gt o, 3)) (h : ¬ y.toInt < x.toInt) (k : Goes p e below E T m q Ls St) : Goes p e below E T m pc Ls (.int y :: .int x :: St) := by
  subst hq
  exact k.back fun t kt => XS.icmpNo (g := mkF m pc Ls (.int y :: .int x :: St)) X.here C.c_x rfl (hb C.c_by hd) rfl (flt (fun r => h (Int32.lt_iff_toInt_lt.mp r))).2.2.1 kt
theorem g_icmp_ne_t (q : Nat) (C : Ctx p s m meth c Z own nm bytes ml rt) (X : Stand p l e R s m args below meth c T locs cells slots) {o : Int} {x y : Int32} (hd : decode bytes pc = .ok (.if_icmp .ne o, 3)) (ho : 0 ≤ (pc : Int) + o) (hp : ((pc : Int) + o).toNat = q) (h : ¬ x.toInt = y.toInt) (k : Goes p e below E T m q Ls St) : Goes p e below E T m pc Ls (.int y :: .int x :: St) :=
  k.back fun t kt => XS.icmpYes (g := mkF m pc Ls (.int y :: .int x :: St)) X.here C.c_x rfl (pc0 := pc) (pc' := q) rfl (hb C.c_by hd) rfl (feq (fun r => h (congrArg Int32.toInt r))).2 ho hp kt
theorem g_icmp_ne_f (q : Nat) (hq : pc + 3 = q) (C : Ctx p s m meth c Z own nm bytes ml rt) (X : Stand p l e R s m args below meth c T locs cells slots) {o : Int} {x y : Int32} (hd : decode bytes pc = .ok (.if_icmp .ne o, 3)) (h : x.toInt = y.toInt) (k : Goes p e below E T m q Ls St) : Goes p e below E T m pc Ls (.int y :: .int x :: St) := by
  subst hq
  exact k.back fun t kt => XS.icmpNo (g := mkF m pc Ls (.int y :: .int x :: St)) X.here C.c_x rfl (hb C.c_by hd) rfl (teq (Int32.toInt_inj.mp h)).2 kt
theorem g_ldc (q : Nat) (hq : pc + 2 = q) (C : Ctx p s m meth c Z own nm bytes ml rt) (X : Stand p l e R s m args below meth c T locs cells slots) {i : Nat} {v : Int32} (w : (Cond.constant own i v).before a0 Z = true) (hd : decode bytes pc = .ok (.ldc i, 2)) (k : Goes p e below E T m q Ls (.int v :: St)) : Goes p e below E T m pc Ls St := by
  subst hq
  exact k.back fun t kt => X.ldcInt C.c_x C.c_own (mvT C.c_z w) (g := mkF m pc Ls St) rfl (hb C.c_by hd) _ kt
theorem g_retW (C : Ctx p s m meth c Z own nm bytes ml rt) (X : Stand p l e R s m args below meth c T locs cells slots) {w : Value} {t : FieldType} {i : Instr} (hrt : rt = some t) (hn : narrow t w = w)
    (hi : (i = .ireturn ∧ (t = .int ∨ t = .boolean ∨ t = .byte ∨ t = .char ∨ t = .short) ∧ ∃ z, w = .int z) ∨ (i = .lreturn ∧ t = .long ∧ ∃ z, w = .long z) ∨ (i = .dreturn ∧ t = .double ∧ ∃ z, w = .double z) ∨ (i = .freturn ∧ t = .float ∧ ∃ z, w = .float z) ∨ (i = .areturn ∧ t.isReference = true ∧ w.isRef = true))
    (hd : decode bytes pc = .ok (i, 1)) (eT : T.heap = h) (hc : cells ≤ CC) (hs : slots ≤ SS) (hQ : Q (some w) h locs) : Goes p e below (EndN s Q CC SS) T m pc Ls (w :: St) := by
  obtain ⟨fs, hr, hrun, hended, hW, hsame⟩ := X.leave (v := some w) (fun r => by rw [C.c_rt, hrt] at r; cases r) C.c_lk
  subst eT
  exact ⟨_, _, retOut X C.c_x (C.c_rt.trans hrt) hn hi (hb C.c_by hd) hr, hrun, hended, _, _, rfl, hQ, ⟨_, rfl⟩, hW, hsame.mono hc hs⟩
theorem g_retI (C : Ctx p s m meth c Z own nm bytes ml rt) (X : Stand p l e R s m args below meth c T locs cells slots) {z : Int32} (hrt : rt = some .int) (hd : decode bytes pc = .ok (.ireturn, 1)) (eT : T.heap = h) (hc : cells ≤ CC) (hs : slots ≤ SS) (hQ : Q (some (.int z)) h locs) : Goes p e below (EndN s Q CC SS) T m pc Ls (.int z :: St) :=
  g_retW C X hrt rfl (Or.inl ⟨rfl, Or.inl rfl, z, rfl⟩) hd eT hc hs hQ
theorem g_retN (C : Ctx p s m meth c Z own nm bytes ml rt) (X : Stand p l e R s m args below meth c T locs cells slots) {z z' : Int32} {t : FieldType} (hrt : rt = some t) (ht : t = .boolean ∨ t = .byte ∨ t = .char ∨ t = .short) (hd : decode bytes pc = .ok (.ireturn, 1)) (eT : T.heap = h) (hc : cells ≤ CC) (hs : slots ≤ SS) (hz : nar t z = z') (hQ : Q (some (.int z')) h locs) : Goes p e below (EndN s Q CC SS) T m pc Ls (.int z :: St) := by
  obtain ⟨fs, hr, hrun, hended, hW, hsame⟩ := X.leave (v := some (.int (nar t z))) (fun r => by rw [C.c_rt, hrt] at r; cases r) C.c_lk
  subst eT
  subst hz
  exact ⟨_, _, retN X C.c_x (C.c_rt.trans hrt) ht (hb C.c_by hd) hr, hrun, hended, _, _, rfl, hQ, ⟨_, rfl⟩, hW, hsame.mono hc hs⟩
def Ba (Z : State) (h : Heap) (a : Addr) (ty : FieldType) (n : Nat) (f : Nat → Int32) : Prop := ∃ c : Cell, Arr Z h a c ty ∧ c.slots.size = n ∧ n < 2 ^ 31 ∧ (∀ k, k < n → c.slots[k]? = some (.int (f k)))
def upd (f : Nat → Int32) (j : Nat) (v : Int32) : Nat → Int32 := fun k => bif Nat.beq k j then v else f k
theorem upd_same {f : Nat → Int32} {j k : Nat} {v : Int32} (q : k = j) : upd f j v k = v := by subst q; simp [upd]
theorem upd_ne {f : Nat → Int32} {j k : Nat} {v : Int32} (q : k ≠ j) : upd f j v k = f k := by
  have : Nat.beq k j = false := by
    cases hb : Nat.beq k j with
    | false => rfl
    | true => exact absurd (Nat.eq_of_beq_eq_true hb) q
  show (bif Nat.beq k j then v else f k) = f k
  rw [this]; rfl
theorem upd_eq (f : Nat → Int32) (j k : Nat) (v : Int32) : upd f j v k = if k = j then v else f k := by
  split
  · rename_i q; exact upd_same q
  · rename_i q; exact upd_ne q
theorem Ba.lt {a : Addr} {ty : FieldType} {n : Nat} {f : Nat → Int32} (F : Ba Z h a ty n f) : a < h.size := by obtain ⟨c, A, -⟩ := F; exact A.lt
theorem Ba.ext {h' : Heap} {a : Addr} {ty : FieldType} {n : Nat} {f : Nat → Int32} (F : Ba Z h a ty n f) (E : Ext h h') : Ba Z h' a ty n f := by obtain ⟨c, A, r⟩ := F; exact ⟨c, A.ext E, r⟩
theorem Ba.other {h' : Heap} {a b : Addr} {ty : FieldType} {n sl : Nat} {v : Value} {f : Nat → Int32} (F : Ba Z h a ty n f) (W : Wr h h' b sl v) (q : a ≠ b) : Ba Z h' a ty n f := by obtain ⟨c, A, r⟩ := F; exact ⟨c, A.other W q, r⟩
theorem Ba.keep {h' : Heap} {a : Addr} {ty : FieldType} {n : Nat} {ws : List Addr} {f : Nat → Int32} (F : Ba Z h a ty n f) (K : Keep h h' ws) (q : a ∉ ws) : Ba Z h' a ty n f := by obtain ⟨c, A, r⟩ := F; exact ⟨c, ⟨K.2.1 a c A.1 q, A.2⟩, r⟩
theorem Ba.same {h' : Heap} {a : Addr} {ty : FieldType} {n j : Nat} {v : Int32} {f : Nat → Int32} (F : Ba Z h a ty n f) (W : Wr h h' a j (.int v)) : Ba Z h' a ty n (upd f j v) := by
  obtain ⟨c, A, hs, hn, hf⟩ := F
  refine ⟨_, A.same W, by simp [Cell.setSlot, hs], hn, fun k hk => ?_⟩
  rw [upd_eq]
  by_cases q : k = j
  · subst q; simp [Cell.setSlot, hs, hk]
  · rw [if_neg q]; simp only [Cell.setSlot]; rw [Array.getElem?_setIfInBounds_ne (Ne.symm q)]; exact hf k hk
theorem Ba.cong {a : Addr} {ty : FieldType} {n : Nat} {f f' : Nat → Int32} (F : Ba Z h a ty n f) (q : ∀ k, k < n → f k = f' k) : Ba Z h a ty n f' := by
  obtain ⟨c, A, hs, hn, hf⟩ := F
  exact ⟨c, A, hs, hn, fun k hk => by rw [← q k hk]; exact hf k hk⟩
theorem Ba.new {a : Addr} {cA : ClassId} {ty : FieldType} {z : Int32} {n : Nat} (A : Arr Z h a (newA cA ty z) ty) (hz : z.toInt = n) (hd : defaultValue ty = .int 0) : Ba Z h a ty n (fun _ => 0) := by
  have hr := rng32 z
  have hn : z.toNatClampNeg = n := by simp only [Int32.toNatClampNeg, hz]; rfl
  exact ⟨_, A, by rw [sz_new, hn], by omega, fun k hk => by simp [newA, hn, hk, hd]⟩
theorem own_clamp {j : Int32} {k : Nat} (hj : j.toInt = k) : j.toNatClampNeg = k ∧ ¬ j < 0 := by
  refine ⟨by simp only [Int32.toNatClampNeg, hj]; rfl, fun r => ?_⟩
  have := Int32.lt_iff_toInt_lt.mp r
  rw [hj, own_z0] at this; omega
theorem own_in {j : Int32} {k n : Nat} {c : Cell} (hs : c.slots.size = n) (hj : j.toInt = k) (hk : k < n) : ¬ (j < 0 ∨ c.slots.size ≤ j.toNatClampNeg) := by
  obtain ⟨h1, h2⟩ := own_clamp hj
  rw [h1, hs]; intro r; rcases r with r | r
  · exact h2 r
  · omega
theorem own_lenI {n : Nat} (hn : n < 2 ^ 31) : (n.toInt32).toInt = n := by
  have := len_toInt hn
  exact this
theorem g_newP (q : Nat) (hq : pc + 2 = q) (C : Ctx p s m meth c Z own nm bytes ml rt) (X : Stand p l e R s m args below meth c T locs cells slots) {aty : ArrayType} {z : Int32} (n : Nat) (hz : z.toInt = n) (cap : Nat) (hcap : n ≤ cap) (hb' : cap * 8 ≤ 536870912) (hdf : defaultValue (newarray.typeOf aty) = .int 0) (w : (Cond.arrayClass (newarray.typeOf aty)).before a0 Z = true) (eT : T.heap = h) (hd : decode bytes pc = .ok (.newarray aty, 2)) (hc : cells + 1 ≤ R.cells) (hl : slots + cap ≤ R.slots)
    (k : ∀ T' h' a, a = h.size → Stand p l e R s m args below meth c T' locs (cells + 1) (slots + cap) → T'.heap = h' → Ext h h' → Ba Z h' a (newarray.typeOf aty) n (fun _ => 0) → Goes p e below E T' m q Ls (.ref a :: St)) : Goes p e below E T m pc Ls (.int z :: St) := by
  subst hq
  obtain ⟨h1, h2⟩ := own_clamp hz
  obtain ⟨T', h', cA, X', e', E', A', st⟩ := newP X C.c_x C.c_z w eT (g := mkF m pc Ls (.int z :: St)) rfl (hb C.c_by hd) rfl h2 (cap := cap) (by rw [h1]; exact hcap) hb' hc hl
  exact (k T' h' _ rfl X' e' E' (Ba.new A' hz hdf)).back fun t kt => st t kt
theorem g_baload (q : Nat) (hq : pc + 1 = q) (C : Ctx p s m meth c Z own nm bytes ml rt) (X : Stand p l e R s m args below meth c T locs cells slots) {a : Addr} {n : Nat} {f : Nat → Int32} {j : Int32} (eT : T.heap = h) (F : Ba Z h a .byte n f) (i : Nat) (hj : j.toInt = i) (hi : i < n) (v : Int32) (hv : f i = v) (hd : decode bytes pc = .ok (.baload, 1)) (k : Goes p e below E T m q Ls (.int v :: St)) : Goes p e below E T m pc Ls (.int j :: .ref a :: St) := by
  subst hq
  obtain ⟨c0, A, hs, hn, hf⟩ := F
  exact k.back fun t kt => X.baloadBytes C.c_x (j := j) (v := .int v) (by rw [eT]; exact A.1) (State.isArrayOf_alike C.c_z.alike A.2.1) A.2.2 (own_in hs hj hi) (by rw [(own_clamp hj).1, ← hv]; exact hf i hi) (g := mkF m pc Ls (.int j :: .ref a :: St)) rfl rfl (hb C.c_by hd) t kt
theorem g_bastore (q : Nat) (hq : pc + 1 = q) (C : Ctx p s m meth c Z own nm bytes ml rt) (X : Stand p l e R s m args below meth c T locs cells slots) {a : Addr} {n : Nat} {f : Nat → Int32} {j x : Int32} (eT : T.heap = h) (F : Ba Z h a .byte n f) (i : Nat) (hj : j.toInt = i) (hi : i < n) (v : Int32) (hv : x.toInt8.toInt32 = v) (hd : decode bytes pc = .ok (.bastore, 1)) {n0 : Nat} (N : Fr n0 locs) (hn0 : n0 ≤ a)
    (k : ∀ T' h' locs', Stand p l e R s m args below meth c T' locs' cells slots → T'.heap = h' → Wr h h' a i (.int v) → Ba Z h' a .byte n (upd f i v) → Fr n0 locs' → Goes p e below E T' m q Ls St) : Goes p e below E T m pc Ls (.int x :: .int j :: .ref a :: St) := by
  subst hq hv
  have F0 := F
  obtain ⟨c0, A, hs, hn, hf⟩ := F
  obtain ⟨T', h', X', e', W', st⟩ := stB X C.c_x C.c_z eT A (j := j) (own_in hs hj hi) (g := mkF m pc Ls (.int x :: .int j :: .ref a :: St)) rfl rfl (hb C.c_by hd)
  rw [(own_clamp hj).1] at W' X'
  exact (k T' h' _ X' e' W' (F0.same W') (Fr.snoc X' N hn0)).back fun t kt => st t kt
theorem own_narByte {b : Int32} (h0 : -128 ≤ b.toInt) (h1 : b.toInt < 128) : b.toInt8.toInt32 = b := by
  have := c_i2b b
  exact Int32.toInt_inj.mp (by omega)
theorem own_fitB {x : Int32} (h0 : -128 ≤ x.toInt) (h1 : x.toInt < 128) : fits .byte (.int x) = true := by
  have e := own_narByte h0 h1
  rw [← e]; exact fits_nar_byte x

theorem g_callS (q : Nat) (hq : pc + 3 = q) (C : Ctx p s m meth c Z own nm bytes ml rt) (X : Stand p l e R s m args below meth c T locs cells slots) {y : MethodName} {bytes' : ByteArray} {maxL' : Nat} {ret' : Option FieldType} {rm : Room} {Q' : Option Value → Heap → List Loc → Prop} {i W : Nat} {argsL : List Value} (w1 : (Cond.methodLink own i y).before a0 Z = true) (w2 : (Cond.static y).before a0 Z = true) (wc : (Cond.code y bytes' maxL' ret').before a0 Z = true) (wz : (Cond.initialized y.cls).before a0 Z = true) (eT : T.heap = h) (M : MetFree l y (head1 [Cond.code y bytes' maxL' ret'] rm) (fun a' U => a' = argsL.toArray ∧ Z.Warmed39 U.vm ∧ U.heap = h) (fun _ _ _ _ _ => True) (fun _ U o U' => ∃ v L, o = .returned v ∧ Q' v U'.heap L ∧ FrameEnd U o U' L rm.cells rm.slots)) (hlen : ∀ sig, parseMethodDescriptor y.desc = some sig → argsL.length = sig.parameters.length) (hf : rm.frames + 1 ≤ R.frames) (hl : W + (maxL' + 11) + rm.locals ≤ R.locals) (hc : cells + rm.cells ≤ R.cells) (hsl : slots + rm.slots ≤ R.slots) (hsz : Ls.size = ml) (hW : (St.map fun v => v.category).sum ≤ W) (hy : y.cls ≠ "java/lang/invoke/MethodHandle" ∧ y.cls ≠ "java/lang/invoke/VarHandle") (hd : decode bytes pc = .ok (.invokestatic i, 3)) {St0 : List Value} (hst : St0 = argsL.reverse ++ St)
    (k : ∀ v T' L, Stand p l e R s m args below meth c T' (locs ++ L) (cells + rm.cells) (slots + rm.slots) → Q' v T'.heap L → Goes p e below E T' m q Ls (v.toList ++ St)) : Goes p e below E T m pc Ls St0 := by
  subst hq hst
  obtain ⟨v, _, ⟨T', L', k', n'⟩, -, X', ⟨Lc, hQ', l', y', z'⟩, st⟩ := Jvm.LawKit.callS X C.c_x (y := y) C.c_own (mvT C.c_z w1) (mvT C.c_z w2) (mvT C.c_z wz) (mvT C.c_z wc) hy (backOf (W := W) M C.c_z wc wz hf hl) (g := mkF m pc Ls (argsL.reverse ++ St)) rfl (hsz.trans C.c_ml.symm) (argsL := argsL) (rest := St) hlen rfl (by show 2 * 0 + _ ≤ _; omega) (hb C.c_by hd) (fun _ _ => ⟨rfl, eT, hc, hsl⟩)
  dsimp only [Pt.U, Pt.locs, Pt.cells, Pt.slots] at X' l' y' z' st hQ'
  subst l' y' z'
  exact (k v T' Lc X' hQ').back fun t kt => st t kt
end Own
section OwnArith
theorem own_mulc (x y : Int32) (k : Int) (hk : y.toInt = k) : ((x * y).toInt - x.toInt * k) % 4294967296 = 0 := hk ▸ c_imul x y
theorem own_mulc' (x y : Int32) (k : Int) (hk : x.toInt = k) : ((x * y).toInt - k * y.toInt) % 4294967296 = 0 := hk ▸ c_imul x y
theorem own_lmulc (x y : Int64) (k : Int) (hk : y.toInt = k) : ((x * y).toInt - x.toInt * k) % 18446744073709551616 = 0 := hk ▸ c_lmul x y
theorem own_lmulc' (x y : Int64) (k : Int) (hk : x.toInt = k) : ((x * y).toInt - k * y.toInt) % 18446744073709551616 = 0 := hk ▸ c_lmul x y
theorem own_bvor (x y : BitVec 32) : (x ||| y) + (x &&& y) = x + y := by
  have h1 : x = (x &&& y) + (x &&& ~~~y) := by
    rw [BitVec.add_eq_or_of_and_eq_zero]
    · ext i; simp; cases x[i] <;> cases y[i] <;> rfl
    · ext i; simp; cases x[i] <;> cases y[i] <;> simp
  have h2 : x ||| y = y + (x &&& ~~~y) := by
    rw [BitVec.add_eq_or_of_and_eq_zero]
    · ext i; simp; cases x[i] <;> cases y[i] <;> rfl
    · ext i; simp; cases x[i] <;> cases y[i] <;> simp
  rw [h2]
  conv => rhs; rw [h1]
  ac_rfl
theorem own_or0 (x y : Int32) : (x ||| y) + (x &&& y) = x + y := Int32.toBitVec_inj.mp (by simpa using own_bvor x.toBitVec y.toBitVec)
theorem own_or (x y : Int32) : ((x ||| y).toInt + (x &&& y).toInt - (x.toInt + y.toInt)) % 4294967296 = 0 := by
  have h1 := c_iadd (x ||| y) (x &&& y)
  have h2 := c_iadd x y
  rw [own_or0] at h1; omega
theorem own_bvblk (x m a b : BitVec 32) (h1 : m ||| a = b) (h2 : m &&& a = 0#32) : (x &&& m) + (x &&& a) = x &&& b := by
  rw [BitVec.add_eq_or_of_and_eq_zero, ← h1]
  · ext i; simp; cases x[i] <;> simp
  · have : (x &&& m) &&& (x &&& a) = x &&& (m &&& a) := by ext i; simp; cases x[i] <;> simp
    rw [this, h2]; simp
theorem own_blk (x m a b : Int32) (h1 : m ||| a = b) (h2 : m &&& a = 0) : ((x &&& m).toInt + (x &&& a).toInt - (x &&& b).toInt) % 4294967296 = 0 := by
  have e : (x &&& m) + (x &&& a) = x &&& b := Int32.toBitVec_inj.mp (by
    have q1 := congrArg Int32.toBitVec h1
    have q2 := congrArg Int32.toBitVec h2
    simpa using own_bvblk x.toBitVec m.toBitVec a.toBitVec b.toBitVec (by simpa using q1) (by simpa using q2))
  have := c_iadd (x &&& m) (x &&& a)
  rw [e] at this; omega
theorem own_andM1 (x : Int32) : x &&& (-1) = x := Int32.toBitVec_inj.mp (by ext i; simp)
theorem own_narZ {b : Int32} (hb : b.toInt = 0 ∨ b.toInt = 1) : nar .boolean b = b := by
  have : b = 0 ∨ b = 1 := by
    rcases hb with q | q
    · exact Or.inl (Int32.toInt_inj.mp q)
    · exact Or.inr (Int32.toInt_inj.mp q)
  rcases this with rfl | rfl <;> decide
theorem own_narC {b : Int32} (h0 : 0 ≤ b.toInt) (h1 : b.toInt < 65536) : nar .char b = b := by
  have := c_i2c b
  exact Int32.toInt_inj.mp (by show b.toUInt32.toUInt16.toUInt32.toInt32.toInt = _; omega)
theorem own_narB {b : Int32} (h0 : -128 ≤ b.toInt) (h1 : b.toInt < 128) : nar .byte b = b := by
  have := c_i2b b
  exact Int32.toInt_inj.mp (by show b.toInt8.toInt32.toInt = _; omega)
theorem own_eq {x y : Int32} (q : x.toInt = y.toInt) : x = y := Int32.toInt_inj.mp q
theorem own_eqL {x y : Int64} (q : x.toInt = y.toInt) : x = y := Int64.toInt_inj.mp q
end OwnArith


theorem d1_0 : decode prog_50_method_4_code 0 = .ok (.iload_n 2, 1) := by decide +kernel
theorem d1_1 : decode prog_50_method_4_code 1 = .ok (.iconst 1, 1) := by decide +kernel
theorem d1_2 : decode prog_50_method_4_code 2 = .ok (.if_icmp .ne 7, 3) := by decide +kernel
theorem d1_5 : decode prog_50_method_4_code 5 = .ok (.aload_n 0, 1) := by decide +kernel
theorem d1_6 : decode prog_50_method_4_code 6 = .ok (.iload_n 1, 1) := by decide +kernel
theorem d1_7 : decode prog_50_method_4_code 7 = .ok (.baload, 1) := by decide +kernel
theorem d1_8 : decode prog_50_method_4_code 8 = .ok (.ireturn, 1) := by decide +kernel
theorem pn_41208506 : plainName "com/example/schedario/schedario/records/Utf8" = true := by first | (simp [plainName, overriddenIn]; done) | decide +kernel
theorem ef_1_1 (m : MethodId) (b0 : Addr) (p1 : Int32) : entryFrame m #[(.ref b0), (.int p1), (.int (1 : Int32))] 5 = mkF m 0 #[.val (.ref b0), .val (.int p1), .val (.int (1 : Int32)), .unset, .unset] [] := by first | (simp [entryFrame, mkF, argsToLocals, Value.category]; done) | rfl
def Q1_1 (Z : State) (b0 : Addr) (p1 : Int32) (f : Nat → Int32) (n : Nat) (x0 : Int32) (h0 : Heap) (n0 : Nat) (v : Option Value) (h : Heap) (L : List Loc) : Prop := ∃ r : Int32, v = some (.int r) ∧ (r.toInt = x0.toInt) ∧ Fr n0 L ∧ h = h0
set_option maxRecDepth 65536 in
set_option maxHeartbeats 40000000 in
theorem rm1_1 (l : Launch) (Z : State) (a0 : Array Value) (hw : ∀ d ∈ tables_1, d.before a0 Z = true) (ws : List Jvm.Cond) (b0 : Addr) (p1 : Int32) (f : Nat → Int32) (n : Nat) (x0 : Int32) (h0 : Heap) (n0 : Nat) (Z0 : n0 ≤ h0.size) (B_b0 : Ba Z h0 b0 .byte 8 f) (hn : p1.toInt = n) (hn8 : n + 1 ≤ 8) (hnm : n ≤ 8) (hx0 : f n = x0) :
    MetFree l (⟨"com/example/schedario/schedario/records/Utf8", "codePoint", "([BII)I"⟩ : MethodName) (head1 (Jvm.Cond.code (⟨"com/example/schedario/schedario/records/Utf8", "codePoint", "([BII)I"⟩ : MethodName) prog_50_method_4_code 5 (some .int) :: ws) ({ frames := 0, cells := 0, slots := 0, locals := 0 } : Room)) (fun a U => a = #[(.ref b0), (.int p1), (.int (1 : Int32))] ∧ Z.Warmed39 U.vm ∧ U.heap = h0) (fun _ _ _ _ _ => True) (fun _ U o U' => ∃ v L, o = .returned v ∧ Q1_1 Z b0 p1 f n x0 h0 n0 v U'.heap L ∧ FrameEnd U o U' L ({ frames := 0, cells := 0, slots := 0, locals := 0 } : Room).cells ({ frames := 0, cells := 0, slots := 0, locals := 0 } : Room).slots) := by
  refine MetFree.of_bodySF (plainFor_of_name pn_41208506) hisR ?_
  intro p e s m args below meth c s₁ Bd hml0 hP hK
  obtain ⟨rfl, hZ, hh⟩ := hP
  have C : Ctx p s m meth c Z "com/example/schedario/schedario/records/Utf8" "codePoint" prog_50_method_4_code 5 (some .int) := Ctx.of Bd hml0 hZ
  have X0 : Stand p l e ({ frames := 0, cells := 0, slots := 0, locals := 0 } : Room) s m #[(.ref b0), (.int p1), (.int (1 : Int32))] below meth c s₁ [] 0 0 := Stand.of_body Bd
  have e0 : s₁.heap = h0 := by rw [← hh, Bd.state]; rfl
  have N0 := Fr.nil n0
  refine Goes.enter (ef_1_1 m b0 p1) ?_
  clear hK hml0 hh
  refine g_iloadN 1 rfl C X0 d1_0 rfl ?_
  refine g_iconst 2 rfl C X0 (1 : Int32) d1_1 rfl ?_
  refine g_icmp_ne_f 5 rfl C X0 d1_2 (by decide) ?_
  refine g_aloadN 6 rfl C X0 d1_5 rfl rfl ?_
  refine g_iloadN 7 rfl C X0 d1_6 rfl ?_
  have fr1 := rng32 p1
  refine g_baload 8 rfl C X0 e0 B_b0 (n) (by omega) (by omega) x0 hx0 d1_7 ?_
  have fc2 : (1 : Int32).toInt = 1 := rfl
  have fr3 := rng32 x0
  exact g_retI C X0 rfl d1_8 e0 (by decide) (by decide) ⟨_, rfl, by omega, N0, rfl⟩
theorem d1_9 : decode prog_50_method_4_code 9 = .ok (.aload_n 0, 1) := by decide +kernel
theorem d1_10 : decode prog_50_method_4_code 10 = .ok (.iload_n 1, 1) := by decide +kernel
theorem d1_11 : decode prog_50_method_4_code 11 = .ok (.baload, 1) := by decide +kernel
theorem d1_12 : decode prog_50_method_4_code 12 = .ok (.bipush 127, 2) := by decide +kernel
theorem d1_14 : decode prog_50_method_4_code 14 = .ok (.iload_n 2, 1) := by decide +kernel
theorem d1_15 : decode prog_50_method_4_code 15 = .ok (.ishr, 1) := by decide +kernel
theorem d1_16 : decode prog_50_method_4_code 16 = .ok (.iand, 1) := by decide +kernel
theorem d1_17 : decode prog_50_method_4_code 17 = .ok (.istore_n 3, 1) := by decide +kernel
theorem d1_18 : decode prog_50_method_4_code 18 = .ok (.iconst 1, 1) := by decide +kernel
theorem d1_19 : decode prog_50_method_4_code 19 = .ok (.istore 4, 2) := by decide +kernel
theorem d1_21 : decode prog_50_method_4_code 21 = .ok (.iload 4, 2) := by decide +kernel
theorem d1_23 : decode prog_50_method_4_code 23 = .ok (.iload_n 2, 1) := by decide +kernel
theorem d1_24 : decode prog_50_method_4_code 24 = .ok (.if_icmp .ge 24, 3) := by decide +kernel
theorem d1_27 : decode prog_50_method_4_code 27 = .ok (.iload_n 3, 1) := by decide +kernel
theorem d1_28 : decode prog_50_method_4_code 28 = .ok (.bipush 6, 2) := by decide +kernel
theorem d1_30 : decode prog_50_method_4_code 30 = .ok (.ishl, 1) := by decide +kernel
theorem d1_31 : decode prog_50_method_4_code 31 = .ok (.aload_n 0, 1) := by decide +kernel
theorem d1_32 : decode prog_50_method_4_code 32 = .ok (.iload_n 1, 1) := by decide +kernel
theorem d1_33 : decode prog_50_method_4_code 33 = .ok (.iload 4, 2) := by decide +kernel
theorem d1_35 : decode prog_50_method_4_code 35 = .ok (.iadd, 1) := by decide +kernel
theorem d1_36 : decode prog_50_method_4_code 36 = .ok (.baload, 1) := by decide +kernel
theorem d1_37 : decode prog_50_method_4_code 37 = .ok (.bipush 63, 2) := by decide +kernel
theorem d1_39 : decode prog_50_method_4_code 39 = .ok (.iand, 1) := by decide +kernel
theorem d1_40 : decode prog_50_method_4_code 40 = .ok (.ior, 1) := by decide +kernel
theorem d1_41 : decode prog_50_method_4_code 41 = .ok (.istore_n 3, 1) := by decide +kernel
theorem d1_42 : decode prog_50_method_4_code 42 = .ok (.iinc 4 1, 3) := by decide +kernel
theorem d1_45 : decode prog_50_method_4_code 45 = .ok (.goto (-24), 3) := by decide +kernel
theorem d1_48 : decode prog_50_method_4_code 48 = .ok (.iload_n 3, 1) := by decide +kernel
theorem d1_49 : decode prog_50_method_4_code 49 = .ok (.ireturn, 1) := by decide +kernel
theorem ef_1_2 (m : MethodId) (b0 : Addr) (p1 : Int32) : entryFrame m #[(.ref b0), (.int p1), (.int (2 : Int32))] 5 = mkF m 0 #[.val (.ref b0), .val (.int p1), .val (.int (2 : Int32)), .unset, .unset] [] := by first | (simp [entryFrame, mkF, argsToLocals, Value.category]; done) | rfl
def Q1_2 (Z : State) (b0 : Addr) (p1 : Int32) (f : Nat → Int32) (n : Nat) (x0 : Int32) (x1 : Int32) (h0 : Heap) (n0 : Nat) (v : Option Value) (h : Heap) (L : List Loc) : Prop := ∃ r : Int32, v = some (.int r) ∧ (r.toInt = x0.toInt % 32 * 64 + x1.toInt % 64) ∧ Fr n0 L ∧ h = h0
set_option maxRecDepth 65536 in
set_option maxHeartbeats 40000000 in
theorem rm1_2 (l : Launch) (Z : State) (a0 : Array Value) (hw : ∀ d ∈ tables_1, d.before a0 Z = true) (ws : List Jvm.Cond) (b0 : Addr) (p1 : Int32) (f : Nat → Int32) (n : Nat) (x0 : Int32) (x1 : Int32) (h0 : Heap) (n0 : Nat) (Z0 : n0 ≤ h0.size) (B_b0 : Ba Z h0 b0 .byte 8 f) (hn : p1.toInt = n) (hn8 : n + 2 ≤ 8) (hnm : n ≤ 8) (hx0 : f n = x0) (hx1 : f (n + 1) = x1) :
    MetFree l (⟨"com/example/schedario/schedario/records/Utf8", "codePoint", "([BII)I"⟩ : MethodName) (head1 (Jvm.Cond.code (⟨"com/example/schedario/schedario/records/Utf8", "codePoint", "([BII)I"⟩ : MethodName) prog_50_method_4_code 5 (some .int) :: ws) ({ frames := 0, cells := 0, slots := 0, locals := 0 } : Room)) (fun a U => a = #[(.ref b0), (.int p1), (.int (2 : Int32))] ∧ Z.Warmed39 U.vm ∧ U.heap = h0) (fun _ _ _ _ _ => True) (fun _ U o U' => ∃ v L, o = .returned v ∧ Q1_2 Z b0 p1 f n x0 x1 h0 n0 v U'.heap L ∧ FrameEnd U o U' L ({ frames := 0, cells := 0, slots := 0, locals := 0 } : Room).cells ({ frames := 0, cells := 0, slots := 0, locals := 0 } : Room).slots) := by
  refine MetFree.of_bodySF (plainFor_of_name pn_41208506) hisR ?_
  intro p e s m args below meth c s₁ Bd hml0 hP hK
  obtain ⟨rfl, hZ, hh⟩ := hP
  have C : Ctx p s m meth c Z "com/example/schedario/schedario/records/Utf8" "codePoint" prog_50_method_4_code 5 (some .int) := Ctx.of Bd hml0 hZ
  have X0 : Stand p l e ({ frames := 0, cells := 0, slots := 0, locals := 0 } : Room) s m #[(.ref b0), (.int p1), (.int (2 : Int32))] below meth c s₁ [] 0 0 := Stand.of_body Bd
  have e0 : s₁.heap = h0 := by rw [← hh, Bd.state]; rfl
  have N0 := Fr.nil n0
  refine Goes.enter (ef_1_2 m b0 p1) ?_
  clear hK hml0 hh
  refine g_iloadN 1 rfl C X0 d1_0 rfl ?_
  refine g_iconst 2 rfl C X0 (1 : Int32) d1_1 rfl ?_
  refine g_icmp_ne_t 9 C X0 d1_2 (by decide) (by decide) (by decide) ?_
  refine g_aloadN 10 rfl C X0 d1_9 rfl rfl ?_
  refine g_iloadN 11 rfl C X0 d1_10 rfl ?_
  have fr1 := rng32 p1
  refine g_baload 12 rfl C X0 e0 B_b0 (n) (by omega) (by omega) x0 hx0 d1_11 ?_
  refine g_bipush 14 rfl C X0 (127 : Int32) d1_12 rfl ?_
  refine g_iloadN 15 rfl C X0 d1_14 rfl ?_
  refine g_ishr 16 rfl C X0 d1_15 ?_
  refine g_iand 17 rfl C X0 d1_16 ?_
  obtain ⟨v2, hv2⟩ : ∃ z : Int32, (x0 &&& ((127 : Int32) >>> ((2 : Int32) &&& 31))) = z := ⟨_, rfl⟩
  refine g_istoreN 18 rfl C X0 v2 hv2 #[.val (.ref b0), .val (.int p1), .val (.int (2 : Int32)), .val (.int v2), .unset] d1_17 rfl ?_
  refine g_iconst 19 rfl C X0 (1 : Int32) d1_18 rfl ?_
  refine g_istore 21 rfl C X0 (1 : Int32) rfl #[.val (.ref b0), .val (.int p1), .val (.int (2 : Int32)), .val (.int v2), .val (.int (1 : Int32))] d1_19 rfl ?_
  refine g_iload 23 rfl C X0 d1_21 rfl ?_
  refine g_iloadN 24 rfl C X0 d1_23 rfl ?_
  refine g_icmp_ge_f 27 rfl C X0 d1_24 (by decide) ?_
  refine g_iloadN 28 rfl C X0 d1_27 rfl ?_
  refine g_bipush 30 rfl C X0 (6 : Int32) d1_28 rfl ?_
  refine g_ishl 31 rfl C X0 d1_30 ?_
  refine g_aloadN 32 rfl C X0 d1_31 rfl rfl ?_
  refine g_iloadN 33 rfl C X0 d1_32 rfl ?_
  refine g_iload 35 rfl C X0 d1_33 rfl ?_
  refine g_iadd 36 rfl C X0 d1_35 ?_
  have fc3 : (1 : Int32).toInt = 1 := rfl
  have fo4 := c_iadd p1 (1 : Int32)
  have fr5 := rng32 (p1 + (1 : Int32))
  refine g_baload 37 rfl C X0 e0 B_b0 (n + 1) (by omega) (by omega) x1 hx1 d1_36 ?_
  refine g_bipush 39 rfl C X0 (63 : Int32) d1_37 rfl ?_
  refine g_iand 40 rfl C X0 d1_39 ?_
  refine g_ior 41 rfl C X0 d1_40 ?_
  obtain ⟨v6, hv6⟩ : ∃ z : Int32, ((v2 <<< ((6 : Int32) &&& 31)) ||| (x1 &&& (63 : Int32))) = z := ⟨_, rfl⟩
  refine g_istoreN 42 rfl C X0 v6 hv6 #[.val (.ref b0), .val (.int p1), .val (.int (2 : Int32)), .val (.int v6), .val (.int (1 : Int32))] d1_41 rfl ?_
  refine g_iinc 45 rfl C X0 (1 : Int32) (2 : Int32) #[.val (.ref b0), .val (.int p1), .val (.int (2 : Int32)), .val (.int v6), .val (.int (2 : Int32))] d1_42 rfl rfl (by decide) rfl ?_
  refine g_goto 21 C X0 d1_45 (by decide) (by decide) ?_
  refine g_iload 23 rfl C X0 d1_21 rfl ?_
  refine g_iloadN 24 rfl C X0 d1_23 rfl ?_
  refine g_icmp_ge_t 48 C X0 d1_24 (by decide) (by decide) (by decide) ?_
  refine g_iloadN 49 rfl C X0 d1_48 rfl ?_
  have fc7 : (2 : Int32).toInt = 2 := rfl
  have fr8 := rng32 v6
  have fr9 := rng32 v2
  have fr10 := rng32 x0
  have fc11 : ((127 : Int32) >>> ((2 : Int32) &&& 31)).toInt = 31 := by decide
  have fo12 : (x0 &&& ((127 : Int32) >>> ((2 : Int32) &&& 31))).toInt = x0.toInt % 32 := c_mask x0 ((127 : Int32) >>> ((2 : Int32) &&& 31)) 5 (by decide) (by decide)
  have fe13 : (x0 &&& ((127 : Int32) >>> ((2 : Int32) &&& 31))).toInt = v2.toInt := congrArg Int32.toInt hv2
  have fc14 : (6 : Int32).toInt = 6 := rfl
  have fo15 : (((v2 <<< ((6 : Int32) &&& 31))).toInt - v2.toInt * 64) % 4294967296 = 0 := c_ishl v2 (6 : Int32) 6 (by decide)
  have fr16 := rng32 (v2 <<< ((6 : Int32) &&& 31))
  have fr17 := rng32 x1
  have fc18 : (63 : Int32).toInt = 63 := rfl
  have fo19 : (x1 &&& (63 : Int32)).toInt = x1.toInt % 64 := c_mask x1 (63 : Int32) 6 (by decide) (by decide)
  have fo20 := c_or (v2 <<< ((6 : Int32) &&& 31)) (x1 &&& (63 : Int32)) 6 (by decide) 64 (by decide) (by omega) (by omega) (by omega)
  have fr21 := rng32 ((v2 <<< ((6 : Int32) &&& 31)) ||| (x1 &&& (63 : Int32)))
  have fe22 : ((v2 <<< ((6 : Int32) &&& 31)) ||| (x1 &&& (63 : Int32))).toInt = v6.toInt := congrArg Int32.toInt hv6
  exact g_retI C X0 rfl d1_49 e0 (by decide) (by decide) ⟨_, rfl, by omega, N0, rfl⟩
theorem ef_1_3 (m : MethodId) (b0 : Addr) (p1 : Int32) : entryFrame m #[(.ref b0), (.int p1), (.int (3 : Int32))] 5 = mkF m 0 #[.val (.ref b0), .val (.int p1), .val (.int (3 : Int32)), .unset, .unset] [] := by first | (simp [entryFrame, mkF, argsToLocals, Value.category]; done) | rfl
def Q1_3 (Z : State) (b0 : Addr) (p1 : Int32) (f : Nat → Int32) (n : Nat) (x0 : Int32) (x1 : Int32) (x2 : Int32) (h0 : Heap) (n0 : Nat) (v : Option Value) (h : Heap) (L : List Loc) : Prop := ∃ r : Int32, v = some (.int r) ∧ (r.toInt = x0.toInt % 16 * 4096 + x1.toInt % 64 * 64 + x2.toInt % 64) ∧ Fr n0 L ∧ h = h0
set_option maxRecDepth 65536 in
set_option maxHeartbeats 40000000 in
theorem rm1_3 (l : Launch) (Z : State) (a0 : Array Value) (hw : ∀ d ∈ tables_1, d.before a0 Z = true) (ws : List Jvm.Cond) (b0 : Addr) (p1 : Int32) (f : Nat → Int32) (n : Nat) (x0 : Int32) (x1 : Int32) (x2 : Int32) (h0 : Heap) (n0 : Nat) (Z0 : n0 ≤ h0.size) (B_b0 : Ba Z h0 b0 .byte 8 f) (hn : p1.toInt = n) (hn8 : n + 3 ≤ 8) (hnm : n ≤ 8) (hx0 : f n = x0) (hx1 : f (n + 1) = x1) (hx2 : f (n + 2) = x2) :
    MetFree l (⟨"com/example/schedario/schedario/records/Utf8", "codePoint", "([BII)I"⟩ : MethodName) (head1 (Jvm.Cond.code (⟨"com/example/schedario/schedario/records/Utf8", "codePoint", "([BII)I"⟩ : MethodName) prog_50_method_4_code 5 (some .int) :: ws) ({ frames := 0, cells := 0, slots := 0, locals := 0 } : Room)) (fun a U => a = #[(.ref b0), (.int p1), (.int (3 : Int32))] ∧ Z.Warmed39 U.vm ∧ U.heap = h0) (fun _ _ _ _ _ => True) (fun _ U o U' => ∃ v L, o = .returned v ∧ Q1_3 Z b0 p1 f n x0 x1 x2 h0 n0 v U'.heap L ∧ FrameEnd U o U' L ({ frames := 0, cells := 0, slots := 0, locals := 0 } : Room).cells ({ frames := 0, cells := 0, slots := 0, locals := 0 } : Room).slots) := by
  refine MetFree.of_bodySF (plainFor_of_name pn_41208506) hisR ?_
  intro p e s m args below meth c s₁ Bd hml0 hP hK
  obtain ⟨rfl, hZ, hh⟩ := hP
  have C : Ctx p s m meth c Z "com/example/schedario/schedario/records/Utf8" "codePoint" prog_50_method_4_code 5 (some .int) := Ctx.of Bd hml0 hZ
  have X0 : Stand p l e ({ frames := 0, cells := 0, slots := 0, locals := 0 } : Room) s m #[(.ref b0), (.int p1), (.int (3 : Int32))] below meth c s₁ [] 0 0 := Stand.of_body Bd
  have e0 : s₁.heap = h0 := by rw [← hh, Bd.state]; rfl
  have N0 := Fr.nil n0
  refine Goes.enter (ef_1_3 m b0 p1) ?_
  clear hK hml0 hh
  refine g_iloadN 1 rfl C X0 d1_0 rfl ?_
  refine g_iconst 2 rfl C X0 (1 : Int32) d1_1 rfl ?_
  refine g_icmp_ne_t 9 C X0 d1_2 (by decide) (by decide) (by decide) ?_
  refine g_aloadN 10 rfl C X0 d1_9 rfl rfl ?_
  refine g_iloadN 11 rfl C X0 d1_10 rfl ?_
  have fr1 := rng32 p1
  refine g_baload 12 rfl C X0 e0 B_b0 (n) (by omega) (by omega) x0 hx0 d1_11 ?_
  refine g_bipush 14 rfl C X0 (127 : Int32) d1_12 rfl ?_
  refine g_iloadN 15 rfl C X0 d1_14 rfl ?_
  refine g_ishr 16 rfl C X0 d1_15 ?_
  refine g_iand 17 rfl C X0 d1_16 ?_
  obtain ⟨v2, hv2⟩ : ∃ z : Int32, (x0 &&& ((127 : Int32) >>> ((3 : Int32) &&& 31))) = z := ⟨_, rfl⟩
  refine g_istoreN 18 rfl C X0 v2 hv2 #[.val (.ref b0), .val (.int p1), .val (.int (3 : Int32)), .val (.int v2), .unset] d1_17 rfl ?_
  refine g_iconst 19 rfl C X0 (1 : Int32) d1_18 rfl ?_
  refine g_istore 21 rfl C X0 (1 : Int32) rfl #[.val (.ref b0), .val (.int p1), .val (.int (3 : Int32)), .val (.int v2), .val (.int (1 : Int32))] d1_19 rfl ?_
  refine g_iload 23 rfl C X0 d1_21 rfl ?_
  refine g_iloadN 24 rfl C X0 d1_23 rfl ?_
  refine g_icmp_ge_f 27 rfl C X0 d1_24 (by decide) ?_
  refine g_iloadN 28 rfl C X0 d1_27 rfl ?_
  refine g_bipush 30 rfl C X0 (6 : Int32) d1_28 rfl ?_
  refine g_ishl 31 rfl C X0 d1_30 ?_
  refine g_aloadN 32 rfl C X0 d1_31 rfl rfl ?_
  refine g_iloadN 33 rfl C X0 d1_32 rfl ?_
  refine g_iload 35 rfl C X0 d1_33 rfl ?_
  refine g_iadd 36 rfl C X0 d1_35 ?_
  have fc3 : (1 : Int32).toInt = 1 := rfl
  have fo4 := c_iadd p1 (1 : Int32)
  have fr5 := rng32 (p1 + (1 : Int32))
  refine g_baload 37 rfl C X0 e0 B_b0 (n + 1) (by omega) (by omega) x1 hx1 d1_36 ?_
  refine g_bipush 39 rfl C X0 (63 : Int32) d1_37 rfl ?_
  refine g_iand 40 rfl C X0 d1_39 ?_
  refine g_ior 41 rfl C X0 d1_40 ?_
  obtain ⟨v6, hv6⟩ : ∃ z : Int32, ((v2 <<< ((6 : Int32) &&& 31)) ||| (x1 &&& (63 : Int32))) = z := ⟨_, rfl⟩
  refine g_istoreN 42 rfl C X0 v6 hv6 #[.val (.ref b0), .val (.int p1), .val (.int (3 : Int32)), .val (.int v6), .val (.int (1 : Int32))] d1_41 rfl ?_
  refine g_iinc 45 rfl C X0 (1 : Int32) (2 : Int32) #[.val (.ref b0), .val (.int p1), .val (.int (3 : Int32)), .val (.int v6), .val (.int (2 : Int32))] d1_42 rfl rfl (by decide) rfl ?_
  refine g_goto 21 C X0 d1_45 (by decide) (by decide) ?_
  refine g_iload 23 rfl C X0 d1_21 rfl ?_
  refine g_iloadN 24 rfl C X0 d1_23 rfl ?_
  refine g_icmp_ge_f 27 rfl C X0 d1_24 (by decide) ?_
  refine g_iloadN 28 rfl C X0 d1_27 rfl ?_
  refine g_bipush 30 rfl C X0 (6 : Int32) d1_28 rfl ?_
  refine g_ishl 31 rfl C X0 d1_30 ?_
  refine g_aloadN 32 rfl C X0 d1_31 rfl rfl ?_
  refine g_iloadN 33 rfl C X0 d1_32 rfl ?_
  refine g_iload 35 rfl C X0 d1_33 rfl ?_
  refine g_iadd 36 rfl C X0 d1_35 ?_
  have fc7 : (2 : Int32).toInt = 2 := rfl
  have fo8 := c_iadd p1 (2 : Int32)
  have fr9 := rng32 (p1 + (2 : Int32))
  refine g_baload 37 rfl C X0 e0 B_b0 (n + 2) (by omega) (by omega) x2 hx2 d1_36 ?_
  refine g_bipush 39 rfl C X0 (63 : Int32) d1_37 rfl ?_
  refine g_iand 40 rfl C X0 d1_39 ?_
  refine g_ior 41 rfl C X0 d1_40 ?_
  obtain ⟨v10, hv10⟩ : ∃ z : Int32, ((v6 <<< ((6 : Int32) &&& 31)) ||| (x2 &&& (63 : Int32))) = z := ⟨_, rfl⟩
  refine g_istoreN 42 rfl C X0 v10 hv10 #[.val (.ref b0), .val (.int p1), .val (.int (3 : Int32)), .val (.int v10), .val (.int (2 : Int32))] d1_41 rfl ?_
  refine g_iinc 45 rfl C X0 (1 : Int32) (3 : Int32) #[.val (.ref b0), .val (.int p1), .val (.int (3 : Int32)), .val (.int v10), .val (.int (3 : Int32))] d1_42 rfl rfl (by decide) rfl ?_
  refine g_goto 21 C X0 d1_45 (by decide) (by decide) ?_
  refine g_iload 23 rfl C X0 d1_21 rfl ?_
  refine g_iloadN 24 rfl C X0 d1_23 rfl ?_
  refine g_icmp_ge_t 48 C X0 d1_24 (by decide) (by decide) (by decide) ?_
  refine g_iloadN 49 rfl C X0 d1_48 rfl ?_
  have fc11 : (3 : Int32).toInt = 3 := rfl
  have fr12 := rng32 v10
  have fr13 := rng32 v6
  have fr14 := rng32 v2
  have fr15 := rng32 x0
  have fc16 : ((127 : Int32) >>> ((3 : Int32) &&& 31)).toInt = 15 := by decide
  have fo17 : (x0 &&& ((127 : Int32) >>> ((3 : Int32) &&& 31))).toInt = x0.toInt % 16 := c_mask x0 ((127 : Int32) >>> ((3 : Int32) &&& 31)) 4 (by decide) (by decide)
  have fe18 : (x0 &&& ((127 : Int32) >>> ((3 : Int32) &&& 31))).toInt = v2.toInt := congrArg Int32.toInt hv2
  have fc19 : (6 : Int32).toInt = 6 := rfl
  have fo20 : (((v2 <<< ((6 : Int32) &&& 31))).toInt - v2.toInt * 64) % 4294967296 = 0 := c_ishl v2 (6 : Int32) 6 (by decide)
  have fr21 := rng32 (v2 <<< ((6 : Int32) &&& 31))
  have fr22 := rng32 x1
  have fc23 : (63 : Int32).toInt = 63 := rfl
  have fo24 : (x1 &&& (63 : Int32)).toInt = x1.toInt % 64 := c_mask x1 (63 : Int32) 6 (by decide) (by decide)
  have fo25 := c_or (v2 <<< ((6 : Int32) &&& 31)) (x1 &&& (63 : Int32)) 6 (by decide) 64 (by decide) (by omega) (by omega) (by omega)
  have fr26 := rng32 ((v2 <<< ((6 : Int32) &&& 31)) ||| (x1 &&& (63 : Int32)))
  have fe27 : ((v2 <<< ((6 : Int32) &&& 31)) ||| (x1 &&& (63 : Int32))).toInt = v6.toInt := congrArg Int32.toInt hv6
  have fo28 : (((v6 <<< ((6 : Int32) &&& 31))).toInt - v6.toInt * 64) % 4294967296 = 0 := c_ishl v6 (6 : Int32) 6 (by decide)
  have fr29 := rng32 (v6 <<< ((6 : Int32) &&& 31))
  have fr30 := rng32 x2
  have fo31 : (x2 &&& (63 : Int32)).toInt = x2.toInt % 64 := c_mask x2 (63 : Int32) 6 (by decide) (by decide)
  have fo32 := c_or (v6 <<< ((6 : Int32) &&& 31)) (x2 &&& (63 : Int32)) 6 (by decide) 64 (by decide) (by omega) (by omega) (by omega)
  have fr33 := rng32 ((v6 <<< ((6 : Int32) &&& 31)) ||| (x2 &&& (63 : Int32)))
  have fe34 : ((v6 <<< ((6 : Int32) &&& 31)) ||| (x2 &&& (63 : Int32))).toInt = v10.toInt := congrArg Int32.toInt hv10
  exact g_retI C X0 rfl d1_49 e0 (by decide) (by decide) ⟨_, rfl, by omega, N0, rfl⟩
theorem ef_1_4 (m : MethodId) (b0 : Addr) (p1 : Int32) : entryFrame m #[(.ref b0), (.int p1), (.int (4 : Int32))] 5 = mkF m 0 #[.val (.ref b0), .val (.int p1), .val (.int (4 : Int32)), .unset, .unset] [] := by first | (simp [entryFrame, mkF, argsToLocals, Value.category]; done) | rfl
def Q1_4 (Z : State) (b0 : Addr) (p1 : Int32) (f : Nat → Int32) (n : Nat) (x0 : Int32) (x1 : Int32) (x2 : Int32) (x3 : Int32) (h0 : Heap) (n0 : Nat) (v : Option Value) (h : Heap) (L : List Loc) : Prop := ∃ r : Int32, v = some (.int r) ∧ (r.toInt = x0.toInt % 8 * 262144 + x1.toInt % 64 * 4096 + x2.toInt % 64 * 64 + x3.toInt % 64) ∧ Fr n0 L ∧ h = h0
set_option maxRecDepth 65536 in
set_option maxHeartbeats 40000000 in
theorem rm1_4 (l : Launch) (Z : State) (a0 : Array Value) (hw : ∀ d ∈ tables_1, d.before a0 Z = true) (ws : List Jvm.Cond) (b0 : Addr) (p1 : Int32) (f : Nat → Int32) (n : Nat) (x0 : Int32) (x1 : Int32) (x2 : Int32) (x3 : Int32) (h0 : Heap) (n0 : Nat) (Z0 : n0 ≤ h0.size) (B_b0 : Ba Z h0 b0 .byte 8 f) (hn : p1.toInt = n) (hn8 : n + 4 ≤ 8) (hnm : n ≤ 8) (hx0 : f n = x0) (hx1 : f (n + 1) = x1) (hx2 : f (n + 2) = x2) (hx3 : f (n + 3) = x3) :
    MetFree l (⟨"com/example/schedario/schedario/records/Utf8", "codePoint", "([BII)I"⟩ : MethodName) (head1 (Jvm.Cond.code (⟨"com/example/schedario/schedario/records/Utf8", "codePoint", "([BII)I"⟩ : MethodName) prog_50_method_4_code 5 (some .int) :: ws) ({ frames := 0, cells := 0, slots := 0, locals := 0 } : Room)) (fun a U => a = #[(.ref b0), (.int p1), (.int (4 : Int32))] ∧ Z.Warmed39 U.vm ∧ U.heap = h0) (fun _ _ _ _ _ => True) (fun _ U o U' => ∃ v L, o = .returned v ∧ Q1_4 Z b0 p1 f n x0 x1 x2 x3 h0 n0 v U'.heap L ∧ FrameEnd U o U' L ({ frames := 0, cells := 0, slots := 0, locals := 0 } : Room).cells ({ frames := 0, cells := 0, slots := 0, locals := 0 } : Room).slots) := by
  refine MetFree.of_bodySF (plainFor_of_name pn_41208506) hisR ?_
  intro p e s m args below meth c s₁ Bd hml0 hP hK
  obtain ⟨rfl, hZ, hh⟩ := hP
  have C : Ctx p s m meth c Z "com/example/schedario/schedario/records/Utf8" "codePoint" prog_50_method_4_code 5 (some .int) := Ctx.of Bd hml0 hZ
  have X0 : Stand p l e ({ frames := 0, cells := 0, slots := 0, locals := 0 } : Room) s m #[(.ref b0), (.int p1), (.int (4 : Int32))] below meth c s₁ [] 0 0 := Stand.of_body Bd
  have e0 : s₁.heap = h0 := by rw [← hh, Bd.state]; rfl
  have N0 := Fr.nil n0
  refine Goes.enter (ef_1_4 m b0 p1) ?_
  clear hK hml0 hh
  refine g_iloadN 1 rfl C X0 d1_0 rfl ?_
  refine g_iconst 2 rfl C X0 (1 : Int32) d1_1 rfl ?_
  refine g_icmp_ne_t 9 C X0 d1_2 (by decide) (by decide) (by decide) ?_
  refine g_aloadN 10 rfl C X0 d1_9 rfl rfl ?_
  refine g_iloadN 11 rfl C X0 d1_10 rfl ?_
  have fr1 := rng32 p1
  refine g_baload 12 rfl C X0 e0 B_b0 (n) (by omega) (by omega) x0 hx0 d1_11 ?_
  refine g_bipush 14 rfl C X0 (127 : Int32) d1_12 rfl ?_
  refine g_iloadN 15 rfl C X0 d1_14 rfl ?_
  refine g_ishr 16 rfl C X0 d1_15 ?_
  refine g_iand 17 rfl C X0 d1_16 ?_
  obtain ⟨v2, hv2⟩ : ∃ z : Int32, (x0 &&& ((127 : Int32) >>> ((4 : Int32) &&& 31))) = z := ⟨_, rfl⟩
  refine g_istoreN 18 rfl C X0 v2 hv2 #[.val (.ref b0), .val (.int p1), .val (.int (4 : Int32)), .val (.int v2), .unset] d1_17 rfl ?_
  refine g_iconst 19 rfl C X0 (1 : Int32) d1_18 rfl ?_
  refine g_istore 21 rfl C X0 (1 : Int32) rfl #[.val (.ref b0), .val (.int p1), .val (.int (4 : Int32)), .val (.int v2), .val (.int (1 : Int32))] d1_19 rfl ?_
  refine g_iload 23 rfl C X0 d1_21 rfl ?_
  refine g_iloadN 24 rfl C X0 d1_23 rfl ?_
  refine g_icmp_ge_f 27 rfl C X0 d1_24 (by decide) ?_
  refine g_iloadN 28 rfl C X0 d1_27 rfl ?_
  refine g_bipush 30 rfl C X0 (6 : Int32) d1_28 rfl ?_
  refine g_ishl 31 rfl C X0 d1_30 ?_
  refine g_aloadN 32 rfl C X0 d1_31 rfl rfl ?_
  refine g_iloadN 33 rfl C X0 d1_32 rfl ?_
  refine g_iload 35 rfl C X0 d1_33 rfl ?_
  refine g_iadd 36 rfl C X0 d1_35 ?_
  have fc3 : (1 : Int32).toInt = 1 := rfl
  have fo4 := c_iadd p1 (1 : Int32)
  have fr5 := rng32 (p1 + (1 : Int32))
  refine g_baload 37 rfl C X0 e0 B_b0 (n + 1) (by omega) (by omega) x1 hx1 d1_36 ?_
  refine g_bipush 39 rfl C X0 (63 : Int32) d1_37 rfl ?_
  refine g_iand 40 rfl C X0 d1_39 ?_
  refine g_ior 41 rfl C X0 d1_40 ?_
  obtain ⟨v6, hv6⟩ : ∃ z : Int32, ((v2 <<< ((6 : Int32) &&& 31)) ||| (x1 &&& (63 : Int32))) = z := ⟨_, rfl⟩
  refine g_istoreN 42 rfl C X0 v6 hv6 #[.val (.ref b0), .val (.int p1), .val (.int (4 : Int32)), .val (.int v6), .val (.int (1 : Int32))] d1_41 rfl ?_
  refine g_iinc 45 rfl C X0 (1 : Int32) (2 : Int32) #[.val (.ref b0), .val (.int p1), .val (.int (4 : Int32)), .val (.int v6), .val (.int (2 : Int32))] d1_42 rfl rfl (by decide) rfl ?_
  refine g_goto 21 C X0 d1_45 (by decide) (by decide) ?_
  refine g_iload 23 rfl C X0 d1_21 rfl ?_
  refine g_iloadN 24 rfl C X0 d1_23 rfl ?_
  refine g_icmp_ge_f 27 rfl C X0 d1_24 (by decide) ?_
  refine g_iloadN 28 rfl C X0 d1_27 rfl ?_
  refine g_bipush 30 rfl C X0 (6 : Int32) d1_28 rfl ?_
  refine g_ishl 31 rfl C X0 d1_30 ?_
  refine g_aloadN 32 rfl C X0 d1_31 rfl rfl ?_
  refine g_iloadN 33 rfl C X0 d1_32 rfl ?_
  refine g_iload 35 rfl C X0 d1_33 rfl ?_
  refine g_iadd 36 rfl C X0 d1_35 ?_
  have fc7 : (2 : Int32).toInt = 2 := rfl
  have fo8 := c_iadd p1 (2 : Int32)
  have fr9 := rng32 (p1 + (2 : Int32))
  refine g_baload 37 rfl C X0 e0 B_b0 (n + 2) (by omega) (by omega) x2 hx2 d1_36 ?_
  refine g_bipush 39 rfl C X0 (63 : Int32) d1_37 rfl ?_
  refine g_iand 40 rfl C X0 d1_39 ?_
  refine g_ior 41 rfl C X0 d1_40 ?_
  obtain ⟨v10, hv10⟩ : ∃ z : Int32, ((v6 <<< ((6 : Int32) &&& 31)) ||| (x2 &&& (63 : Int32))) = z := ⟨_, rfl⟩
  refine g_istoreN 42 rfl C X0 v10 hv10 #[.val (.ref b0), .val (.int p1), .val (.int (4 : Int32)), .val (.int v10), .val (.int (2 : Int32))] d1_41 rfl ?_
  refine g_iinc 45 rfl C X0 (1 : Int32) (3 : Int32) #[.val (.ref b0), .val (.int p1), .val (.int (4 : Int32)), .val (.int v10), .val (.int (3 : Int32))] d1_42 rfl rfl (by decide) rfl ?_
  refine g_goto 21 C X0 d1_45 (by decide) (by decide) ?_
  refine g_iload 23 rfl C X0 d1_21 rfl ?_
  refine g_iloadN 24 rfl C X0 d1_23 rfl ?_
  refine g_icmp_ge_f 27 rfl C X0 d1_24 (by decide) ?_
  refine g_iloadN 28 rfl C X0 d1_27 rfl ?_
  refine g_bipush 30 rfl C X0 (6 : Int32) d1_28 rfl ?_
  refine g_ishl 31 rfl C X0 d1_30 ?_
  refine g_aloadN 32 rfl C X0 d1_31 rfl rfl ?_
  refine g_iloadN 33 rfl C X0 d1_32 rfl ?_
  refine g_iload 35 rfl C X0 d1_33 rfl ?_
  refine g_iadd 36 rfl C X0 d1_35 ?_
  have fc11 : (3 : Int32).toInt = 3 := rfl
  have fo12 := c_iadd p1 (3 : Int32)
  have fr13 := rng32 (p1 + (3 : Int32))
  refine g_baload 37 rfl C X0 e0 B_b0 (n + 3) (by omega) (by omega) x3 hx3 d1_36 ?_
  refine g_bipush 39 rfl C X0 (63 : Int32) d1_37 rfl ?_
  refine g_iand 40 rfl C X0 d1_39 ?_
  refine g_ior 41 rfl C X0 d1_40 ?_
  obtain ⟨v14, hv14⟩ : ∃ z : Int32, ((v10 <<< ((6 : Int32) &&& 31)) ||| (x3 &&& (63 : Int32))) = z := ⟨_, rfl⟩
  refine g_istoreN 42 rfl C X0 v14 hv14 #[.val (.ref b0), .val (.int p1), .val (.int (4 : Int32)), .val (.int v14), .val (.int (3 : Int32))] d1_41 rfl ?_
  refine g_iinc 45 rfl C X0 (1 : Int32) (4 : Int32) #[.val (.ref b0), .val (.int p1), .val (.int (4 : Int32)), .val (.int v14), .val (.int (4 : Int32))] d1_42 rfl rfl (by decide) rfl ?_
  refine g_goto 21 C X0 d1_45 (by decide) (by decide) ?_
  refine g_iload 23 rfl C X0 d1_21 rfl ?_
  refine g_iloadN 24 rfl C X0 d1_23 rfl ?_
  refine g_icmp_ge_t 48 C X0 d1_24 (by decide) (by decide) (by decide) ?_
  refine g_iloadN 49 rfl C X0 d1_48 rfl ?_
  have fc15 : (4 : Int32).toInt = 4 := rfl
  have fr16 := rng32 v14
  have fr17 := rng32 v10
  have fr18 := rng32 v6
  have fr19 := rng32 v2
  have fr20 := rng32 x0
  have fc21 : ((127 : Int32) >>> ((4 : Int32) &&& 31)).toInt = 7 := by decide
  have fo22 : (x0 &&& ((127 : Int32) >>> ((4 : Int32) &&& 31))).toInt = x0.toInt % 8 := c_mask x0 ((127 : Int32) >>> ((4 : Int32) &&& 31)) 3 (by decide) (by decide)
  have fe23 : (x0 &&& ((127 : Int32) >>> ((4 : Int32) &&& 31))).toInt = v2.toInt := congrArg Int32.toInt hv2
  have fc24 : (6 : Int32).toInt = 6 := rfl
  have fo25 : (((v2 <<< ((6 : Int32) &&& 31))).toInt - v2.toInt * 64) % 4294967296 = 0 := c_ishl v2 (6 : Int32) 6 (by decide)
  have fr26 := rng32 (v2 <<< ((6 : Int32) &&& 31))
  have fr27 := rng32 x1
  have fc28 : (63 : Int32).toInt = 63 := rfl
  have fo29 : (x1 &&& (63 : Int32)).toInt = x1.toInt % 64 := c_mask x1 (63 : Int32) 6 (by decide) (by decide)
  have fo30 := c_or (v2 <<< ((6 : Int32) &&& 31)) (x1 &&& (63 : Int32)) 6 (by decide) 64 (by decide) (by omega) (by omega) (by omega)
  have fr31 := rng32 ((v2 <<< ((6 : Int32) &&& 31)) ||| (x1 &&& (63 : Int32)))
  have fe32 : ((v2 <<< ((6 : Int32) &&& 31)) ||| (x1 &&& (63 : Int32))).toInt = v6.toInt := congrArg Int32.toInt hv6
  have fo33 : (((v6 <<< ((6 : Int32) &&& 31))).toInt - v6.toInt * 64) % 4294967296 = 0 := c_ishl v6 (6 : Int32) 6 (by decide)
  have fr34 := rng32 (v6 <<< ((6 : Int32) &&& 31))
  have fr35 := rng32 x2
  have fo36 : (x2 &&& (63 : Int32)).toInt = x2.toInt % 64 := c_mask x2 (63 : Int32) 6 (by decide) (by decide)
  have fo37 := c_or (v6 <<< ((6 : Int32) &&& 31)) (x2 &&& (63 : Int32)) 6 (by decide) 64 (by decide) (by omega) (by omega) (by omega)
  have fr38 := rng32 ((v6 <<< ((6 : Int32) &&& 31)) ||| (x2 &&& (63 : Int32)))
  have fe39 : ((v6 <<< ((6 : Int32) &&& 31)) ||| (x2 &&& (63 : Int32))).toInt = v10.toInt := congrArg Int32.toInt hv10
  have fo40 : (((v10 <<< ((6 : Int32) &&& 31))).toInt - v10.toInt * 64) % 4294967296 = 0 := c_ishl v10 (6 : Int32) 6 (by decide)
  have fr41 := rng32 (v10 <<< ((6 : Int32) &&& 31))
  have fr42 := rng32 x3
  have fo43 : (x3 &&& (63 : Int32)).toInt = x3.toInt % 64 := c_mask x3 (63 : Int32) 6 (by decide) (by decide)
  have fo44 := c_or (v10 <<< ((6 : Int32) &&& 31)) (x3 &&& (63 : Int32)) 6 (by decide) 64 (by decide) (by omega) (by omega) (by omega)
  have fr45 := rng32 ((v10 <<< ((6 : Int32) &&& 31)) ||| (x3 &&& (63 : Int32)))
  have fe46 : ((v10 <<< ((6 : Int32) &&& 31)) ||| (x3 &&& (63 : Int32))).toInt = v14.toInt := congrArg Int32.toInt hv14
  exact g_retI C X0 rfl d1_49 e0 (by decide) (by decide) ⟨_, rfl, by omega, N0, rfl⟩
theorem pd_14998784 : parseMethodDescriptor "([BII)I" = some ⟨[(.array .byte), .int, .int], some .int⟩ := by decide +kernel
theorem pn_63355758 : plainName "com/example/schedario/schedario/records/Utf8CodePointPinLaw" = true := by first | (simp [plainName, overriddenIn]; done) | decide +kernel
theorem ef_0 (m : MethodId) (p0 : Int32) (p1 : Int32) (p2 : Int64) : entryFrame m #[(.int p0), (.int p1), (.long p2)] maxLocals = mkF m 0 #[.val (.int p0), .val (.int p1), .val (.long p2), .second, .unset, .unset, .unset, .unset] [] := by first | (simp [entryFrame, mkF, argsToLocals, Value.category, maxLocals]; done) | rfl
def Q0 (Z : State) (p0 : Int32) (p1 : Int32) (p2 : Int64) (h0 : Heap) (n0 : Nat) (v : Option Value) (h : Heap) (L : List Loc) : Prop := v = some (.int 1) ∧ Fr n0 L
set_option maxRecDepth 65536 in
set_option maxHeartbeats 40000000 in
theorem rm0 (l : Launch) (Z : State) (a0 : Array Value) (hw : ∀ d ∈ tables_1, d.before a0 Z = true) (ws : List Jvm.Cond) (p0 : Int32) (p1 : Int32) (p2 : Int64) (h0 : Heap) (n0 : Nat) (Z0 : n0 ≤ h0.size) :
    MetFree l x (head1 (Jvm.Cond.code x code maxLocals ret :: ws) room_1) (fun a U => a = #[(.int p0), (.int p1), (.long p2)] ∧ Z.Warmed39 U.vm ∧ U.heap = h0) (fun _ _ _ _ _ => True) (fun _ U o U' => ∃ v L, o = .returned v ∧ Q0 Z p0 p1 p2 h0 n0 v U'.heap L ∧ FrameEnd U o U' L 16 128) := by
  refine MetFree.of_bodySF (plainFor_of_name pn_63355758) hisR ?_
  intro p e s m args below meth c s₁ Bd hml0 hP hK
  obtain ⟨rfl, hZ, hh⟩ := hP
  have C : Ctx p s m meth c Z "com/example/schedario/schedario/records/Utf8CodePointPinLaw" "law" code maxLocals ret := Ctx.of Bd hml0 hZ
  have X0 : Stand p l e room_1 s m #[(.int p0), (.int p1), (.long p2)] below meth c s₁ [] 0 0 := Stand.of_body Bd
  have e0 : s₁.heap = h0 := by rw [← hh, Bd.state]; rfl
  have N0 := Fr.nil n0
  refine Goes.enter (ef_0 m p0 p1 p2) ?_
  clear hK hml0 hh
  refine g_iloadN 1 rfl C X0 at_0 rfl ?_
  refine g_ldc 3 rfl C X0 (hw _ (List.mem_of_getElem? (i := 0) rfl)) at_1 ?_
  refine g_iand 4 rfl C X0 at_3 ?_
  refine g_ldc 6 rfl C X0 (hw _ (List.mem_of_getElem? (i := 1) rfl)) at_4 ?_
  refine g_irem 7 rfl C X0 at_6 (by decide) ?_
  obtain ⟨v1, hv1⟩ : ∃ z : Int32, ((p0 &&& (2147483647 : Int32)) % (1114112 : Int32)) = z := ⟨_, rfl⟩
  refine g_istore 9 rfl C X0 v1 hv1 #[.val (.int p0), .val (.int p1), .val (.long p2), .second, .val (.int v1), .unset, .unset, .unset] at_7 rfl ?_
  refine g_iload 11 rfl C X0 at_9 rfl ?_
  refine g_ldc 13 rfl C X0 (hw _ (List.mem_of_getElem? (i := 2) rfl)) at_11 ?_
  by_cases hb2 : v1.toInt < (55296 : Int32).toInt
  · skip
    refine g_icmp_lt_t 31 C X0 at_13 (by decide) (by decide) hb2 ?_
    refine g_iloadN 32 rfl C X0 at_31 rfl ?_
    refine g_iconst 33 rfl C X0 (3 : Int32) at_32 rfl ?_
    refine g_iand 34 rfl C X0 at_33 ?_
    obtain ⟨v3, hv3⟩ : ∃ z : Int32, (p1 &&& (3 : Int32)) = z := ⟨_, rfl⟩
    refine g_istore 36 rfl C X0 v3 hv3 #[.val (.int p0), .val (.int p1), .val (.long p2), .second, .val (.int v1), .val (.int v3), .unset, .unset] at_34 rfl ?_
    refine g_bipush 38 rfl C X0 (8 : Int32) at_36 rfl ?_
    refine g_newP 40 rfl C X0 8 (by decide) 8 (by decide) (by decide) rfl (hw _ (List.mem_of_getElem? (i := 3) rfl)) e0 at_38 (by decide) (by decide) fun T4 h5 o6 g7 X8 e9 E10 B11 => ?_
    have gn12 : n0 ≤ o6 := by rw [g7]; exact Z0
    have Zs13 := Nat.le_trans Z0 E10.1
    refine g_astore 42 rfl C X8 #[.val (.int p0), .val (.int p1), .val (.long p2), .second, .val (.int v1), .val (.int v3), .val (.ref o6), .unset] at_40 rfl rfl ?_
    refine g_aload 44 rfl C X8 at_42 rfl rfl ?_
    refine g_iconst 45 rfl C X8 (0 : Int32) at_44 rfl ?_
    refine g_lloadN 46 rfl C X8 at_45 rfl ?_
    refine g_l2i 47 rfl C X8 at_46 ?_
    refine g_i2b 48 rfl C X8 at_47 ?_
    obtain ⟨w14, hw14⟩ : ∃ z : Int32, ((((((p2).toInt32)).toInt8.toInt32)).toInt8.toInt32) = z := ⟨_, rfl⟩
    refine g_bastore 49 rfl C X8 e9 B11 0 (by decide) (by decide) w14 hw14 at_48 N0 gn12 fun T15 h16 ls17 X18 e19 W20 B21 N22 => ?_
    have Zs23 := Nat.le_trans Zs13 (Nat.le_of_eq W20.size.symm)
    refine g_aload 51 rfl C X18 at_49 rfl rfl ?_
    refine g_iconst 52 rfl C X18 (1 : Int32) at_51 rfl ?_
    refine g_lloadN 53 rfl C X18 at_52 rfl ?_
    refine g_bipush 55 rfl C X18 (8 : Int32) at_53 rfl ?_
    refine g_lushr 56 rfl C X18 at_55 ?_
    refine g_l2i 57 rfl C X18 at_56 ?_
    refine g_i2b 58 rfl C X18 at_57 ?_
    obtain ⟨w24, hw24⟩ : ∃ z : Int32, (((((((((p2).toUInt64 >>> ((8 : Int32) &&& 0x3f).toInt64.toUInt64).toInt64)).toInt32)).toInt8.toInt32)).toInt8.toInt32) = z := ⟨_, rfl⟩
    refine g_bastore 59 rfl C X18 e19 B21 1 (by decide) (by decide) w24 hw24 at_58 N22 gn12 fun T25 h26 ls27 X28 e29 W30 B31 N32 => ?_
    have Zs33 := Nat.le_trans Zs23 (Nat.le_of_eq W30.size.symm)
    refine g_aload 61 rfl C X28 at_59 rfl rfl ?_
    refine g_iconst 62 rfl C X28 (2 : Int32) at_61 rfl ?_
    refine g_lloadN 63 rfl C X28 at_62 rfl ?_
    refine g_bipush 65 rfl C X28 (16 : Int32) at_63 rfl ?_
    refine g_lushr 66 rfl C X28 at_65 ?_
    refine g_l2i 67 rfl C X28 at_66 ?_
    refine g_i2b 68 rfl C X28 at_67 ?_
    obtain ⟨w34, hw34⟩ : ∃ z : Int32, (((((((((p2).toUInt64 >>> ((16 : Int32) &&& 0x3f).toInt64.toUInt64).toInt64)).toInt32)).toInt8.toInt32)).toInt8.toInt32) = z := ⟨_, rfl⟩
    refine g_bastore 69 rfl C X28 e29 B31 2 (by decide) (by decide) w34 hw34 at_68 N32 gn12 fun T35 h36 ls37 X38 e39 W40 B41 N42 => ?_
    have Zs43 := Nat.le_trans Zs33 (Nat.le_of_eq W40.size.symm)
    refine g_aload 71 rfl C X38 at_69 rfl rfl ?_
    refine g_iconst 72 rfl C X38 (3 : Int32) at_71 rfl ?_
    refine g_lloadN 73 rfl C X38 at_72 rfl ?_
    refine g_bipush 75 rfl C X38 (24 : Int32) at_73 rfl ?_
    refine g_lushr 76 rfl C X38 at_75 ?_
    refine g_l2i 77 rfl C X38 at_76 ?_
    refine g_i2b 78 rfl C X38 at_77 ?_
    obtain ⟨w44, hw44⟩ : ∃ z : Int32, (((((((((p2).toUInt64 >>> ((24 : Int32) &&& 0x3f).toInt64.toUInt64).toInt64)).toInt32)).toInt8.toInt32)).toInt8.toInt32) = z := ⟨_, rfl⟩
    refine g_bastore 79 rfl C X38 e39 B41 3 (by decide) (by decide) w44 hw44 at_78 N42 gn12 fun T45 h46 ls47 X48 e49 W50 B51 N52 => ?_
    have Zs53 := Nat.le_trans Zs43 (Nat.le_of_eq W50.size.symm)
    refine g_aload 81 rfl C X48 at_79 rfl rfl ?_
    refine g_iconst 82 rfl C X48 (4 : Int32) at_81 rfl ?_
    refine g_lloadN 83 rfl C X48 at_82 rfl ?_
    refine g_bipush 85 rfl C X48 (32 : Int32) at_83 rfl ?_
    refine g_lushr 86 rfl C X48 at_85 ?_
    refine g_l2i 87 rfl C X48 at_86 ?_
    refine g_i2b 88 rfl C X48 at_87 ?_
    obtain ⟨w54, hw54⟩ : ∃ z : Int32, (((((((((p2).toUInt64 >>> ((32 : Int32) &&& 0x3f).toInt64.toUInt64).toInt64)).toInt32)).toInt8.toInt32)).toInt8.toInt32) = z := ⟨_, rfl⟩
    refine g_bastore 89 rfl C X48 e49 B51 4 (by decide) (by decide) w54 hw54 at_88 N52 gn12 fun T55 h56 ls57 X58 e59 W60 B61 N62 => ?_
    have Zs63 := Nat.le_trans Zs53 (Nat.le_of_eq W60.size.symm)
    refine g_aload 91 rfl C X58 at_89 rfl rfl ?_
    refine g_iconst 92 rfl C X58 (5 : Int32) at_91 rfl ?_
    refine g_lloadN 93 rfl C X58 at_92 rfl ?_
    refine g_bipush 95 rfl C X58 (40 : Int32) at_93 rfl ?_
    refine g_lushr 96 rfl C X58 at_95 ?_
    refine g_l2i 97 rfl C X58 at_96 ?_
    refine g_i2b 98 rfl C X58 at_97 ?_
    obtain ⟨w64, hw64⟩ : ∃ z : Int32, (((((((((p2).toUInt64 >>> ((40 : Int32) &&& 0x3f).toInt64.toUInt64).toInt64)).toInt32)).toInt8.toInt32)).toInt8.toInt32) = z := ⟨_, rfl⟩
    refine g_bastore 99 rfl C X58 e59 B61 5 (by decide) (by decide) w64 hw64 at_98 N62 gn12 fun T65 h66 ls67 X68 e69 W70 B71 N72 => ?_
    have Zs73 := Nat.le_trans Zs63 (Nat.le_of_eq W70.size.symm)
    refine g_aload 101 rfl C X68 at_99 rfl rfl ?_
    refine g_bipush 103 rfl C X68 (6 : Int32) at_101 rfl ?_
    refine g_lloadN 104 rfl C X68 at_103 rfl ?_
    refine g_bipush 106 rfl C X68 (48 : Int32) at_104 rfl ?_
    refine g_lushr 107 rfl C X68 at_106 ?_
    refine g_l2i 108 rfl C X68 at_107 ?_
    refine g_i2b 109 rfl C X68 at_108 ?_
    obtain ⟨w74, hw74⟩ : ∃ z : Int32, (((((((((p2).toUInt64 >>> ((48 : Int32) &&& 0x3f).toInt64.toUInt64).toInt64)).toInt32)).toInt8.toInt32)).toInt8.toInt32) = z := ⟨_, rfl⟩
    refine g_bastore 110 rfl C X68 e69 B71 6 (by decide) (by decide) w74 hw74 at_109 N72 gn12 fun T75 h76 ls77 X78 e79 W80 B81 N82 => ?_
    have Zs83 := Nat.le_trans Zs73 (Nat.le_of_eq W80.size.symm)
    refine g_aload 112 rfl C X78 at_110 rfl rfl ?_
    refine g_bipush 114 rfl C X78 (7 : Int32) at_112 rfl ?_
    refine g_lloadN 115 rfl C X78 at_114 rfl ?_
    refine g_bipush 117 rfl C X78 (56 : Int32) at_115 rfl ?_
    refine g_lushr 118 rfl C X78 at_117 ?_
    refine g_l2i 119 rfl C X78 at_118 ?_
    refine g_i2b 120 rfl C X78 at_119 ?_
    obtain ⟨w84, hw84⟩ : ∃ z : Int32, (((((((((p2).toUInt64 >>> ((56 : Int32) &&& 0x3f).toInt64.toUInt64).toInt64)).toInt32)).toInt8.toInt32)).toInt8.toInt32) = z := ⟨_, rfl⟩
    refine g_bastore 121 rfl C X78 e79 B81 7 (by decide) (by decide) w84 hw84 at_120 N82 gn12 fun T85 h86 ls87 X88 e89 W90 B91 N92 => ?_
    have Zs93 := Nat.le_trans Zs83 (Nat.le_of_eq W90.size.symm)
    obtain ⟨f94, B95⟩ : ∃ f, Ba Z h86 o6 .byte 8 f := ⟨_, B91⟩
    refine g_iload 123 rfl C X88 at_121 rfl ?_
    refine g_sipush 126 rfl C X88 (128 : Int32) at_123 rfl ?_
    by_cases hb96 : v1.toInt < (128 : Int32).toInt
    · skip
      refine g_icmp_ge_f 129 rfl C X88 at_126 hb96 ?_
      refine g_iconst 130 rfl C X88 (1 : Int32) at_129 rfl ?_
      refine g_istore 132 rfl C X88 (1 : Int32) rfl #[.val (.int p0), .val (.int p1), .val (.long p2), .second, .val (.int v1), .val (.int v3), .val (.ref o6), .val (.int (1 : Int32))] at_130 rfl ?_
      refine g_aload 134 rfl C X88 at_132 rfl rfl ?_
      refine g_iload 136 rfl C X88 at_134 rfl ?_
      refine g_iload 138 rfl C X88 at_136 rfl ?_
      refine g_i2b 139 rfl C X88 at_138 ?_
      have hq98 : 0 ≤ v3.toInt ∧ v3.toInt ≤ 3 := by
        have fr99 := rng32 v3
        have fr100 := rng32 p1
        have fc101 : (3 : Int32).toInt = 3 := rfl
        have fo102 : (p1 &&& (3 : Int32)).toInt = p1.toInt % 4 := c_mask p1 (3 : Int32) 2 (by decide) (by decide)
        have fe103 : (p1 &&& (3 : Int32)).toInt = v3.toInt := congrArg Int32.toInt hv3
        omega
      obtain ⟨n97, hn97⟩ : ∃ n : Nat, v3.toInt = n := ⟨v3.toInt.toNat, by omega⟩
      have hn97m : n97 ≤ 3 := by omega
      obtain ⟨w104, hw104⟩ : ∃ z : Int32, ((((v1).toInt8.toInt32)).toInt8.toInt32) = z := ⟨_, rfl⟩
      refine g_bastore 140 rfl C X88 e89 B95 (n97) hn97 (by omega) w104 hw104 at_139 N92 gn12 fun T105 h106 ls107 X108 e109 W110 B111 N112 => ?_
      have Zs113 := Nat.le_trans Zs93 (Nat.le_of_eq W110.size.symm)
      refine g_goto 329 C X108 at_140 (by decide) (by decide) ?_
      refine g_aload 331 rfl C X108 at_329 rfl rfl ?_
      refine g_iload 333 rfl C X108 at_331 rfl ?_
      refine g_iload 335 rfl C X108 at_333 rfl ?_
      refine g_callS 338 rfl C X108 (argsL := [(.ref o6), (.int v3), (.int (1 : Int32))]) (hw _ (List.mem_of_getElem? (i := 4) rfl)) (hw _ (List.mem_of_getElem? (i := 5) rfl)) (hw _ (List.mem_of_getElem? (i := 7) rfl)) (hw _ (List.mem_of_getElem? (i := 6) rfl)) e109 (rm1_1 l Z a0 hw [] o6 v3 (upd f94 (n97) w104) n97 w104 h106 n0 Zs113 B111 hn97 (by omega) (by omega) (upd_same (by omega))) (lenOf pd_14998784 rfl) (by decide) (by decide) (by decide) (by decide) rfl (W := 0) (Nat.le_of_eq rfl) (by decide) at_335 rfl fun r114 T115 Lc116 X117 hQ118 => ?_
      obtain ⟨r119, rfl, hs120, Nq121, eh122⟩ := hQ118
      have N123 := Fr.app N112 Nq121
      show Goes _ _ _ _ _ _ 338 _ [(.int r119)]
      refine g_iload 340 rfl C X117 at_338 rfl ?_
      have hq125 : r119.toInt = v1.toInt := by
        have fr126 := rng32 r119
        have fr127 := rng32 v1
        have fr128 := rng32 p0
        have fc129 : (2147483647 : Int32).toInt = 2147483647 := rfl
        have fo130 : (p0 &&& (2147483647 : Int32)).toInt = p0.toInt % 2147483648 := c_mask p0 (2147483647 : Int32) 31 (by decide) (by decide)
        have fc131 : (1114112 : Int32).toInt = 1114112 := rfl
        have fo132 := c_irem (p0 &&& (2147483647 : Int32)) (1114112 : Int32) 1114112 rfl
        have fr133 := rng32 ((p0 &&& (2147483647 : Int32)) % (1114112 : Int32))
        have fe134 : ((p0 &&& (2147483647 : Int32)) % (1114112 : Int32)).toInt = v1.toInt := congrArg Int32.toInt hv1
        have fc135 : (55296 : Int32).toInt = 55296 := rfl
        have fc136 : (128 : Int32).toInt = 128 := rfl
        have fr137 := rng32 w104
        have fo138 := c_i2b v1
        have fo139 := c_i2b ((v1).toInt8.toInt32)
        have fe140 : ((((v1).toInt8.toInt32)).toInt8.toInt32).toInt = w104.toInt := congrArg Int32.toInt hw104
        omega
      refine g_icmp_ne_f 343 rfl C X117 at_340 hq125 ?_
      refine g_iconst 344 rfl C X117 (1 : Int32) at_343 rfl ?_
      refine g_goto 348 C X117 at_344 (by decide) (by decide) ?_
      exact g_retN C X117 (z' := (1 : Int32)) rfl (Or.inl rfl) at_348 eh122 (by decide) (by decide) rfl ⟨rfl, N123⟩
    · skip
      refine g_icmp_ge_t 143 C X88 at_126 (by decide) (by decide) hb96 ?_
      refine g_iload 145 rfl C X88 at_143 rfl ?_
      refine g_sipush 148 rfl C X88 (2048 : Int32) at_145 rfl ?_
      by_cases hb141 : v1.toInt < (2048 : Int32).toInt
      · skip
        refine g_icmp_ge_f 151 rfl C X88 at_148 hb141 ?_
        refine g_iconst 152 rfl C X88 (2 : Int32) at_151 rfl ?_
        refine g_istore 154 rfl C X88 (2 : Int32) rfl #[.val (.int p0), .val (.int p1), .val (.long p2), .second, .val (.int v1), .val (.int v3), .val (.ref o6), .val (.int (2 : Int32))] at_152 rfl ?_
        refine g_aload 156 rfl C X88 at_154 rfl rfl ?_
        refine g_iload 158 rfl C X88 at_156 rfl ?_
        refine g_sipush 161 rfl C X88 (192 : Int32) at_158 rfl ?_
        refine g_iload 163 rfl C X88 at_161 rfl ?_
        refine g_bipush 165 rfl C X88 (6 : Int32) at_163 rfl ?_
        refine g_ishr 166 rfl C X88 at_165 ?_
        refine g_ior 167 rfl C X88 at_166 ?_
        refine g_i2b 168 rfl C X88 at_167 ?_
        have hq143 : 0 ≤ v3.toInt ∧ v3.toInt ≤ 3 := by
          have fr144 := rng32 v3
          have fr145 := rng32 p1
          have fc146 : (3 : Int32).toInt = 3 := rfl
          have fo147 : (p1 &&& (3 : Int32)).toInt = p1.toInt % 4 := c_mask p1 (3 : Int32) 2 (by decide) (by decide)
          have fe148 : (p1 &&& (3 : Int32)).toInt = v3.toInt := congrArg Int32.toInt hv3
          omega
        obtain ⟨n142, hn142⟩ : ∃ n : Nat, v3.toInt = n := ⟨v3.toInt.toNat, by omega⟩
        have hn142m : n142 ≤ 3 := by omega
        obtain ⟨w149, hw149⟩ : ∃ z : Int32, ((((((192 : Int32) ||| (v1 >>> ((6 : Int32) &&& 31)))).toInt8.toInt32)).toInt8.toInt32) = z := ⟨_, rfl⟩
        refine g_bastore 169 rfl C X88 e89 B95 (n142) hn142 (by omega) w149 hw149 at_168 N92 gn12 fun T150 h151 ls152 X153 e154 W155 B156 N157 => ?_
        have Zs158 := Nat.le_trans Zs93 (Nat.le_of_eq W155.size.symm)
        refine g_aload 171 rfl C X153 at_169 rfl rfl ?_
        refine g_iload 173 rfl C X153 at_171 rfl ?_
        refine g_iconst 174 rfl C X153 (1 : Int32) at_173 rfl ?_
        refine g_iadd 175 rfl C X153 at_174 ?_
        refine g_sipush 178 rfl C X153 (128 : Int32) at_175 rfl ?_
        refine g_iload 180 rfl C X153 at_178 rfl ?_
        refine g_bipush 182 rfl C X153 (63 : Int32) at_180 rfl ?_
        refine g_iand 183 rfl C X153 at_182 ?_
        refine g_ior 184 rfl C X153 at_183 ?_
        refine g_i2b 185 rfl C X153 at_184 ?_
        have hq159 : (v3 + (1 : Int32)).toInt = ((n142 + 1 : Nat) : Int) := by
          have fr160 := rng32 v3
          have fr161 := rng32 p1
          have fc162 : (3 : Int32).toInt = 3 := rfl
          have fo163 : (p1 &&& (3 : Int32)).toInt = p1.toInt % 4 := c_mask p1 (3 : Int32) 2 (by decide) (by decide)
          have fe164 : (p1 &&& (3 : Int32)).toInt = v3.toInt := congrArg Int32.toInt hv3
          have fc165 : (1 : Int32).toInt = 1 := rfl
          have fo166 := c_iadd v3 (1 : Int32)
          have fr167 := rng32 (v3 + (1 : Int32))
          omega
        obtain ⟨w168, hw168⟩ : ∃ z : Int32, ((((((128 : Int32) ||| (v1 &&& (63 : Int32)))).toInt8.toInt32)).toInt8.toInt32) = z := ⟨_, rfl⟩
        refine g_bastore 186 rfl C X153 e154 B156 (n142 + 1) hq159 (by omega) w168 hw168 at_185 N157 gn12 fun T169 h170 ls171 X172 e173 W174 B175 N176 => ?_
        have Zs177 := Nat.le_trans Zs158 (Nat.le_of_eq W174.size.symm)
        refine g_goto 329 C X172 at_186 (by decide) (by decide) ?_
        refine g_aload 331 rfl C X172 at_329 rfl rfl ?_
        refine g_iload 333 rfl C X172 at_331 rfl ?_
        refine g_iload 335 rfl C X172 at_333 rfl ?_
        refine g_callS 338 rfl C X172 (argsL := [(.ref o6), (.int v3), (.int (2 : Int32))]) (hw _ (List.mem_of_getElem? (i := 4) rfl)) (hw _ (List.mem_of_getElem? (i := 5) rfl)) (hw _ (List.mem_of_getElem? (i := 7) rfl)) (hw _ (List.mem_of_getElem? (i := 6) rfl)) e173 (rm1_2 l Z a0 hw [] o6 v3 (upd (upd f94 (n142) w149) (n142 + 1) w168) n142 w149 w168 h170 n0 Zs177 B175 hn142 (by omega) (by omega) ((upd_ne (by omega)).trans (upd_same (by omega))) (upd_same (by omega))) (lenOf pd_14998784 rfl) (by decide) (by decide) (by decide) (by decide) rfl (W := 0) (Nat.le_of_eq rfl) (by decide) at_335 rfl fun r178 T179 Lc180 X181 hQ182 => ?_
        obtain ⟨r183, rfl, hs184, Nq185, eh186⟩ := hQ182
        have N187 := Fr.app N176 Nq185
        show Goes _ _ _ _ _ _ 338 _ [(.int r183)]
        refine g_iload 340 rfl C X181 at_338 rfl ?_
        have hq189 : r183.toInt = v1.toInt := by
          have fr190 := rng32 r183
          have fr191 := rng32 v1
          have fr192 := rng32 p0
          have fc193 : (2147483647 : Int32).toInt = 2147483647 := rfl
          have fo194 : (p0 &&& (2147483647 : Int32)).toInt = p0.toInt % 2147483648 := c_mask p0 (2147483647 : Int32) 31 (by decide) (by decide)
          have fc195 : (1114112 : Int32).toInt = 1114112 := rfl
          have fo196 := c_irem (p0 &&& (2147483647 : Int32)) (1114112 : Int32) 1114112 rfl
          have fr197 := rng32 ((p0 &&& (2147483647 : Int32)) % (1114112 : Int32))
          have fe198 : ((p0 &&& (2147483647 : Int32)) % (1114112 : Int32)).toInt = v1.toInt := congrArg Int32.toInt hv1
          have fc199 : (55296 : Int32).toInt = 55296 := rfl
          have fc200 : (128 : Int32).toInt = 128 := rfl
          have fc201 : (2048 : Int32).toInt = 2048 := rfl
          have fr202 := rng32 w149
          have fc203 : (192 : Int32).toInt = 192 := rfl
          have fc204 : (6 : Int32).toInt = 6 := rfl
          have fo205 : ((v1 >>> ((6 : Int32) &&& 31))).toInt = v1.toInt / 64 := c_ishr v1 (6 : Int32) 6 (by decide)
          have fo206 := c_or (192 : Int32) (v1 >>> ((6 : Int32) &&& 31)) 6 (by decide) 64 (by decide) (by omega) (by omega) (by omega)
          have fr207 := rng32 ((192 : Int32) ||| (v1 >>> ((6 : Int32) &&& 31)))
          have fo208 := c_i2b ((192 : Int32) ||| (v1 >>> ((6 : Int32) &&& 31)))
          have fo209 := c_i2b ((((192 : Int32) ||| (v1 >>> ((6 : Int32) &&& 31)))).toInt8.toInt32)
          have fe210 : ((((((192 : Int32) ||| (v1 >>> ((6 : Int32) &&& 31)))).toInt8.toInt32)).toInt8.toInt32).toInt = w149.toInt := congrArg Int32.toInt hw149
          have fr211 := rng32 w168
          have fc212 : (63 : Int32).toInt = 63 := rfl
          have fo213 : (v1 &&& (63 : Int32)).toInt = v1.toInt % 64 := c_mask v1 (63 : Int32) 6 (by decide) (by decide)
          have fo214 := c_or (128 : Int32) (v1 &&& (63 : Int32)) 7 (by decide) 128 (by decide) (by omega) (by omega) (by omega)
          have fr215 := rng32 ((128 : Int32) ||| (v1 &&& (63 : Int32)))
          have fo216 := c_i2b ((128 : Int32) ||| (v1 &&& (63 : Int32)))
          have fo217 := c_i2b ((((128 : Int32) ||| (v1 &&& (63 : Int32)))).toInt8.toInt32)
          have fe218 : ((((((128 : Int32) ||| (v1 &&& (63 : Int32)))).toInt8.toInt32)).toInt8.toInt32).toInt = w168.toInt := congrArg Int32.toInt hw168
          omega
        refine g_icmp_ne_f 343 rfl C X181 at_340 hq189 ?_
        refine g_iconst 344 rfl C X181 (1 : Int32) at_343 rfl ?_
        refine g_goto 348 C X181 at_344 (by decide) (by decide) ?_
        exact g_retN C X181 (z' := (1 : Int32)) rfl (Or.inl rfl) at_348 eh186 (by decide) (by decide) rfl ⟨rfl, N187⟩
      · skip
        refine g_icmp_ge_t 189 C X88 at_148 (by decide) (by decide) hb141 ?_
        refine g_iload 191 rfl C X88 at_189 rfl ?_
        refine g_ldc 193 rfl C X88 (hw _ (List.mem_of_getElem? (i := 9) rfl)) at_191 ?_
        by_cases hb219 : v1.toInt < (65536 : Int32).toInt
        · skip
          refine g_icmp_ge_f 196 rfl C X88 at_193 hb219 ?_
          refine g_iconst 197 rfl C X88 (3 : Int32) at_196 rfl ?_
          refine g_istore 199 rfl C X88 (3 : Int32) rfl #[.val (.int p0), .val (.int p1), .val (.long p2), .second, .val (.int v1), .val (.int v3), .val (.ref o6), .val (.int (3 : Int32))] at_197 rfl ?_
          refine g_aload 201 rfl C X88 at_199 rfl rfl ?_
          refine g_iload 203 rfl C X88 at_201 rfl ?_
          refine g_sipush 206 rfl C X88 (224 : Int32) at_203 rfl ?_
          refine g_iload 208 rfl C X88 at_206 rfl ?_
          refine g_bipush 210 rfl C X88 (12 : Int32) at_208 rfl ?_
          refine g_ishr 211 rfl C X88 at_210 ?_
          refine g_ior 212 rfl C X88 at_211 ?_
          refine g_i2b 213 rfl C X88 at_212 ?_
          have hq221 : 0 ≤ v3.toInt ∧ v3.toInt ≤ 3 := by
            have fr222 := rng32 v3
            have fr223 := rng32 p1
            have fc224 : (3 : Int32).toInt = 3 := rfl
            have fo225 : (p1 &&& (3 : Int32)).toInt = p1.toInt % 4 := c_mask p1 (3 : Int32) 2 (by decide) (by decide)
            have fe226 : (p1 &&& (3 : Int32)).toInt = v3.toInt := congrArg Int32.toInt hv3
            omega
          obtain ⟨n220, hn220⟩ : ∃ n : Nat, v3.toInt = n := ⟨v3.toInt.toNat, by omega⟩
          have hn220m : n220 ≤ 3 := by omega
          obtain ⟨w227, hw227⟩ : ∃ z : Int32, ((((((224 : Int32) ||| (v1 >>> ((12 : Int32) &&& 31)))).toInt8.toInt32)).toInt8.toInt32) = z := ⟨_, rfl⟩
          refine g_bastore 214 rfl C X88 e89 B95 (n220) hn220 (by omega) w227 hw227 at_213 N92 gn12 fun T228 h229 ls230 X231 e232 W233 B234 N235 => ?_
          have Zs236 := Nat.le_trans Zs93 (Nat.le_of_eq W233.size.symm)
          refine g_aload 216 rfl C X231 at_214 rfl rfl ?_
          refine g_iload 218 rfl C X231 at_216 rfl ?_
          refine g_iconst 219 rfl C X231 (1 : Int32) at_218 rfl ?_
          refine g_iadd 220 rfl C X231 at_219 ?_
          refine g_sipush 223 rfl C X231 (128 : Int32) at_220 rfl ?_
          refine g_iload 225 rfl C X231 at_223 rfl ?_
          refine g_bipush 227 rfl C X231 (6 : Int32) at_225 rfl ?_
          refine g_ishr 228 rfl C X231 at_227 ?_
          refine g_bipush 230 rfl C X231 (63 : Int32) at_228 rfl ?_
          refine g_iand 231 rfl C X231 at_230 ?_
          refine g_ior 232 rfl C X231 at_231 ?_
          refine g_i2b 233 rfl C X231 at_232 ?_
          have hq237 : (v3 + (1 : Int32)).toInt = ((n220 + 1 : Nat) : Int) := by
            have fr238 := rng32 v3
            have fr239 := rng32 p1
            have fc240 : (3 : Int32).toInt = 3 := rfl
            have fo241 : (p1 &&& (3 : Int32)).toInt = p1.toInt % 4 := c_mask p1 (3 : Int32) 2 (by decide) (by decide)
            have fe242 : (p1 &&& (3 : Int32)).toInt = v3.toInt := congrArg Int32.toInt hv3
            have fc243 : (1 : Int32).toInt = 1 := rfl
            have fo244 := c_iadd v3 (1 : Int32)
            have fr245 := rng32 (v3 + (1 : Int32))
            omega
          obtain ⟨w246, hw246⟩ : ∃ z : Int32, ((((((128 : Int32) ||| ((v1 >>> ((6 : Int32) &&& 31)) &&& (63 : Int32)))).toInt8.toInt32)).toInt8.toInt32) = z := ⟨_, rfl⟩
          refine g_bastore 234 rfl C X231 e232 B234 (n220 + 1) hq237 (by omega) w246 hw246 at_233 N235 gn12 fun T247 h248 ls249 X250 e251 W252 B253 N254 => ?_
          have Zs255 := Nat.le_trans Zs236 (Nat.le_of_eq W252.size.symm)
          refine g_aload 236 rfl C X250 at_234 rfl rfl ?_
          refine g_iload 238 rfl C X250 at_236 rfl ?_
          refine g_iconst 239 rfl C X250 (2 : Int32) at_238 rfl ?_
          refine g_iadd 240 rfl C X250 at_239 ?_
          refine g_sipush 243 rfl C X250 (128 : Int32) at_240 rfl ?_
          refine g_iload 245 rfl C X250 at_243 rfl ?_
          refine g_bipush 247 rfl C X250 (63 : Int32) at_245 rfl ?_
          refine g_iand 248 rfl C X250 at_247 ?_
          refine g_ior 249 rfl C X250 at_248 ?_
          refine g_i2b 250 rfl C X250 at_249 ?_
          have hq256 : (v3 + (2 : Int32)).toInt = ((n220 + 2 : Nat) : Int) := by
            have fr257 := rng32 v3
            have fr258 := rng32 p1
            have fc259 : (3 : Int32).toInt = 3 := rfl
            have fo260 : (p1 &&& (3 : Int32)).toInt = p1.toInt % 4 := c_mask p1 (3 : Int32) 2 (by decide) (by decide)
            have fe261 : (p1 &&& (3 : Int32)).toInt = v3.toInt := congrArg Int32.toInt hv3
            have fc262 : (2 : Int32).toInt = 2 := rfl
            have fo263 := c_iadd v3 (2 : Int32)
            have fr264 := rng32 (v3 + (2 : Int32))
            omega
          obtain ⟨w265, hw265⟩ : ∃ z : Int32, ((((((128 : Int32) ||| (v1 &&& (63 : Int32)))).toInt8.toInt32)).toInt8.toInt32) = z := ⟨_, rfl⟩
          refine g_bastore 251 rfl C X250 e251 B253 (n220 + 2) hq256 (by omega) w265 hw265 at_250 N254 gn12 fun T266 h267 ls268 X269 e270 W271 B272 N273 => ?_
          have Zs274 := Nat.le_trans Zs255 (Nat.le_of_eq W271.size.symm)
          refine g_goto 329 C X269 at_251 (by decide) (by decide) ?_
          refine g_aload 331 rfl C X269 at_329 rfl rfl ?_
          refine g_iload 333 rfl C X269 at_331 rfl ?_
          refine g_iload 335 rfl C X269 at_333 rfl ?_
          refine g_callS 338 rfl C X269 (argsL := [(.ref o6), (.int v3), (.int (3 : Int32))]) (hw _ (List.mem_of_getElem? (i := 4) rfl)) (hw _ (List.mem_of_getElem? (i := 5) rfl)) (hw _ (List.mem_of_getElem? (i := 7) rfl)) (hw _ (List.mem_of_getElem? (i := 6) rfl)) e270 (rm1_3 l Z a0 hw [] o6 v3 (upd (upd (upd f94 (n220) w227) (n220 + 1) w246) (n220 + 2) w265) n220 w227 w246 w265 h267 n0 Zs274 B272 hn220 (by omega) (by omega) ((upd_ne (by omega)).trans ((upd_ne (by omega)).trans (upd_same (by omega)))) ((upd_ne (by omega)).trans (upd_same (by omega))) (upd_same (by omega))) (lenOf pd_14998784 rfl) (by decide) (by decide) (by decide) (by decide) rfl (W := 0) (Nat.le_of_eq rfl) (by decide) at_335 rfl fun r275 T276 Lc277 X278 hQ279 => ?_
          obtain ⟨r280, rfl, hs281, Nq282, eh283⟩ := hQ279
          have N284 := Fr.app N273 Nq282
          show Goes _ _ _ _ _ _ 338 _ [(.int r280)]
          refine g_iload 340 rfl C X278 at_338 rfl ?_
          have hq286 : r280.toInt = v1.toInt := by
            have fr287 := rng32 r280
            have fr288 := rng32 v1
            have fr289 := rng32 p0
            have fc290 : (2147483647 : Int32).toInt = 2147483647 := rfl
            have fo291 : (p0 &&& (2147483647 : Int32)).toInt = p0.toInt % 2147483648 := c_mask p0 (2147483647 : Int32) 31 (by decide) (by decide)
            have fc292 : (1114112 : Int32).toInt = 1114112 := rfl
            have fo293 := c_irem (p0 &&& (2147483647 : Int32)) (1114112 : Int32) 1114112 rfl
            have fr294 := rng32 ((p0 &&& (2147483647 : Int32)) % (1114112 : Int32))
            have fe295 : ((p0 &&& (2147483647 : Int32)) % (1114112 : Int32)).toInt = v1.toInt := congrArg Int32.toInt hv1
            have fc296 : (55296 : Int32).toInt = 55296 := rfl
            have fc297 : (128 : Int32).toInt = 128 := rfl
            have fc298 : (2048 : Int32).toInt = 2048 := rfl
            have fc299 : (65536 : Int32).toInt = 65536 := rfl
            have fr300 := rng32 w227
            have fc301 : (224 : Int32).toInt = 224 := rfl
            have fc302 : (12 : Int32).toInt = 12 := rfl
            have fo303 : ((v1 >>> ((12 : Int32) &&& 31))).toInt = v1.toInt / 4096 := c_ishr v1 (12 : Int32) 12 (by decide)
            have fo304 := c_or (224 : Int32) (v1 >>> ((12 : Int32) &&& 31)) 5 (by decide) 32 (by decide) (by omega) (by omega) (by omega)
            have fr305 := rng32 ((224 : Int32) ||| (v1 >>> ((12 : Int32) &&& 31)))
            have fo306 := c_i2b ((224 : Int32) ||| (v1 >>> ((12 : Int32) &&& 31)))
            have fo307 := c_i2b ((((224 : Int32) ||| (v1 >>> ((12 : Int32) &&& 31)))).toInt8.toInt32)
            have fe308 : ((((((224 : Int32) ||| (v1 >>> ((12 : Int32) &&& 31)))).toInt8.toInt32)).toInt8.toInt32).toInt = w227.toInt := congrArg Int32.toInt hw227
            have fr309 := rng32 w246
            have fc310 : (6 : Int32).toInt = 6 := rfl
            have fo311 : ((v1 >>> ((6 : Int32) &&& 31))).toInt = v1.toInt / 64 := c_ishr v1 (6 : Int32) 6 (by decide)
            have fc312 : (63 : Int32).toInt = 63 := rfl
            have fo313 : ((v1 >>> ((6 : Int32) &&& 31)) &&& (63 : Int32)).toInt = (v1 >>> ((6 : Int32) &&& 31)).toInt % 64 := c_mask (v1 >>> ((6 : Int32) &&& 31)) (63 : Int32) 6 (by decide) (by decide)
            have fo314 := c_or (128 : Int32) ((v1 >>> ((6 : Int32) &&& 31)) &&& (63 : Int32)) 7 (by decide) 128 (by decide) (by omega) (by omega) (by omega)
            have fr315 := rng32 ((128 : Int32) ||| ((v1 >>> ((6 : Int32) &&& 31)) &&& (63 : Int32)))
            have fo316 := c_i2b ((128 : Int32) ||| ((v1 >>> ((6 : Int32) &&& 31)) &&& (63 : Int32)))
            have fo317 := c_i2b ((((128 : Int32) ||| ((v1 >>> ((6 : Int32) &&& 31)) &&& (63 : Int32)))).toInt8.toInt32)
            have fe318 : ((((((128 : Int32) ||| ((v1 >>> ((6 : Int32) &&& 31)) &&& (63 : Int32)))).toInt8.toInt32)).toInt8.toInt32).toInt = w246.toInt := congrArg Int32.toInt hw246
            have fr319 := rng32 w265
            have fo320 : (v1 &&& (63 : Int32)).toInt = v1.toInt % 64 := c_mask v1 (63 : Int32) 6 (by decide) (by decide)
            have fo321 := c_or (128 : Int32) (v1 &&& (63 : Int32)) 7 (by decide) 128 (by decide) (by omega) (by omega) (by omega)
            have fr322 := rng32 ((128 : Int32) ||| (v1 &&& (63 : Int32)))
            have fo323 := c_i2b ((128 : Int32) ||| (v1 &&& (63 : Int32)))
            have fo324 := c_i2b ((((128 : Int32) ||| (v1 &&& (63 : Int32)))).toInt8.toInt32)
            have fe325 : ((((((128 : Int32) ||| (v1 &&& (63 : Int32)))).toInt8.toInt32)).toInt8.toInt32).toInt = w265.toInt := congrArg Int32.toInt hw265
            omega
          refine g_icmp_ne_f 343 rfl C X278 at_340 hq286 ?_
          refine g_iconst 344 rfl C X278 (1 : Int32) at_343 rfl ?_
          refine g_goto 348 C X278 at_344 (by decide) (by decide) ?_
          exact g_retN C X278 (z' := (1 : Int32)) rfl (Or.inl rfl) at_348 eh283 (by decide) (by decide) rfl ⟨rfl, N284⟩
        · skip
          refine g_icmp_ge_t 254 C X88 at_193 (by decide) (by decide) hb219 ?_
          refine g_iconst 255 rfl C X88 (4 : Int32) at_254 rfl ?_
          refine g_istore 257 rfl C X88 (4 : Int32) rfl #[.val (.int p0), .val (.int p1), .val (.long p2), .second, .val (.int v1), .val (.int v3), .val (.ref o6), .val (.int (4 : Int32))] at_255 rfl ?_
          refine g_aload 259 rfl C X88 at_257 rfl rfl ?_
          refine g_iload 261 rfl C X88 at_259 rfl ?_
          refine g_sipush 264 rfl C X88 (240 : Int32) at_261 rfl ?_
          refine g_iload 266 rfl C X88 at_264 rfl ?_
          refine g_bipush 268 rfl C X88 (18 : Int32) at_266 rfl ?_
          refine g_ishr 269 rfl C X88 at_268 ?_
          refine g_ior 270 rfl C X88 at_269 ?_
          refine g_i2b 271 rfl C X88 at_270 ?_
          have hq327 : 0 ≤ v3.toInt ∧ v3.toInt ≤ 3 := by
            have fr328 := rng32 v3
            have fr329 := rng32 p1
            have fc330 : (3 : Int32).toInt = 3 := rfl
            have fo331 : (p1 &&& (3 : Int32)).toInt = p1.toInt % 4 := c_mask p1 (3 : Int32) 2 (by decide) (by decide)
            have fe332 : (p1 &&& (3 : Int32)).toInt = v3.toInt := congrArg Int32.toInt hv3
            omega
          obtain ⟨n326, hn326⟩ : ∃ n : Nat, v3.toInt = n := ⟨v3.toInt.toNat, by omega⟩
          have hn326m : n326 ≤ 3 := by omega
          obtain ⟨w333, hw333⟩ : ∃ z : Int32, ((((((240 : Int32) ||| (v1 >>> ((18 : Int32) &&& 31)))).toInt8.toInt32)).toInt8.toInt32) = z := ⟨_, rfl⟩
          refine g_bastore 272 rfl C X88 e89 B95 (n326) hn326 (by omega) w333 hw333 at_271 N92 gn12 fun T334 h335 ls336 X337 e338 W339 B340 N341 => ?_
          have Zs342 := Nat.le_trans Zs93 (Nat.le_of_eq W339.size.symm)
          refine g_aload 274 rfl C X337 at_272 rfl rfl ?_
          refine g_iload 276 rfl C X337 at_274 rfl ?_
          refine g_iconst 277 rfl C X337 (1 : Int32) at_276 rfl ?_
          refine g_iadd 278 rfl C X337 at_277 ?_
          refine g_sipush 281 rfl C X337 (128 : Int32) at_278 rfl ?_
          refine g_iload 283 rfl C X337 at_281 rfl ?_
          refine g_bipush 285 rfl C X337 (12 : Int32) at_283 rfl ?_
          refine g_ishr 286 rfl C X337 at_285 ?_
          refine g_bipush 288 rfl C X337 (63 : Int32) at_286 rfl ?_
          refine g_iand 289 rfl C X337 at_288 ?_
          refine g_ior 290 rfl C X337 at_289 ?_
          refine g_i2b 291 rfl C X337 at_290 ?_
          have hq343 : (v3 + (1 : Int32)).toInt = ((n326 + 1 : Nat) : Int) := by
            have fr344 := rng32 v3
            have fr345 := rng32 p1
            have fc346 : (3 : Int32).toInt = 3 := rfl
            have fo347 : (p1 &&& (3 : Int32)).toInt = p1.toInt % 4 := c_mask p1 (3 : Int32) 2 (by decide) (by decide)
            have fe348 : (p1 &&& (3 : Int32)).toInt = v3.toInt := congrArg Int32.toInt hv3
            have fc349 : (1 : Int32).toInt = 1 := rfl
            have fo350 := c_iadd v3 (1 : Int32)
            have fr351 := rng32 (v3 + (1 : Int32))
            omega
          obtain ⟨w352, hw352⟩ : ∃ z : Int32, ((((((128 : Int32) ||| ((v1 >>> ((12 : Int32) &&& 31)) &&& (63 : Int32)))).toInt8.toInt32)).toInt8.toInt32) = z := ⟨_, rfl⟩
          refine g_bastore 292 rfl C X337 e338 B340 (n326 + 1) hq343 (by omega) w352 hw352 at_291 N341 gn12 fun T353 h354 ls355 X356 e357 W358 B359 N360 => ?_
          have Zs361 := Nat.le_trans Zs342 (Nat.le_of_eq W358.size.symm)
          refine g_aload 294 rfl C X356 at_292 rfl rfl ?_
          refine g_iload 296 rfl C X356 at_294 rfl ?_
          refine g_iconst 297 rfl C X356 (2 : Int32) at_296 rfl ?_
          refine g_iadd 298 rfl C X356 at_297 ?_
          refine g_sipush 301 rfl C X356 (128 : Int32) at_298 rfl ?_
          refine g_iload 303 rfl C X356 at_301 rfl ?_
          refine g_bipush 305 rfl C X356 (6 : Int32) at_303 rfl ?_
          refine g_ishr 306 rfl C X356 at_305 ?_
          refine g_bipush 308 rfl C X356 (63 : Int32) at_306 rfl ?_
          refine g_iand 309 rfl C X356 at_308 ?_
          refine g_ior 310 rfl C X356 at_309 ?_
          refine g_i2b 311 rfl C X356 at_310 ?_
          have hq362 : (v3 + (2 : Int32)).toInt = ((n326 + 2 : Nat) : Int) := by
            have fr363 := rng32 v3
            have fr364 := rng32 p1
            have fc365 : (3 : Int32).toInt = 3 := rfl
            have fo366 : (p1 &&& (3 : Int32)).toInt = p1.toInt % 4 := c_mask p1 (3 : Int32) 2 (by decide) (by decide)
            have fe367 : (p1 &&& (3 : Int32)).toInt = v3.toInt := congrArg Int32.toInt hv3
            have fc368 : (2 : Int32).toInt = 2 := rfl
            have fo369 := c_iadd v3 (2 : Int32)
            have fr370 := rng32 (v3 + (2 : Int32))
            omega
          obtain ⟨w371, hw371⟩ : ∃ z : Int32, ((((((128 : Int32) ||| ((v1 >>> ((6 : Int32) &&& 31)) &&& (63 : Int32)))).toInt8.toInt32)).toInt8.toInt32) = z := ⟨_, rfl⟩
          refine g_bastore 312 rfl C X356 e357 B359 (n326 + 2) hq362 (by omega) w371 hw371 at_311 N360 gn12 fun T372 h373 ls374 X375 e376 W377 B378 N379 => ?_
          have Zs380 := Nat.le_trans Zs361 (Nat.le_of_eq W377.size.symm)
          refine g_aload 314 rfl C X375 at_312 rfl rfl ?_
          refine g_iload 316 rfl C X375 at_314 rfl ?_
          refine g_iconst 317 rfl C X375 (3 : Int32) at_316 rfl ?_
          refine g_iadd 318 rfl C X375 at_317 ?_
          refine g_sipush 321 rfl C X375 (128 : Int32) at_318 rfl ?_
          refine g_iload 323 rfl C X375 at_321 rfl ?_
          refine g_bipush 325 rfl C X375 (63 : Int32) at_323 rfl ?_
          refine g_iand 326 rfl C X375 at_325 ?_
          refine g_ior 327 rfl C X375 at_326 ?_
          refine g_i2b 328 rfl C X375 at_327 ?_
          have hq381 : (v3 + (3 : Int32)).toInt = ((n326 + 3 : Nat) : Int) := by
            have fr382 := rng32 v3
            have fr383 := rng32 p1
            have fc384 : (3 : Int32).toInt = 3 := rfl
            have fo385 : (p1 &&& (3 : Int32)).toInt = p1.toInt % 4 := c_mask p1 (3 : Int32) 2 (by decide) (by decide)
            have fe386 : (p1 &&& (3 : Int32)).toInt = v3.toInt := congrArg Int32.toInt hv3
            have fo387 := c_iadd v3 (3 : Int32)
            have fr388 := rng32 (v3 + (3 : Int32))
            omega
          obtain ⟨w389, hw389⟩ : ∃ z : Int32, ((((((128 : Int32) ||| (v1 &&& (63 : Int32)))).toInt8.toInt32)).toInt8.toInt32) = z := ⟨_, rfl⟩
          refine g_bastore 329 rfl C X375 e376 B378 (n326 + 3) hq381 (by omega) w389 hw389 at_328 N379 gn12 fun T390 h391 ls392 X393 e394 W395 B396 N397 => ?_
          have Zs398 := Nat.le_trans Zs380 (Nat.le_of_eq W395.size.symm)
          refine g_aload 331 rfl C X393 at_329 rfl rfl ?_
          refine g_iload 333 rfl C X393 at_331 rfl ?_
          refine g_iload 335 rfl C X393 at_333 rfl ?_
          refine g_callS 338 rfl C X393 (argsL := [(.ref o6), (.int v3), (.int (4 : Int32))]) (hw _ (List.mem_of_getElem? (i := 4) rfl)) (hw _ (List.mem_of_getElem? (i := 5) rfl)) (hw _ (List.mem_of_getElem? (i := 7) rfl)) (hw _ (List.mem_of_getElem? (i := 6) rfl)) e394 (rm1_4 l Z a0 hw [] o6 v3 (upd (upd (upd (upd f94 (n326) w333) (n326 + 1) w352) (n326 + 2) w371) (n326 + 3) w389) n326 w333 w352 w371 w389 h391 n0 Zs398 B396 hn326 (by omega) (by omega) ((upd_ne (by omega)).trans ((upd_ne (by omega)).trans ((upd_ne (by omega)).trans (upd_same (by omega))))) ((upd_ne (by omega)).trans ((upd_ne (by omega)).trans (upd_same (by omega)))) ((upd_ne (by omega)).trans (upd_same (by omega))) (upd_same (by omega))) (lenOf pd_14998784 rfl) (by decide) (by decide) (by decide) (by decide) rfl (W := 0) (Nat.le_of_eq rfl) (by decide) at_335 rfl fun r399 T400 Lc401 X402 hQ403 => ?_
          obtain ⟨r404, rfl, hs405, Nq406, eh407⟩ := hQ403
          have N408 := Fr.app N397 Nq406
          show Goes _ _ _ _ _ _ 338 _ [(.int r404)]
          refine g_iload 340 rfl C X402 at_338 rfl ?_
          have hq410 : r404.toInt = v1.toInt := by
            have fr411 := rng32 r404
            have fr412 := rng32 v1
            have fr413 := rng32 p0
            have fc414 : (2147483647 : Int32).toInt = 2147483647 := rfl
            have fo415 : (p0 &&& (2147483647 : Int32)).toInt = p0.toInt % 2147483648 := c_mask p0 (2147483647 : Int32) 31 (by decide) (by decide)
            have fc416 : (1114112 : Int32).toInt = 1114112 := rfl
            have fo417 := c_irem (p0 &&& (2147483647 : Int32)) (1114112 : Int32) 1114112 rfl
            have fr418 := rng32 ((p0 &&& (2147483647 : Int32)) % (1114112 : Int32))
            have fe419 : ((p0 &&& (2147483647 : Int32)) % (1114112 : Int32)).toInt = v1.toInt := congrArg Int32.toInt hv1
            have fc420 : (55296 : Int32).toInt = 55296 := rfl
            have fc421 : (128 : Int32).toInt = 128 := rfl
            have fc422 : (2048 : Int32).toInt = 2048 := rfl
            have fc423 : (65536 : Int32).toInt = 65536 := rfl
            have fr424 := rng32 w333
            have fc425 : (240 : Int32).toInt = 240 := rfl
            have fc426 : (18 : Int32).toInt = 18 := rfl
            have fo427 : ((v1 >>> ((18 : Int32) &&& 31))).toInt = v1.toInt / 262144 := c_ishr v1 (18 : Int32) 18 (by decide)
            have fo428 := c_or (240 : Int32) (v1 >>> ((18 : Int32) &&& 31)) 4 (by decide) 16 (by decide) (by omega) (by omega) (by omega)
            have fr429 := rng32 ((240 : Int32) ||| (v1 >>> ((18 : Int32) &&& 31)))
            have fo430 := c_i2b ((240 : Int32) ||| (v1 >>> ((18 : Int32) &&& 31)))
            have fo431 := c_i2b ((((240 : Int32) ||| (v1 >>> ((18 : Int32) &&& 31)))).toInt8.toInt32)
            have fe432 : ((((((240 : Int32) ||| (v1 >>> ((18 : Int32) &&& 31)))).toInt8.toInt32)).toInt8.toInt32).toInt = w333.toInt := congrArg Int32.toInt hw333
            have fr433 := rng32 w352
            have fc434 : (12 : Int32).toInt = 12 := rfl
            have fo435 : ((v1 >>> ((12 : Int32) &&& 31))).toInt = v1.toInt / 4096 := c_ishr v1 (12 : Int32) 12 (by decide)
            have fc436 : (63 : Int32).toInt = 63 := rfl
            have fo437 : ((v1 >>> ((12 : Int32) &&& 31)) &&& (63 : Int32)).toInt = (v1 >>> ((12 : Int32) &&& 31)).toInt % 64 := c_mask (v1 >>> ((12 : Int32) &&& 31)) (63 : Int32) 6 (by decide) (by decide)
            have fo438 := c_or (128 : Int32) ((v1 >>> ((12 : Int32) &&& 31)) &&& (63 : Int32)) 7 (by decide) 128 (by decide) (by omega) (by omega) (by omega)
            have fr439 := rng32 ((128 : Int32) ||| ((v1 >>> ((12 : Int32) &&& 31)) &&& (63 : Int32)))
            have fo440 := c_i2b ((128 : Int32) ||| ((v1 >>> ((12 : Int32) &&& 31)) &&& (63 : Int32)))
            have fo441 := c_i2b ((((128 : Int32) ||| ((v1 >>> ((12 : Int32) &&& 31)) &&& (63 : Int32)))).toInt8.toInt32)
            have fe442 : ((((((128 : Int32) ||| ((v1 >>> ((12 : Int32) &&& 31)) &&& (63 : Int32)))).toInt8.toInt32)).toInt8.toInt32).toInt = w352.toInt := congrArg Int32.toInt hw352
            have fr443 := rng32 w371
            have fc444 : (6 : Int32).toInt = 6 := rfl
            have fo445 : ((v1 >>> ((6 : Int32) &&& 31))).toInt = v1.toInt / 64 := c_ishr v1 (6 : Int32) 6 (by decide)
            have fo446 : ((v1 >>> ((6 : Int32) &&& 31)) &&& (63 : Int32)).toInt = (v1 >>> ((6 : Int32) &&& 31)).toInt % 64 := c_mask (v1 >>> ((6 : Int32) &&& 31)) (63 : Int32) 6 (by decide) (by decide)
            have fo447 := c_or (128 : Int32) ((v1 >>> ((6 : Int32) &&& 31)) &&& (63 : Int32)) 7 (by decide) 128 (by decide) (by omega) (by omega) (by omega)
            have fr448 := rng32 ((128 : Int32) ||| ((v1 >>> ((6 : Int32) &&& 31)) &&& (63 : Int32)))
            have fo449 := c_i2b ((128 : Int32) ||| ((v1 >>> ((6 : Int32) &&& 31)) &&& (63 : Int32)))
            have fo450 := c_i2b ((((128 : Int32) ||| ((v1 >>> ((6 : Int32) &&& 31)) &&& (63 : Int32)))).toInt8.toInt32)
            have fe451 : ((((((128 : Int32) ||| ((v1 >>> ((6 : Int32) &&& 31)) &&& (63 : Int32)))).toInt8.toInt32)).toInt8.toInt32).toInt = w371.toInt := congrArg Int32.toInt hw371
            have fr452 := rng32 w389
            have fo453 : (v1 &&& (63 : Int32)).toInt = v1.toInt % 64 := c_mask v1 (63 : Int32) 6 (by decide) (by decide)
            have fo454 := c_or (128 : Int32) (v1 &&& (63 : Int32)) 7 (by decide) 128 (by decide) (by omega) (by omega) (by omega)
            have fr455 := rng32 ((128 : Int32) ||| (v1 &&& (63 : Int32)))
            have fo456 := c_i2b ((128 : Int32) ||| (v1 &&& (63 : Int32)))
            have fo457 := c_i2b ((((128 : Int32) ||| (v1 &&& (63 : Int32)))).toInt8.toInt32)
            have fe458 : ((((((128 : Int32) ||| (v1 &&& (63 : Int32)))).toInt8.toInt32)).toInt8.toInt32).toInt = w389.toInt := congrArg Int32.toInt hw389
            omega
          refine g_icmp_ne_f 343 rfl C X402 at_340 hq410 ?_
          refine g_iconst 344 rfl C X402 (1 : Int32) at_343 rfl ?_
          refine g_goto 348 C X402 at_344 (by decide) (by decide) ?_
          exact g_retN C X402 (z' := (1 : Int32)) rfl (Or.inl rfl) at_348 eh407 (by decide) (by decide) rfl ⟨rfl, N408⟩
  · skip
    refine g_icmp_lt_f 16 rfl C X0 at_13 hb2 ?_
    refine g_iload 18 rfl C X0 at_16 rfl ?_
    refine g_ldc 20 rfl C X0 (hw _ (List.mem_of_getElem? (i := 8) rfl)) at_18 ?_
    by_cases hb459 : (57343 : Int32).toInt < v1.toInt
    · skip
      refine g_icmp_gt_t 31 C X0 at_20 (by decide) (by decide) hb459 ?_
      refine g_iloadN 32 rfl C X0 at_31 rfl ?_
      refine g_iconst 33 rfl C X0 (3 : Int32) at_32 rfl ?_
      refine g_iand 34 rfl C X0 at_33 ?_
      obtain ⟨v460, hv460⟩ : ∃ z : Int32, (p1 &&& (3 : Int32)) = z := ⟨_, rfl⟩
      refine g_istore 36 rfl C X0 v460 hv460 #[.val (.int p0), .val (.int p1), .val (.long p2), .second, .val (.int v1), .val (.int v460), .unset, .unset] at_34 rfl ?_
      refine g_bipush 38 rfl C X0 (8 : Int32) at_36 rfl ?_
      refine g_newP 40 rfl C X0 8 (by decide) 8 (by decide) (by decide) rfl (hw _ (List.mem_of_getElem? (i := 3) rfl)) e0 at_38 (by decide) (by decide) fun T461 h462 o463 g464 X465 e466 E467 B468 => ?_
      have gn469 : n0 ≤ o463 := by rw [g464]; exact Z0
      have Zs470 := Nat.le_trans Z0 E467.1
      refine g_astore 42 rfl C X465 #[.val (.int p0), .val (.int p1), .val (.long p2), .second, .val (.int v1), .val (.int v460), .val (.ref o463), .unset] at_40 rfl rfl ?_
      refine g_aload 44 rfl C X465 at_42 rfl rfl ?_
      refine g_iconst 45 rfl C X465 (0 : Int32) at_44 rfl ?_
      refine g_lloadN 46 rfl C X465 at_45 rfl ?_
      refine g_l2i 47 rfl C X465 at_46 ?_
      refine g_i2b 48 rfl C X465 at_47 ?_
      obtain ⟨w471, hw471⟩ : ∃ z : Int32, ((((((p2).toInt32)).toInt8.toInt32)).toInt8.toInt32) = z := ⟨_, rfl⟩
      refine g_bastore 49 rfl C X465 e466 B468 0 (by decide) (by decide) w471 hw471 at_48 N0 gn469 fun T472 h473 ls474 X475 e476 W477 B478 N479 => ?_
      have Zs480 := Nat.le_trans Zs470 (Nat.le_of_eq W477.size.symm)
      refine g_aload 51 rfl C X475 at_49 rfl rfl ?_
      refine g_iconst 52 rfl C X475 (1 : Int32) at_51 rfl ?_
      refine g_lloadN 53 rfl C X475 at_52 rfl ?_
      refine g_bipush 55 rfl C X475 (8 : Int32) at_53 rfl ?_
      refine g_lushr 56 rfl C X475 at_55 ?_
      refine g_l2i 57 rfl C X475 at_56 ?_
      refine g_i2b 58 rfl C X475 at_57 ?_
      obtain ⟨w481, hw481⟩ : ∃ z : Int32, (((((((((p2).toUInt64 >>> ((8 : Int32) &&& 0x3f).toInt64.toUInt64).toInt64)).toInt32)).toInt8.toInt32)).toInt8.toInt32) = z := ⟨_, rfl⟩
      refine g_bastore 59 rfl C X475 e476 B478 1 (by decide) (by decide) w481 hw481 at_58 N479 gn469 fun T482 h483 ls484 X485 e486 W487 B488 N489 => ?_
      have Zs490 := Nat.le_trans Zs480 (Nat.le_of_eq W487.size.symm)
      refine g_aload 61 rfl C X485 at_59 rfl rfl ?_
      refine g_iconst 62 rfl C X485 (2 : Int32) at_61 rfl ?_
      refine g_lloadN 63 rfl C X485 at_62 rfl ?_
      refine g_bipush 65 rfl C X485 (16 : Int32) at_63 rfl ?_
      refine g_lushr 66 rfl C X485 at_65 ?_
      refine g_l2i 67 rfl C X485 at_66 ?_
      refine g_i2b 68 rfl C X485 at_67 ?_
      obtain ⟨w491, hw491⟩ : ∃ z : Int32, (((((((((p2).toUInt64 >>> ((16 : Int32) &&& 0x3f).toInt64.toUInt64).toInt64)).toInt32)).toInt8.toInt32)).toInt8.toInt32) = z := ⟨_, rfl⟩
      refine g_bastore 69 rfl C X485 e486 B488 2 (by decide) (by decide) w491 hw491 at_68 N489 gn469 fun T492 h493 ls494 X495 e496 W497 B498 N499 => ?_
      have Zs500 := Nat.le_trans Zs490 (Nat.le_of_eq W497.size.symm)
      refine g_aload 71 rfl C X495 at_69 rfl rfl ?_
      refine g_iconst 72 rfl C X495 (3 : Int32) at_71 rfl ?_
      refine g_lloadN 73 rfl C X495 at_72 rfl ?_
      refine g_bipush 75 rfl C X495 (24 : Int32) at_73 rfl ?_
      refine g_lushr 76 rfl C X495 at_75 ?_
      refine g_l2i 77 rfl C X495 at_76 ?_
      refine g_i2b 78 rfl C X495 at_77 ?_
      obtain ⟨w501, hw501⟩ : ∃ z : Int32, (((((((((p2).toUInt64 >>> ((24 : Int32) &&& 0x3f).toInt64.toUInt64).toInt64)).toInt32)).toInt8.toInt32)).toInt8.toInt32) = z := ⟨_, rfl⟩
      refine g_bastore 79 rfl C X495 e496 B498 3 (by decide) (by decide) w501 hw501 at_78 N499 gn469 fun T502 h503 ls504 X505 e506 W507 B508 N509 => ?_
      have Zs510 := Nat.le_trans Zs500 (Nat.le_of_eq W507.size.symm)
      refine g_aload 81 rfl C X505 at_79 rfl rfl ?_
      refine g_iconst 82 rfl C X505 (4 : Int32) at_81 rfl ?_
      refine g_lloadN 83 rfl C X505 at_82 rfl ?_
      refine g_bipush 85 rfl C X505 (32 : Int32) at_83 rfl ?_
      refine g_lushr 86 rfl C X505 at_85 ?_
      refine g_l2i 87 rfl C X505 at_86 ?_
      refine g_i2b 88 rfl C X505 at_87 ?_
      obtain ⟨w511, hw511⟩ : ∃ z : Int32, (((((((((p2).toUInt64 >>> ((32 : Int32) &&& 0x3f).toInt64.toUInt64).toInt64)).toInt32)).toInt8.toInt32)).toInt8.toInt32) = z := ⟨_, rfl⟩
      refine g_bastore 89 rfl C X505 e506 B508 4 (by decide) (by decide) w511 hw511 at_88 N509 gn469 fun T512 h513 ls514 X515 e516 W517 B518 N519 => ?_
      have Zs520 := Nat.le_trans Zs510 (Nat.le_of_eq W517.size.symm)
      refine g_aload 91 rfl C X515 at_89 rfl rfl ?_
      refine g_iconst 92 rfl C X515 (5 : Int32) at_91 rfl ?_
      refine g_lloadN 93 rfl C X515 at_92 rfl ?_
      refine g_bipush 95 rfl C X515 (40 : Int32) at_93 rfl ?_
      refine g_lushr 96 rfl C X515 at_95 ?_
      refine g_l2i 97 rfl C X515 at_96 ?_
      refine g_i2b 98 rfl C X515 at_97 ?_
      obtain ⟨w521, hw521⟩ : ∃ z : Int32, (((((((((p2).toUInt64 >>> ((40 : Int32) &&& 0x3f).toInt64.toUInt64).toInt64)).toInt32)).toInt8.toInt32)).toInt8.toInt32) = z := ⟨_, rfl⟩
      refine g_bastore 99 rfl C X515 e516 B518 5 (by decide) (by decide) w521 hw521 at_98 N519 gn469 fun T522 h523 ls524 X525 e526 W527 B528 N529 => ?_
      have Zs530 := Nat.le_trans Zs520 (Nat.le_of_eq W527.size.symm)
      refine g_aload 101 rfl C X525 at_99 rfl rfl ?_
      refine g_bipush 103 rfl C X525 (6 : Int32) at_101 rfl ?_
      refine g_lloadN 104 rfl C X525 at_103 rfl ?_
      refine g_bipush 106 rfl C X525 (48 : Int32) at_104 rfl ?_
      refine g_lushr 107 rfl C X525 at_106 ?_
      refine g_l2i 108 rfl C X525 at_107 ?_
      refine g_i2b 109 rfl C X525 at_108 ?_
      obtain ⟨w531, hw531⟩ : ∃ z : Int32, (((((((((p2).toUInt64 >>> ((48 : Int32) &&& 0x3f).toInt64.toUInt64).toInt64)).toInt32)).toInt8.toInt32)).toInt8.toInt32) = z := ⟨_, rfl⟩
      refine g_bastore 110 rfl C X525 e526 B528 6 (by decide) (by decide) w531 hw531 at_109 N529 gn469 fun T532 h533 ls534 X535 e536 W537 B538 N539 => ?_
      have Zs540 := Nat.le_trans Zs530 (Nat.le_of_eq W537.size.symm)
      refine g_aload 112 rfl C X535 at_110 rfl rfl ?_
      refine g_bipush 114 rfl C X535 (7 : Int32) at_112 rfl ?_
      refine g_lloadN 115 rfl C X535 at_114 rfl ?_
      refine g_bipush 117 rfl C X535 (56 : Int32) at_115 rfl ?_
      refine g_lushr 118 rfl C X535 at_117 ?_
      refine g_l2i 119 rfl C X535 at_118 ?_
      refine g_i2b 120 rfl C X535 at_119 ?_
      obtain ⟨w541, hw541⟩ : ∃ z : Int32, (((((((((p2).toUInt64 >>> ((56 : Int32) &&& 0x3f).toInt64.toUInt64).toInt64)).toInt32)).toInt8.toInt32)).toInt8.toInt32) = z := ⟨_, rfl⟩
      refine g_bastore 121 rfl C X535 e536 B538 7 (by decide) (by decide) w541 hw541 at_120 N539 gn469 fun T542 h543 ls544 X545 e546 W547 B548 N549 => ?_
      have Zs550 := Nat.le_trans Zs540 (Nat.le_of_eq W547.size.symm)
      obtain ⟨f551, B552⟩ : ∃ f, Ba Z h543 o463 .byte 8 f := ⟨_, B548⟩
      refine g_iload 123 rfl C X545 at_121 rfl ?_
      refine g_sipush 126 rfl C X545 (128 : Int32) at_123 rfl ?_
      by_cases hb553 : v1.toInt < (128 : Int32).toInt
      · skip
        refine g_icmp_ge_f 129 rfl C X545 at_126 hb553 ?_
        refine g_iconst 130 rfl C X545 (1 : Int32) at_129 rfl ?_
        refine g_istore 132 rfl C X545 (1 : Int32) rfl #[.val (.int p0), .val (.int p1), .val (.long p2), .second, .val (.int v1), .val (.int v460), .val (.ref o463), .val (.int (1 : Int32))] at_130 rfl ?_
        refine g_aload 134 rfl C X545 at_132 rfl rfl ?_
        refine g_iload 136 rfl C X545 at_134 rfl ?_
        refine g_iload 138 rfl C X545 at_136 rfl ?_
        refine g_i2b 139 rfl C X545 at_138 ?_
        have hq555 : 0 ≤ v460.toInt ∧ v460.toInt ≤ 3 := by
          have fr556 := rng32 v460
          have fr557 := rng32 p1
          have fc558 : (3 : Int32).toInt = 3 := rfl
          have fo559 : (p1 &&& (3 : Int32)).toInt = p1.toInt % 4 := c_mask p1 (3 : Int32) 2 (by decide) (by decide)
          have fe560 : (p1 &&& (3 : Int32)).toInt = v460.toInt := congrArg Int32.toInt hv460
          omega
        obtain ⟨n554, hn554⟩ : ∃ n : Nat, v460.toInt = n := ⟨v460.toInt.toNat, by omega⟩
        have hn554m : n554 ≤ 3 := by omega
        obtain ⟨w561, hw561⟩ : ∃ z : Int32, ((((v1).toInt8.toInt32)).toInt8.toInt32) = z := ⟨_, rfl⟩
        refine g_bastore 140 rfl C X545 e546 B552 (n554) hn554 (by omega) w561 hw561 at_139 N549 gn469 fun T562 h563 ls564 X565 e566 W567 B568 N569 => ?_
        have Zs570 := Nat.le_trans Zs550 (Nat.le_of_eq W567.size.symm)
        refine g_goto 329 C X565 at_140 (by decide) (by decide) ?_
        refine g_aload 331 rfl C X565 at_329 rfl rfl ?_
        refine g_iload 333 rfl C X565 at_331 rfl ?_
        refine g_iload 335 rfl C X565 at_333 rfl ?_
        refine g_callS 338 rfl C X565 (argsL := [(.ref o463), (.int v460), (.int (1 : Int32))]) (hw _ (List.mem_of_getElem? (i := 4) rfl)) (hw _ (List.mem_of_getElem? (i := 5) rfl)) (hw _ (List.mem_of_getElem? (i := 7) rfl)) (hw _ (List.mem_of_getElem? (i := 6) rfl)) e566 (rm1_1 l Z a0 hw [] o463 v460 (upd f551 (n554) w561) n554 w561 h563 n0 Zs570 B568 hn554 (by omega) (by omega) (upd_same (by omega))) (lenOf pd_14998784 rfl) (by decide) (by decide) (by decide) (by decide) rfl (W := 0) (Nat.le_of_eq rfl) (by decide) at_335 rfl fun r571 T572 Lc573 X574 hQ575 => ?_
        obtain ⟨r576, rfl, hs577, Nq578, eh579⟩ := hQ575
        have N580 := Fr.app N569 Nq578
        show Goes _ _ _ _ _ _ 338 _ [(.int r576)]
        refine g_iload 340 rfl C X574 at_338 rfl ?_
        have hq582 : r576.toInt = v1.toInt := by
          have fr583 := rng32 r576
          have fr584 := rng32 v1
          have fr585 := rng32 p0
          have fc586 : (2147483647 : Int32).toInt = 2147483647 := rfl
          have fo587 : (p0 &&& (2147483647 : Int32)).toInt = p0.toInt % 2147483648 := c_mask p0 (2147483647 : Int32) 31 (by decide) (by decide)
          have fc588 : (1114112 : Int32).toInt = 1114112 := rfl
          have fo589 := c_irem (p0 &&& (2147483647 : Int32)) (1114112 : Int32) 1114112 rfl
          have fr590 := rng32 ((p0 &&& (2147483647 : Int32)) % (1114112 : Int32))
          have fe591 : ((p0 &&& (2147483647 : Int32)) % (1114112 : Int32)).toInt = v1.toInt := congrArg Int32.toInt hv1
          have fc592 : (55296 : Int32).toInt = 55296 := rfl
          have fc593 : (57343 : Int32).toInt = 57343 := rfl
          have fc594 : (128 : Int32).toInt = 128 := rfl
          have fr595 := rng32 w561
          have fo596 := c_i2b v1
          have fo597 := c_i2b ((v1).toInt8.toInt32)
          have fe598 : ((((v1).toInt8.toInt32)).toInt8.toInt32).toInt = w561.toInt := congrArg Int32.toInt hw561
          omega
        refine g_icmp_ne_f 343 rfl C X574 at_340 hq582 ?_
        refine g_iconst 344 rfl C X574 (1 : Int32) at_343 rfl ?_
        refine g_goto 348 C X574 at_344 (by decide) (by decide) ?_
        exact g_retN C X574 (z' := (1 : Int32)) rfl (Or.inl rfl) at_348 eh579 (by decide) (by decide) rfl ⟨rfl, N580⟩
      · skip
        refine g_icmp_ge_t 143 C X545 at_126 (by decide) (by decide) hb553 ?_
        refine g_iload 145 rfl C X545 at_143 rfl ?_
        refine g_sipush 148 rfl C X545 (2048 : Int32) at_145 rfl ?_
        by_cases hb599 : v1.toInt < (2048 : Int32).toInt
        · skip
          refine g_icmp_ge_f 151 rfl C X545 at_148 hb599 ?_
          refine g_iconst 152 rfl C X545 (2 : Int32) at_151 rfl ?_
          refine g_istore 154 rfl C X545 (2 : Int32) rfl #[.val (.int p0), .val (.int p1), .val (.long p2), .second, .val (.int v1), .val (.int v460), .val (.ref o463), .val (.int (2 : Int32))] at_152 rfl ?_
          refine g_aload 156 rfl C X545 at_154 rfl rfl ?_
          refine g_iload 158 rfl C X545 at_156 rfl ?_
          refine g_sipush 161 rfl C X545 (192 : Int32) at_158 rfl ?_
          refine g_iload 163 rfl C X545 at_161 rfl ?_
          refine g_bipush 165 rfl C X545 (6 : Int32) at_163 rfl ?_
          refine g_ishr 166 rfl C X545 at_165 ?_
          refine g_ior 167 rfl C X545 at_166 ?_
          refine g_i2b 168 rfl C X545 at_167 ?_
          have hq601 : 0 ≤ v460.toInt ∧ v460.toInt ≤ 3 := by
            have fr602 := rng32 v460
            have fr603 := rng32 p1
            have fc604 : (3 : Int32).toInt = 3 := rfl
            have fo605 : (p1 &&& (3 : Int32)).toInt = p1.toInt % 4 := c_mask p1 (3 : Int32) 2 (by decide) (by decide)
            have fe606 : (p1 &&& (3 : Int32)).toInt = v460.toInt := congrArg Int32.toInt hv460
            omega
          obtain ⟨n600, hn600⟩ : ∃ n : Nat, v460.toInt = n := ⟨v460.toInt.toNat, by omega⟩
          have hn600m : n600 ≤ 3 := by omega
          obtain ⟨w607, hw607⟩ : ∃ z : Int32, ((((((192 : Int32) ||| (v1 >>> ((6 : Int32) &&& 31)))).toInt8.toInt32)).toInt8.toInt32) = z := ⟨_, rfl⟩
          refine g_bastore 169 rfl C X545 e546 B552 (n600) hn600 (by omega) w607 hw607 at_168 N549 gn469 fun T608 h609 ls610 X611 e612 W613 B614 N615 => ?_
          have Zs616 := Nat.le_trans Zs550 (Nat.le_of_eq W613.size.symm)
          refine g_aload 171 rfl C X611 at_169 rfl rfl ?_
          refine g_iload 173 rfl C X611 at_171 rfl ?_
          refine g_iconst 174 rfl C X611 (1 : Int32) at_173 rfl ?_
          refine g_iadd 175 rfl C X611 at_174 ?_
          refine g_sipush 178 rfl C X611 (128 : Int32) at_175 rfl ?_
          refine g_iload 180 rfl C X611 at_178 rfl ?_
          refine g_bipush 182 rfl C X611 (63 : Int32) at_180 rfl ?_
          refine g_iand 183 rfl C X611 at_182 ?_
          refine g_ior 184 rfl C X611 at_183 ?_
          refine g_i2b 185 rfl C X611 at_184 ?_
          have hq617 : (v460 + (1 : Int32)).toInt = ((n600 + 1 : Nat) : Int) := by
            have fr618 := rng32 v460
            have fr619 := rng32 p1
            have fc620 : (3 : Int32).toInt = 3 := rfl
            have fo621 : (p1 &&& (3 : Int32)).toInt = p1.toInt % 4 := c_mask p1 (3 : Int32) 2 (by decide) (by decide)
            have fe622 : (p1 &&& (3 : Int32)).toInt = v460.toInt := congrArg Int32.toInt hv460
            have fc623 : (1 : Int32).toInt = 1 := rfl
            have fo624 := c_iadd v460 (1 : Int32)
            have fr625 := rng32 (v460 + (1 : Int32))
            omega
          obtain ⟨w626, hw626⟩ : ∃ z : Int32, ((((((128 : Int32) ||| (v1 &&& (63 : Int32)))).toInt8.toInt32)).toInt8.toInt32) = z := ⟨_, rfl⟩
          refine g_bastore 186 rfl C X611 e612 B614 (n600 + 1) hq617 (by omega) w626 hw626 at_185 N615 gn469 fun T627 h628 ls629 X630 e631 W632 B633 N634 => ?_
          have Zs635 := Nat.le_trans Zs616 (Nat.le_of_eq W632.size.symm)
          refine g_goto 329 C X630 at_186 (by decide) (by decide) ?_
          refine g_aload 331 rfl C X630 at_329 rfl rfl ?_
          refine g_iload 333 rfl C X630 at_331 rfl ?_
          refine g_iload 335 rfl C X630 at_333 rfl ?_
          refine g_callS 338 rfl C X630 (argsL := [(.ref o463), (.int v460), (.int (2 : Int32))]) (hw _ (List.mem_of_getElem? (i := 4) rfl)) (hw _ (List.mem_of_getElem? (i := 5) rfl)) (hw _ (List.mem_of_getElem? (i := 7) rfl)) (hw _ (List.mem_of_getElem? (i := 6) rfl)) e631 (rm1_2 l Z a0 hw [] o463 v460 (upd (upd f551 (n600) w607) (n600 + 1) w626) n600 w607 w626 h628 n0 Zs635 B633 hn600 (by omega) (by omega) ((upd_ne (by omega)).trans (upd_same (by omega))) (upd_same (by omega))) (lenOf pd_14998784 rfl) (by decide) (by decide) (by decide) (by decide) rfl (W := 0) (Nat.le_of_eq rfl) (by decide) at_335 rfl fun r636 T637 Lc638 X639 hQ640 => ?_
          obtain ⟨r641, rfl, hs642, Nq643, eh644⟩ := hQ640
          have N645 := Fr.app N634 Nq643
          show Goes _ _ _ _ _ _ 338 _ [(.int r641)]
          refine g_iload 340 rfl C X639 at_338 rfl ?_
          have hq647 : r641.toInt = v1.toInt := by
            have fr648 := rng32 r641
            have fr649 := rng32 v1
            have fr650 := rng32 p0
            have fc651 : (2147483647 : Int32).toInt = 2147483647 := rfl
            have fo652 : (p0 &&& (2147483647 : Int32)).toInt = p0.toInt % 2147483648 := c_mask p0 (2147483647 : Int32) 31 (by decide) (by decide)
            have fc653 : (1114112 : Int32).toInt = 1114112 := rfl
            have fo654 := c_irem (p0 &&& (2147483647 : Int32)) (1114112 : Int32) 1114112 rfl
            have fr655 := rng32 ((p0 &&& (2147483647 : Int32)) % (1114112 : Int32))
            have fe656 : ((p0 &&& (2147483647 : Int32)) % (1114112 : Int32)).toInt = v1.toInt := congrArg Int32.toInt hv1
            have fc657 : (55296 : Int32).toInt = 55296 := rfl
            have fc658 : (57343 : Int32).toInt = 57343 := rfl
            have fc659 : (128 : Int32).toInt = 128 := rfl
            have fc660 : (2048 : Int32).toInt = 2048 := rfl
            have fr661 := rng32 w607
            have fc662 : (192 : Int32).toInt = 192 := rfl
            have fc663 : (6 : Int32).toInt = 6 := rfl
            have fo664 : ((v1 >>> ((6 : Int32) &&& 31))).toInt = v1.toInt / 64 := c_ishr v1 (6 : Int32) 6 (by decide)
            have fo665 := c_or (192 : Int32) (v1 >>> ((6 : Int32) &&& 31)) 6 (by decide) 64 (by decide) (by omega) (by omega) (by omega)
            have fr666 := rng32 ((192 : Int32) ||| (v1 >>> ((6 : Int32) &&& 31)))
            have fo667 := c_i2b ((192 : Int32) ||| (v1 >>> ((6 : Int32) &&& 31)))
            have fo668 := c_i2b ((((192 : Int32) ||| (v1 >>> ((6 : Int32) &&& 31)))).toInt8.toInt32)
            have fe669 : ((((((192 : Int32) ||| (v1 >>> ((6 : Int32) &&& 31)))).toInt8.toInt32)).toInt8.toInt32).toInt = w607.toInt := congrArg Int32.toInt hw607
            have fr670 := rng32 w626
            have fc671 : (63 : Int32).toInt = 63 := rfl
            have fo672 : (v1 &&& (63 : Int32)).toInt = v1.toInt % 64 := c_mask v1 (63 : Int32) 6 (by decide) (by decide)
            have fo673 := c_or (128 : Int32) (v1 &&& (63 : Int32)) 7 (by decide) 128 (by decide) (by omega) (by omega) (by omega)
            have fr674 := rng32 ((128 : Int32) ||| (v1 &&& (63 : Int32)))
            have fo675 := c_i2b ((128 : Int32) ||| (v1 &&& (63 : Int32)))
            have fo676 := c_i2b ((((128 : Int32) ||| (v1 &&& (63 : Int32)))).toInt8.toInt32)
            have fe677 : ((((((128 : Int32) ||| (v1 &&& (63 : Int32)))).toInt8.toInt32)).toInt8.toInt32).toInt = w626.toInt := congrArg Int32.toInt hw626
            omega
          refine g_icmp_ne_f 343 rfl C X639 at_340 hq647 ?_
          refine g_iconst 344 rfl C X639 (1 : Int32) at_343 rfl ?_
          refine g_goto 348 C X639 at_344 (by decide) (by decide) ?_
          exact g_retN C X639 (z' := (1 : Int32)) rfl (Or.inl rfl) at_348 eh644 (by decide) (by decide) rfl ⟨rfl, N645⟩
        · skip
          refine g_icmp_ge_t 189 C X545 at_148 (by decide) (by decide) hb599 ?_
          refine g_iload 191 rfl C X545 at_189 rfl ?_
          refine g_ldc 193 rfl C X545 (hw _ (List.mem_of_getElem? (i := 9) rfl)) at_191 ?_
          by_cases hb678 : v1.toInt < (65536 : Int32).toInt
          · skip
            refine g_icmp_ge_f 196 rfl C X545 at_193 hb678 ?_
            refine g_iconst 197 rfl C X545 (3 : Int32) at_196 rfl ?_
            refine g_istore 199 rfl C X545 (3 : Int32) rfl #[.val (.int p0), .val (.int p1), .val (.long p2), .second, .val (.int v1), .val (.int v460), .val (.ref o463), .val (.int (3 : Int32))] at_197 rfl ?_
            refine g_aload 201 rfl C X545 at_199 rfl rfl ?_
            refine g_iload 203 rfl C X545 at_201 rfl ?_
            refine g_sipush 206 rfl C X545 (224 : Int32) at_203 rfl ?_
            refine g_iload 208 rfl C X545 at_206 rfl ?_
            refine g_bipush 210 rfl C X545 (12 : Int32) at_208 rfl ?_
            refine g_ishr 211 rfl C X545 at_210 ?_
            refine g_ior 212 rfl C X545 at_211 ?_
            refine g_i2b 213 rfl C X545 at_212 ?_
            have hq680 : 0 ≤ v460.toInt ∧ v460.toInt ≤ 3 := by
              have fr681 := rng32 v460
              have fr682 := rng32 p1
              have fc683 : (3 : Int32).toInt = 3 := rfl
              have fo684 : (p1 &&& (3 : Int32)).toInt = p1.toInt % 4 := c_mask p1 (3 : Int32) 2 (by decide) (by decide)
              have fe685 : (p1 &&& (3 : Int32)).toInt = v460.toInt := congrArg Int32.toInt hv460
              omega
            obtain ⟨n679, hn679⟩ : ∃ n : Nat, v460.toInt = n := ⟨v460.toInt.toNat, by omega⟩
            have hn679m : n679 ≤ 3 := by omega
            obtain ⟨w686, hw686⟩ : ∃ z : Int32, ((((((224 : Int32) ||| (v1 >>> ((12 : Int32) &&& 31)))).toInt8.toInt32)).toInt8.toInt32) = z := ⟨_, rfl⟩
            refine g_bastore 214 rfl C X545 e546 B552 (n679) hn679 (by omega) w686 hw686 at_213 N549 gn469 fun T687 h688 ls689 X690 e691 W692 B693 N694 => ?_
            have Zs695 := Nat.le_trans Zs550 (Nat.le_of_eq W692.size.symm)
            refine g_aload 216 rfl C X690 at_214 rfl rfl ?_
            refine g_iload 218 rfl C X690 at_216 rfl ?_
            refine g_iconst 219 rfl C X690 (1 : Int32) at_218 rfl ?_
            refine g_iadd 220 rfl C X690 at_219 ?_
            refine g_sipush 223 rfl C X690 (128 : Int32) at_220 rfl ?_
            refine g_iload 225 rfl C X690 at_223 rfl ?_
            refine g_bipush 227 rfl C X690 (6 : Int32) at_225 rfl ?_
            refine g_ishr 228 rfl C X690 at_227 ?_
            refine g_bipush 230 rfl C X690 (63 : Int32) at_228 rfl ?_
            refine g_iand 231 rfl C X690 at_230 ?_
            refine g_ior 232 rfl C X690 at_231 ?_
            refine g_i2b 233 rfl C X690 at_232 ?_
            have hq696 : (v460 + (1 : Int32)).toInt = ((n679 + 1 : Nat) : Int) := by
              have fr697 := rng32 v460
              have fr698 := rng32 p1
              have fc699 : (3 : Int32).toInt = 3 := rfl
              have fo700 : (p1 &&& (3 : Int32)).toInt = p1.toInt % 4 := c_mask p1 (3 : Int32) 2 (by decide) (by decide)
              have fe701 : (p1 &&& (3 : Int32)).toInt = v460.toInt := congrArg Int32.toInt hv460
              have fc702 : (1 : Int32).toInt = 1 := rfl
              have fo703 := c_iadd v460 (1 : Int32)
              have fr704 := rng32 (v460 + (1 : Int32))
              omega
            obtain ⟨w705, hw705⟩ : ∃ z : Int32, ((((((128 : Int32) ||| ((v1 >>> ((6 : Int32) &&& 31)) &&& (63 : Int32)))).toInt8.toInt32)).toInt8.toInt32) = z := ⟨_, rfl⟩
            refine g_bastore 234 rfl C X690 e691 B693 (n679 + 1) hq696 (by omega) w705 hw705 at_233 N694 gn469 fun T706 h707 ls708 X709 e710 W711 B712 N713 => ?_
            have Zs714 := Nat.le_trans Zs695 (Nat.le_of_eq W711.size.symm)
            refine g_aload 236 rfl C X709 at_234 rfl rfl ?_
            refine g_iload 238 rfl C X709 at_236 rfl ?_
            refine g_iconst 239 rfl C X709 (2 : Int32) at_238 rfl ?_
            refine g_iadd 240 rfl C X709 at_239 ?_
            refine g_sipush 243 rfl C X709 (128 : Int32) at_240 rfl ?_
            refine g_iload 245 rfl C X709 at_243 rfl ?_
            refine g_bipush 247 rfl C X709 (63 : Int32) at_245 rfl ?_
            refine g_iand 248 rfl C X709 at_247 ?_
            refine g_ior 249 rfl C X709 at_248 ?_
            refine g_i2b 250 rfl C X709 at_249 ?_
            have hq715 : (v460 + (2 : Int32)).toInt = ((n679 + 2 : Nat) : Int) := by
              have fr716 := rng32 v460
              have fr717 := rng32 p1
              have fc718 : (3 : Int32).toInt = 3 := rfl
              have fo719 : (p1 &&& (3 : Int32)).toInt = p1.toInt % 4 := c_mask p1 (3 : Int32) 2 (by decide) (by decide)
              have fe720 : (p1 &&& (3 : Int32)).toInt = v460.toInt := congrArg Int32.toInt hv460
              have fc721 : (2 : Int32).toInt = 2 := rfl
              have fo722 := c_iadd v460 (2 : Int32)
              have fr723 := rng32 (v460 + (2 : Int32))
              omega
            obtain ⟨w724, hw724⟩ : ∃ z : Int32, ((((((128 : Int32) ||| (v1 &&& (63 : Int32)))).toInt8.toInt32)).toInt8.toInt32) = z := ⟨_, rfl⟩
            refine g_bastore 251 rfl C X709 e710 B712 (n679 + 2) hq715 (by omega) w724 hw724 at_250 N713 gn469 fun T725 h726 ls727 X728 e729 W730 B731 N732 => ?_
            have Zs733 := Nat.le_trans Zs714 (Nat.le_of_eq W730.size.symm)
            refine g_goto 329 C X728 at_251 (by decide) (by decide) ?_
            refine g_aload 331 rfl C X728 at_329 rfl rfl ?_
            refine g_iload 333 rfl C X728 at_331 rfl ?_
            refine g_iload 335 rfl C X728 at_333 rfl ?_
            refine g_callS 338 rfl C X728 (argsL := [(.ref o463), (.int v460), (.int (3 : Int32))]) (hw _ (List.mem_of_getElem? (i := 4) rfl)) (hw _ (List.mem_of_getElem? (i := 5) rfl)) (hw _ (List.mem_of_getElem? (i := 7) rfl)) (hw _ (List.mem_of_getElem? (i := 6) rfl)) e729 (rm1_3 l Z a0 hw [] o463 v460 (upd (upd (upd f551 (n679) w686) (n679 + 1) w705) (n679 + 2) w724) n679 w686 w705 w724 h726 n0 Zs733 B731 hn679 (by omega) (by omega) ((upd_ne (by omega)).trans ((upd_ne (by omega)).trans (upd_same (by omega)))) ((upd_ne (by omega)).trans (upd_same (by omega))) (upd_same (by omega))) (lenOf pd_14998784 rfl) (by decide) (by decide) (by decide) (by decide) rfl (W := 0) (Nat.le_of_eq rfl) (by decide) at_335 rfl fun r734 T735 Lc736 X737 hQ738 => ?_
            obtain ⟨r739, rfl, hs740, Nq741, eh742⟩ := hQ738
            have N743 := Fr.app N732 Nq741
            show Goes _ _ _ _ _ _ 338 _ [(.int r739)]
            refine g_iload 340 rfl C X737 at_338 rfl ?_
            have hq745 : r739.toInt = v1.toInt := by
              have fr746 := rng32 r739
              have fr747 := rng32 v1
              have fr748 := rng32 p0
              have fc749 : (2147483647 : Int32).toInt = 2147483647 := rfl
              have fo750 : (p0 &&& (2147483647 : Int32)).toInt = p0.toInt % 2147483648 := c_mask p0 (2147483647 : Int32) 31 (by decide) (by decide)
              have fc751 : (1114112 : Int32).toInt = 1114112 := rfl
              have fo752 := c_irem (p0 &&& (2147483647 : Int32)) (1114112 : Int32) 1114112 rfl
              have fr753 := rng32 ((p0 &&& (2147483647 : Int32)) % (1114112 : Int32))
              have fe754 : ((p0 &&& (2147483647 : Int32)) % (1114112 : Int32)).toInt = v1.toInt := congrArg Int32.toInt hv1
              have fc755 : (55296 : Int32).toInt = 55296 := rfl
              have fc756 : (57343 : Int32).toInt = 57343 := rfl
              have fc757 : (128 : Int32).toInt = 128 := rfl
              have fc758 : (2048 : Int32).toInt = 2048 := rfl
              have fc759 : (65536 : Int32).toInt = 65536 := rfl
              have fr760 := rng32 w686
              have fc761 : (224 : Int32).toInt = 224 := rfl
              have fc762 : (12 : Int32).toInt = 12 := rfl
              have fo763 : ((v1 >>> ((12 : Int32) &&& 31))).toInt = v1.toInt / 4096 := c_ishr v1 (12 : Int32) 12 (by decide)
              have fo764 := c_or (224 : Int32) (v1 >>> ((12 : Int32) &&& 31)) 5 (by decide) 32 (by decide) (by omega) (by omega) (by omega)
              have fr765 := rng32 ((224 : Int32) ||| (v1 >>> ((12 : Int32) &&& 31)))
              have fo766 := c_i2b ((224 : Int32) ||| (v1 >>> ((12 : Int32) &&& 31)))
              have fo767 := c_i2b ((((224 : Int32) ||| (v1 >>> ((12 : Int32) &&& 31)))).toInt8.toInt32)
              have fe768 : ((((((224 : Int32) ||| (v1 >>> ((12 : Int32) &&& 31)))).toInt8.toInt32)).toInt8.toInt32).toInt = w686.toInt := congrArg Int32.toInt hw686
              have fr769 := rng32 w705
              have fc770 : (6 : Int32).toInt = 6 := rfl
              have fo771 : ((v1 >>> ((6 : Int32) &&& 31))).toInt = v1.toInt / 64 := c_ishr v1 (6 : Int32) 6 (by decide)
              have fc772 : (63 : Int32).toInt = 63 := rfl
              have fo773 : ((v1 >>> ((6 : Int32) &&& 31)) &&& (63 : Int32)).toInt = (v1 >>> ((6 : Int32) &&& 31)).toInt % 64 := c_mask (v1 >>> ((6 : Int32) &&& 31)) (63 : Int32) 6 (by decide) (by decide)
              have fo774 := c_or (128 : Int32) ((v1 >>> ((6 : Int32) &&& 31)) &&& (63 : Int32)) 7 (by decide) 128 (by decide) (by omega) (by omega) (by omega)
              have fr775 := rng32 ((128 : Int32) ||| ((v1 >>> ((6 : Int32) &&& 31)) &&& (63 : Int32)))
              have fo776 := c_i2b ((128 : Int32) ||| ((v1 >>> ((6 : Int32) &&& 31)) &&& (63 : Int32)))
              have fo777 := c_i2b ((((128 : Int32) ||| ((v1 >>> ((6 : Int32) &&& 31)) &&& (63 : Int32)))).toInt8.toInt32)
              have fe778 : ((((((128 : Int32) ||| ((v1 >>> ((6 : Int32) &&& 31)) &&& (63 : Int32)))).toInt8.toInt32)).toInt8.toInt32).toInt = w705.toInt := congrArg Int32.toInt hw705
              have fr779 := rng32 w724
              have fo780 : (v1 &&& (63 : Int32)).toInt = v1.toInt % 64 := c_mask v1 (63 : Int32) 6 (by decide) (by decide)
              have fo781 := c_or (128 : Int32) (v1 &&& (63 : Int32)) 7 (by decide) 128 (by decide) (by omega) (by omega) (by omega)
              have fr782 := rng32 ((128 : Int32) ||| (v1 &&& (63 : Int32)))
              have fo783 := c_i2b ((128 : Int32) ||| (v1 &&& (63 : Int32)))
              have fo784 := c_i2b ((((128 : Int32) ||| (v1 &&& (63 : Int32)))).toInt8.toInt32)
              have fe785 : ((((((128 : Int32) ||| (v1 &&& (63 : Int32)))).toInt8.toInt32)).toInt8.toInt32).toInt = w724.toInt := congrArg Int32.toInt hw724
              omega
            refine g_icmp_ne_f 343 rfl C X737 at_340 hq745 ?_
            refine g_iconst 344 rfl C X737 (1 : Int32) at_343 rfl ?_
            refine g_goto 348 C X737 at_344 (by decide) (by decide) ?_
            exact g_retN C X737 (z' := (1 : Int32)) rfl (Or.inl rfl) at_348 eh742 (by decide) (by decide) rfl ⟨rfl, N743⟩
          · skip
            refine g_icmp_ge_t 254 C X545 at_193 (by decide) (by decide) hb678 ?_
            refine g_iconst 255 rfl C X545 (4 : Int32) at_254 rfl ?_
            refine g_istore 257 rfl C X545 (4 : Int32) rfl #[.val (.int p0), .val (.int p1), .val (.long p2), .second, .val (.int v1), .val (.int v460), .val (.ref o463), .val (.int (4 : Int32))] at_255 rfl ?_
            refine g_aload 259 rfl C X545 at_257 rfl rfl ?_
            refine g_iload 261 rfl C X545 at_259 rfl ?_
            refine g_sipush 264 rfl C X545 (240 : Int32) at_261 rfl ?_
            refine g_iload 266 rfl C X545 at_264 rfl ?_
            refine g_bipush 268 rfl C X545 (18 : Int32) at_266 rfl ?_
            refine g_ishr 269 rfl C X545 at_268 ?_
            refine g_ior 270 rfl C X545 at_269 ?_
            refine g_i2b 271 rfl C X545 at_270 ?_
            have hq787 : 0 ≤ v460.toInt ∧ v460.toInt ≤ 3 := by
              have fr788 := rng32 v460
              have fr789 := rng32 p1
              have fc790 : (3 : Int32).toInt = 3 := rfl
              have fo791 : (p1 &&& (3 : Int32)).toInt = p1.toInt % 4 := c_mask p1 (3 : Int32) 2 (by decide) (by decide)
              have fe792 : (p1 &&& (3 : Int32)).toInt = v460.toInt := congrArg Int32.toInt hv460
              omega
            obtain ⟨n786, hn786⟩ : ∃ n : Nat, v460.toInt = n := ⟨v460.toInt.toNat, by omega⟩
            have hn786m : n786 ≤ 3 := by omega
            obtain ⟨w793, hw793⟩ : ∃ z : Int32, ((((((240 : Int32) ||| (v1 >>> ((18 : Int32) &&& 31)))).toInt8.toInt32)).toInt8.toInt32) = z := ⟨_, rfl⟩
            refine g_bastore 272 rfl C X545 e546 B552 (n786) hn786 (by omega) w793 hw793 at_271 N549 gn469 fun T794 h795 ls796 X797 e798 W799 B800 N801 => ?_
            have Zs802 := Nat.le_trans Zs550 (Nat.le_of_eq W799.size.symm)
            refine g_aload 274 rfl C X797 at_272 rfl rfl ?_
            refine g_iload 276 rfl C X797 at_274 rfl ?_
            refine g_iconst 277 rfl C X797 (1 : Int32) at_276 rfl ?_
            refine g_iadd 278 rfl C X797 at_277 ?_
            refine g_sipush 281 rfl C X797 (128 : Int32) at_278 rfl ?_
            refine g_iload 283 rfl C X797 at_281 rfl ?_
            refine g_bipush 285 rfl C X797 (12 : Int32) at_283 rfl ?_
            refine g_ishr 286 rfl C X797 at_285 ?_
            refine g_bipush 288 rfl C X797 (63 : Int32) at_286 rfl ?_
            refine g_iand 289 rfl C X797 at_288 ?_
            refine g_ior 290 rfl C X797 at_289 ?_
            refine g_i2b 291 rfl C X797 at_290 ?_
            have hq803 : (v460 + (1 : Int32)).toInt = ((n786 + 1 : Nat) : Int) := by
              have fr804 := rng32 v460
              have fr805 := rng32 p1
              have fc806 : (3 : Int32).toInt = 3 := rfl
              have fo807 : (p1 &&& (3 : Int32)).toInt = p1.toInt % 4 := c_mask p1 (3 : Int32) 2 (by decide) (by decide)
              have fe808 : (p1 &&& (3 : Int32)).toInt = v460.toInt := congrArg Int32.toInt hv460
              have fc809 : (1 : Int32).toInt = 1 := rfl
              have fo810 := c_iadd v460 (1 : Int32)
              have fr811 := rng32 (v460 + (1 : Int32))
              omega
            obtain ⟨w812, hw812⟩ : ∃ z : Int32, ((((((128 : Int32) ||| ((v1 >>> ((12 : Int32) &&& 31)) &&& (63 : Int32)))).toInt8.toInt32)).toInt8.toInt32) = z := ⟨_, rfl⟩
            refine g_bastore 292 rfl C X797 e798 B800 (n786 + 1) hq803 (by omega) w812 hw812 at_291 N801 gn469 fun T813 h814 ls815 X816 e817 W818 B819 N820 => ?_
            have Zs821 := Nat.le_trans Zs802 (Nat.le_of_eq W818.size.symm)
            refine g_aload 294 rfl C X816 at_292 rfl rfl ?_
            refine g_iload 296 rfl C X816 at_294 rfl ?_
            refine g_iconst 297 rfl C X816 (2 : Int32) at_296 rfl ?_
            refine g_iadd 298 rfl C X816 at_297 ?_
            refine g_sipush 301 rfl C X816 (128 : Int32) at_298 rfl ?_
            refine g_iload 303 rfl C X816 at_301 rfl ?_
            refine g_bipush 305 rfl C X816 (6 : Int32) at_303 rfl ?_
            refine g_ishr 306 rfl C X816 at_305 ?_
            refine g_bipush 308 rfl C X816 (63 : Int32) at_306 rfl ?_
            refine g_iand 309 rfl C X816 at_308 ?_
            refine g_ior 310 rfl C X816 at_309 ?_
            refine g_i2b 311 rfl C X816 at_310 ?_
            have hq822 : (v460 + (2 : Int32)).toInt = ((n786 + 2 : Nat) : Int) := by
              have fr823 := rng32 v460
              have fr824 := rng32 p1
              have fc825 : (3 : Int32).toInt = 3 := rfl
              have fo826 : (p1 &&& (3 : Int32)).toInt = p1.toInt % 4 := c_mask p1 (3 : Int32) 2 (by decide) (by decide)
              have fe827 : (p1 &&& (3 : Int32)).toInt = v460.toInt := congrArg Int32.toInt hv460
              have fc828 : (2 : Int32).toInt = 2 := rfl
              have fo829 := c_iadd v460 (2 : Int32)
              have fr830 := rng32 (v460 + (2 : Int32))
              omega
            obtain ⟨w831, hw831⟩ : ∃ z : Int32, ((((((128 : Int32) ||| ((v1 >>> ((6 : Int32) &&& 31)) &&& (63 : Int32)))).toInt8.toInt32)).toInt8.toInt32) = z := ⟨_, rfl⟩
            refine g_bastore 312 rfl C X816 e817 B819 (n786 + 2) hq822 (by omega) w831 hw831 at_311 N820 gn469 fun T832 h833 ls834 X835 e836 W837 B838 N839 => ?_
            have Zs840 := Nat.le_trans Zs821 (Nat.le_of_eq W837.size.symm)
            refine g_aload 314 rfl C X835 at_312 rfl rfl ?_
            refine g_iload 316 rfl C X835 at_314 rfl ?_
            refine g_iconst 317 rfl C X835 (3 : Int32) at_316 rfl ?_
            refine g_iadd 318 rfl C X835 at_317 ?_
            refine g_sipush 321 rfl C X835 (128 : Int32) at_318 rfl ?_
            refine g_iload 323 rfl C X835 at_321 rfl ?_
            refine g_bipush 325 rfl C X835 (63 : Int32) at_323 rfl ?_
            refine g_iand 326 rfl C X835 at_325 ?_
            refine g_ior 327 rfl C X835 at_326 ?_
            refine g_i2b 328 rfl C X835 at_327 ?_
            have hq841 : (v460 + (3 : Int32)).toInt = ((n786 + 3 : Nat) : Int) := by
              have fr842 := rng32 v460
              have fr843 := rng32 p1
              have fc844 : (3 : Int32).toInt = 3 := rfl
              have fo845 : (p1 &&& (3 : Int32)).toInt = p1.toInt % 4 := c_mask p1 (3 : Int32) 2 (by decide) (by decide)
              have fe846 : (p1 &&& (3 : Int32)).toInt = v460.toInt := congrArg Int32.toInt hv460
              have fo847 := c_iadd v460 (3 : Int32)
              have fr848 := rng32 (v460 + (3 : Int32))
              omega
            obtain ⟨w849, hw849⟩ : ∃ z : Int32, ((((((128 : Int32) ||| (v1 &&& (63 : Int32)))).toInt8.toInt32)).toInt8.toInt32) = z := ⟨_, rfl⟩
            refine g_bastore 329 rfl C X835 e836 B838 (n786 + 3) hq841 (by omega) w849 hw849 at_328 N839 gn469 fun T850 h851 ls852 X853 e854 W855 B856 N857 => ?_
            have Zs858 := Nat.le_trans Zs840 (Nat.le_of_eq W855.size.symm)
            refine g_aload 331 rfl C X853 at_329 rfl rfl ?_
            refine g_iload 333 rfl C X853 at_331 rfl ?_
            refine g_iload 335 rfl C X853 at_333 rfl ?_
            refine g_callS 338 rfl C X853 (argsL := [(.ref o463), (.int v460), (.int (4 : Int32))]) (hw _ (List.mem_of_getElem? (i := 4) rfl)) (hw _ (List.mem_of_getElem? (i := 5) rfl)) (hw _ (List.mem_of_getElem? (i := 7) rfl)) (hw _ (List.mem_of_getElem? (i := 6) rfl)) e854 (rm1_4 l Z a0 hw [] o463 v460 (upd (upd (upd (upd f551 (n786) w793) (n786 + 1) w812) (n786 + 2) w831) (n786 + 3) w849) n786 w793 w812 w831 w849 h851 n0 Zs858 B856 hn786 (by omega) (by omega) ((upd_ne (by omega)).trans ((upd_ne (by omega)).trans ((upd_ne (by omega)).trans (upd_same (by omega))))) ((upd_ne (by omega)).trans ((upd_ne (by omega)).trans (upd_same (by omega)))) ((upd_ne (by omega)).trans (upd_same (by omega))) (upd_same (by omega))) (lenOf pd_14998784 rfl) (by decide) (by decide) (by decide) (by decide) rfl (W := 0) (Nat.le_of_eq rfl) (by decide) at_335 rfl fun r859 T860 Lc861 X862 hQ863 => ?_
            obtain ⟨r864, rfl, hs865, Nq866, eh867⟩ := hQ863
            have N868 := Fr.app N857 Nq866
            show Goes _ _ _ _ _ _ 338 _ [(.int r864)]
            refine g_iload 340 rfl C X862 at_338 rfl ?_
            have hq870 : r864.toInt = v1.toInt := by
              have fr871 := rng32 r864
              have fr872 := rng32 v1
              have fr873 := rng32 p0
              have fc874 : (2147483647 : Int32).toInt = 2147483647 := rfl
              have fo875 : (p0 &&& (2147483647 : Int32)).toInt = p0.toInt % 2147483648 := c_mask p0 (2147483647 : Int32) 31 (by decide) (by decide)
              have fc876 : (1114112 : Int32).toInt = 1114112 := rfl
              have fo877 := c_irem (p0 &&& (2147483647 : Int32)) (1114112 : Int32) 1114112 rfl
              have fr878 := rng32 ((p0 &&& (2147483647 : Int32)) % (1114112 : Int32))
              have fe879 : ((p0 &&& (2147483647 : Int32)) % (1114112 : Int32)).toInt = v1.toInt := congrArg Int32.toInt hv1
              have fc880 : (55296 : Int32).toInt = 55296 := rfl
              have fc881 : (57343 : Int32).toInt = 57343 := rfl
              have fc882 : (128 : Int32).toInt = 128 := rfl
              have fc883 : (2048 : Int32).toInt = 2048 := rfl
              have fc884 : (65536 : Int32).toInt = 65536 := rfl
              have fr885 := rng32 w793
              have fc886 : (240 : Int32).toInt = 240 := rfl
              have fc887 : (18 : Int32).toInt = 18 := rfl
              have fo888 : ((v1 >>> ((18 : Int32) &&& 31))).toInt = v1.toInt / 262144 := c_ishr v1 (18 : Int32) 18 (by decide)
              have fo889 := c_or (240 : Int32) (v1 >>> ((18 : Int32) &&& 31)) 4 (by decide) 16 (by decide) (by omega) (by omega) (by omega)
              have fr890 := rng32 ((240 : Int32) ||| (v1 >>> ((18 : Int32) &&& 31)))
              have fo891 := c_i2b ((240 : Int32) ||| (v1 >>> ((18 : Int32) &&& 31)))
              have fo892 := c_i2b ((((240 : Int32) ||| (v1 >>> ((18 : Int32) &&& 31)))).toInt8.toInt32)
              have fe893 : ((((((240 : Int32) ||| (v1 >>> ((18 : Int32) &&& 31)))).toInt8.toInt32)).toInt8.toInt32).toInt = w793.toInt := congrArg Int32.toInt hw793
              have fr894 := rng32 w812
              have fc895 : (12 : Int32).toInt = 12 := rfl
              have fo896 : ((v1 >>> ((12 : Int32) &&& 31))).toInt = v1.toInt / 4096 := c_ishr v1 (12 : Int32) 12 (by decide)
              have fc897 : (63 : Int32).toInt = 63 := rfl
              have fo898 : ((v1 >>> ((12 : Int32) &&& 31)) &&& (63 : Int32)).toInt = (v1 >>> ((12 : Int32) &&& 31)).toInt % 64 := c_mask (v1 >>> ((12 : Int32) &&& 31)) (63 : Int32) 6 (by decide) (by decide)
              have fo899 := c_or (128 : Int32) ((v1 >>> ((12 : Int32) &&& 31)) &&& (63 : Int32)) 7 (by decide) 128 (by decide) (by omega) (by omega) (by omega)
              have fr900 := rng32 ((128 : Int32) ||| ((v1 >>> ((12 : Int32) &&& 31)) &&& (63 : Int32)))
              have fo901 := c_i2b ((128 : Int32) ||| ((v1 >>> ((12 : Int32) &&& 31)) &&& (63 : Int32)))
              have fo902 := c_i2b ((((128 : Int32) ||| ((v1 >>> ((12 : Int32) &&& 31)) &&& (63 : Int32)))).toInt8.toInt32)
              have fe903 : ((((((128 : Int32) ||| ((v1 >>> ((12 : Int32) &&& 31)) &&& (63 : Int32)))).toInt8.toInt32)).toInt8.toInt32).toInt = w812.toInt := congrArg Int32.toInt hw812
              have fr904 := rng32 w831
              have fc905 : (6 : Int32).toInt = 6 := rfl
              have fo906 : ((v1 >>> ((6 : Int32) &&& 31))).toInt = v1.toInt / 64 := c_ishr v1 (6 : Int32) 6 (by decide)
              have fo907 : ((v1 >>> ((6 : Int32) &&& 31)) &&& (63 : Int32)).toInt = (v1 >>> ((6 : Int32) &&& 31)).toInt % 64 := c_mask (v1 >>> ((6 : Int32) &&& 31)) (63 : Int32) 6 (by decide) (by decide)
              have fo908 := c_or (128 : Int32) ((v1 >>> ((6 : Int32) &&& 31)) &&& (63 : Int32)) 7 (by decide) 128 (by decide) (by omega) (by omega) (by omega)
              have fr909 := rng32 ((128 : Int32) ||| ((v1 >>> ((6 : Int32) &&& 31)) &&& (63 : Int32)))
              have fo910 := c_i2b ((128 : Int32) ||| ((v1 >>> ((6 : Int32) &&& 31)) &&& (63 : Int32)))
              have fo911 := c_i2b ((((128 : Int32) ||| ((v1 >>> ((6 : Int32) &&& 31)) &&& (63 : Int32)))).toInt8.toInt32)
              have fe912 : ((((((128 : Int32) ||| ((v1 >>> ((6 : Int32) &&& 31)) &&& (63 : Int32)))).toInt8.toInt32)).toInt8.toInt32).toInt = w831.toInt := congrArg Int32.toInt hw831
              have fr913 := rng32 w849
              have fo914 : (v1 &&& (63 : Int32)).toInt = v1.toInt % 64 := c_mask v1 (63 : Int32) 6 (by decide) (by decide)
              have fo915 := c_or (128 : Int32) (v1 &&& (63 : Int32)) 7 (by decide) 128 (by decide) (by omega) (by omega) (by omega)
              have fr916 := rng32 ((128 : Int32) ||| (v1 &&& (63 : Int32)))
              have fo917 := c_i2b ((128 : Int32) ||| (v1 &&& (63 : Int32)))
              have fo918 := c_i2b ((((128 : Int32) ||| (v1 &&& (63 : Int32)))).toInt8.toInt32)
              have fe919 : ((((((128 : Int32) ||| (v1 &&& (63 : Int32)))).toInt8.toInt32)).toInt8.toInt32).toInt = w849.toInt := congrArg Int32.toInt hw849
              omega
            refine g_icmp_ne_f 343 rfl C X862 at_340 hq870 ?_
            refine g_iconst 344 rfl C X862 (1 : Int32) at_343 rfl ?_
            refine g_goto 348 C X862 at_344 (by decide) (by decide) ?_
            exact g_retN C X862 (z' := (1 : Int32)) rfl (Or.inl rfl) at_348 eh867 (by decide) (by decide) rfl ⟨rfl, N868⟩
    · skip
      refine g_icmp_gt_f 23 rfl C X0 at_20 hb459 ?_
      refine g_iload 25 rfl C X0 at_23 rfl ?_
      refine g_sipush 28 rfl C X0 (2048 : Int32) at_25 rfl ?_
      refine g_iadd 29 rfl C X0 at_28 ?_
      obtain ⟨v920, hv920⟩ : ∃ z : Int32, (v1 + (2048 : Int32)) = z := ⟨_, rfl⟩
      refine g_istore 31 rfl C X0 v920 hv920 #[.val (.int p0), .val (.int p1), .val (.long p2), .second, .val (.int v920), .unset, .unset, .unset] at_29 rfl ?_
      refine g_iloadN 32 rfl C X0 at_31 rfl ?_
      refine g_iconst 33 rfl C X0 (3 : Int32) at_32 rfl ?_
      refine g_iand 34 rfl C X0 at_33 ?_
      obtain ⟨v921, hv921⟩ : ∃ z : Int32, (p1 &&& (3 : Int32)) = z := ⟨_, rfl⟩
      refine g_istore 36 rfl C X0 v921 hv921 #[.val (.int p0), .val (.int p1), .val (.long p2), .second, .val (.int v920), .val (.int v921), .unset, .unset] at_34 rfl ?_
      refine g_bipush 38 rfl C X0 (8 : Int32) at_36 rfl ?_
      refine g_newP 40 rfl C X0 8 (by decide) 8 (by decide) (by decide) rfl (hw _ (List.mem_of_getElem? (i := 3) rfl)) e0 at_38 (by decide) (by decide) fun T922 h923 o924 g925 X926 e927 E928 B929 => ?_
      have gn930 : n0 ≤ o924 := by rw [g925]; exact Z0
      have Zs931 := Nat.le_trans Z0 E928.1
      refine g_astore 42 rfl C X926 #[.val (.int p0), .val (.int p1), .val (.long p2), .second, .val (.int v920), .val (.int v921), .val (.ref o924), .unset] at_40 rfl rfl ?_
      refine g_aload 44 rfl C X926 at_42 rfl rfl ?_
      refine g_iconst 45 rfl C X926 (0 : Int32) at_44 rfl ?_
      refine g_lloadN 46 rfl C X926 at_45 rfl ?_
      refine g_l2i 47 rfl C X926 at_46 ?_
      refine g_i2b 48 rfl C X926 at_47 ?_
      obtain ⟨w932, hw932⟩ : ∃ z : Int32, ((((((p2).toInt32)).toInt8.toInt32)).toInt8.toInt32) = z := ⟨_, rfl⟩
      refine g_bastore 49 rfl C X926 e927 B929 0 (by decide) (by decide) w932 hw932 at_48 N0 gn930 fun T933 h934 ls935 X936 e937 W938 B939 N940 => ?_
      have Zs941 := Nat.le_trans Zs931 (Nat.le_of_eq W938.size.symm)
      refine g_aload 51 rfl C X936 at_49 rfl rfl ?_
      refine g_iconst 52 rfl C X936 (1 : Int32) at_51 rfl ?_
      refine g_lloadN 53 rfl C X936 at_52 rfl ?_
      refine g_bipush 55 rfl C X936 (8 : Int32) at_53 rfl ?_
      refine g_lushr 56 rfl C X936 at_55 ?_
      refine g_l2i 57 rfl C X936 at_56 ?_
      refine g_i2b 58 rfl C X936 at_57 ?_
      obtain ⟨w942, hw942⟩ : ∃ z : Int32, (((((((((p2).toUInt64 >>> ((8 : Int32) &&& 0x3f).toInt64.toUInt64).toInt64)).toInt32)).toInt8.toInt32)).toInt8.toInt32) = z := ⟨_, rfl⟩
      refine g_bastore 59 rfl C X936 e937 B939 1 (by decide) (by decide) w942 hw942 at_58 N940 gn930 fun T943 h944 ls945 X946 e947 W948 B949 N950 => ?_
      have Zs951 := Nat.le_trans Zs941 (Nat.le_of_eq W948.size.symm)
      refine g_aload 61 rfl C X946 at_59 rfl rfl ?_
      refine g_iconst 62 rfl C X946 (2 : Int32) at_61 rfl ?_
      refine g_lloadN 63 rfl C X946 at_62 rfl ?_
      refine g_bipush 65 rfl C X946 (16 : Int32) at_63 rfl ?_
      refine g_lushr 66 rfl C X946 at_65 ?_
      refine g_l2i 67 rfl C X946 at_66 ?_
      refine g_i2b 68 rfl C X946 at_67 ?_
      obtain ⟨w952, hw952⟩ : ∃ z : Int32, (((((((((p2).toUInt64 >>> ((16 : Int32) &&& 0x3f).toInt64.toUInt64).toInt64)).toInt32)).toInt8.toInt32)).toInt8.toInt32) = z := ⟨_, rfl⟩
      refine g_bastore 69 rfl C X946 e947 B949 2 (by decide) (by decide) w952 hw952 at_68 N950 gn930 fun T953 h954 ls955 X956 e957 W958 B959 N960 => ?_
      have Zs961 := Nat.le_trans Zs951 (Nat.le_of_eq W958.size.symm)
      refine g_aload 71 rfl C X956 at_69 rfl rfl ?_
      refine g_iconst 72 rfl C X956 (3 : Int32) at_71 rfl ?_
      refine g_lloadN 73 rfl C X956 at_72 rfl ?_
      refine g_bipush 75 rfl C X956 (24 : Int32) at_73 rfl ?_
      refine g_lushr 76 rfl C X956 at_75 ?_
      refine g_l2i 77 rfl C X956 at_76 ?_
      refine g_i2b 78 rfl C X956 at_77 ?_
      obtain ⟨w962, hw962⟩ : ∃ z : Int32, (((((((((p2).toUInt64 >>> ((24 : Int32) &&& 0x3f).toInt64.toUInt64).toInt64)).toInt32)).toInt8.toInt32)).toInt8.toInt32) = z := ⟨_, rfl⟩
      refine g_bastore 79 rfl C X956 e957 B959 3 (by decide) (by decide) w962 hw962 at_78 N960 gn930 fun T963 h964 ls965 X966 e967 W968 B969 N970 => ?_
      have Zs971 := Nat.le_trans Zs961 (Nat.le_of_eq W968.size.symm)
      refine g_aload 81 rfl C X966 at_79 rfl rfl ?_
      refine g_iconst 82 rfl C X966 (4 : Int32) at_81 rfl ?_
      refine g_lloadN 83 rfl C X966 at_82 rfl ?_
      refine g_bipush 85 rfl C X966 (32 : Int32) at_83 rfl ?_
      refine g_lushr 86 rfl C X966 at_85 ?_
      refine g_l2i 87 rfl C X966 at_86 ?_
      refine g_i2b 88 rfl C X966 at_87 ?_
      obtain ⟨w972, hw972⟩ : ∃ z : Int32, (((((((((p2).toUInt64 >>> ((32 : Int32) &&& 0x3f).toInt64.toUInt64).toInt64)).toInt32)).toInt8.toInt32)).toInt8.toInt32) = z := ⟨_, rfl⟩
      refine g_bastore 89 rfl C X966 e967 B969 4 (by decide) (by decide) w972 hw972 at_88 N970 gn930 fun T973 h974 ls975 X976 e977 W978 B979 N980 => ?_
      have Zs981 := Nat.le_trans Zs971 (Nat.le_of_eq W978.size.symm)
      refine g_aload 91 rfl C X976 at_89 rfl rfl ?_
      refine g_iconst 92 rfl C X976 (5 : Int32) at_91 rfl ?_
      refine g_lloadN 93 rfl C X976 at_92 rfl ?_
      refine g_bipush 95 rfl C X976 (40 : Int32) at_93 rfl ?_
      refine g_lushr 96 rfl C X976 at_95 ?_
      refine g_l2i 97 rfl C X976 at_96 ?_
      refine g_i2b 98 rfl C X976 at_97 ?_
      obtain ⟨w982, hw982⟩ : ∃ z : Int32, (((((((((p2).toUInt64 >>> ((40 : Int32) &&& 0x3f).toInt64.toUInt64).toInt64)).toInt32)).toInt8.toInt32)).toInt8.toInt32) = z := ⟨_, rfl⟩
      refine g_bastore 99 rfl C X976 e977 B979 5 (by decide) (by decide) w982 hw982 at_98 N980 gn930 fun T983 h984 ls985 X986 e987 W988 B989 N990 => ?_
      have Zs991 := Nat.le_trans Zs981 (Nat.le_of_eq W988.size.symm)
      refine g_aload 101 rfl C X986 at_99 rfl rfl ?_
      refine g_bipush 103 rfl C X986 (6 : Int32) at_101 rfl ?_
      refine g_lloadN 104 rfl C X986 at_103 rfl ?_
      refine g_bipush 106 rfl C X986 (48 : Int32) at_104 rfl ?_
      refine g_lushr 107 rfl C X986 at_106 ?_
      refine g_l2i 108 rfl C X986 at_107 ?_
      refine g_i2b 109 rfl C X986 at_108 ?_
      obtain ⟨w992, hw992⟩ : ∃ z : Int32, (((((((((p2).toUInt64 >>> ((48 : Int32) &&& 0x3f).toInt64.toUInt64).toInt64)).toInt32)).toInt8.toInt32)).toInt8.toInt32) = z := ⟨_, rfl⟩
      refine g_bastore 110 rfl C X986 e987 B989 6 (by decide) (by decide) w992 hw992 at_109 N990 gn930 fun T993 h994 ls995 X996 e997 W998 B999 N1000 => ?_
      have Zs1001 := Nat.le_trans Zs991 (Nat.le_of_eq W998.size.symm)
      refine g_aload 112 rfl C X996 at_110 rfl rfl ?_
      refine g_bipush 114 rfl C X996 (7 : Int32) at_112 rfl ?_
      refine g_lloadN 115 rfl C X996 at_114 rfl ?_
      refine g_bipush 117 rfl C X996 (56 : Int32) at_115 rfl ?_
      refine g_lushr 118 rfl C X996 at_117 ?_
      refine g_l2i 119 rfl C X996 at_118 ?_
      refine g_i2b 120 rfl C X996 at_119 ?_
      obtain ⟨w1002, hw1002⟩ : ∃ z : Int32, (((((((((p2).toUInt64 >>> ((56 : Int32) &&& 0x3f).toInt64.toUInt64).toInt64)).toInt32)).toInt8.toInt32)).toInt8.toInt32) = z := ⟨_, rfl⟩
      refine g_bastore 121 rfl C X996 e997 B999 7 (by decide) (by decide) w1002 hw1002 at_120 N1000 gn930 fun T1003 h1004 ls1005 X1006 e1007 W1008 B1009 N1010 => ?_
      have Zs1011 := Nat.le_trans Zs1001 (Nat.le_of_eq W1008.size.symm)
      obtain ⟨f1012, B1013⟩ : ∃ f, Ba Z h1004 o924 .byte 8 f := ⟨_, B1009⟩
      refine g_iload 123 rfl C X1006 at_121 rfl ?_
      refine g_sipush 126 rfl C X1006 (128 : Int32) at_123 rfl ?_
      by_cases hb1014 : v920.toInt < (128 : Int32).toInt
      · skip
        refine g_icmp_ge_f 129 rfl C X1006 at_126 hb1014 ?_
        refine g_iconst 130 rfl C X1006 (1 : Int32) at_129 rfl ?_
        refine g_istore 132 rfl C X1006 (1 : Int32) rfl #[.val (.int p0), .val (.int p1), .val (.long p2), .second, .val (.int v920), .val (.int v921), .val (.ref o924), .val (.int (1 : Int32))] at_130 rfl ?_
        refine g_aload 134 rfl C X1006 at_132 rfl rfl ?_
        refine g_iload 136 rfl C X1006 at_134 rfl ?_
        refine g_iload 138 rfl C X1006 at_136 rfl ?_
        refine g_i2b 139 rfl C X1006 at_138 ?_
        have hq1016 : 0 ≤ v921.toInt ∧ v921.toInt ≤ 3 := by
          have fr1017 := rng32 v921
          have fr1018 := rng32 p1
          have fc1019 : (3 : Int32).toInt = 3 := rfl
          have fo1020 : (p1 &&& (3 : Int32)).toInt = p1.toInt % 4 := c_mask p1 (3 : Int32) 2 (by decide) (by decide)
          have fe1021 : (p1 &&& (3 : Int32)).toInt = v921.toInt := congrArg Int32.toInt hv921
          omega
        obtain ⟨n1015, hn1015⟩ : ∃ n : Nat, v921.toInt = n := ⟨v921.toInt.toNat, by omega⟩
        have hn1015m : n1015 ≤ 3 := by omega
        obtain ⟨w1022, hw1022⟩ : ∃ z : Int32, ((((v920).toInt8.toInt32)).toInt8.toInt32) = z := ⟨_, rfl⟩
        refine g_bastore 140 rfl C X1006 e1007 B1013 (n1015) hn1015 (by omega) w1022 hw1022 at_139 N1010 gn930 fun T1023 h1024 ls1025 X1026 e1027 W1028 B1029 N1030 => ?_
        have Zs1031 := Nat.le_trans Zs1011 (Nat.le_of_eq W1028.size.symm)
        refine g_goto 329 C X1026 at_140 (by decide) (by decide) ?_
        refine g_aload 331 rfl C X1026 at_329 rfl rfl ?_
        refine g_iload 333 rfl C X1026 at_331 rfl ?_
        refine g_iload 335 rfl C X1026 at_333 rfl ?_
        refine g_callS 338 rfl C X1026 (argsL := [(.ref o924), (.int v921), (.int (1 : Int32))]) (hw _ (List.mem_of_getElem? (i := 4) rfl)) (hw _ (List.mem_of_getElem? (i := 5) rfl)) (hw _ (List.mem_of_getElem? (i := 7) rfl)) (hw _ (List.mem_of_getElem? (i := 6) rfl)) e1027 (rm1_1 l Z a0 hw [] o924 v921 (upd f1012 (n1015) w1022) n1015 w1022 h1024 n0 Zs1031 B1029 hn1015 (by omega) (by omega) (upd_same (by omega))) (lenOf pd_14998784 rfl) (by decide) (by decide) (by decide) (by decide) rfl (W := 0) (Nat.le_of_eq rfl) (by decide) at_335 rfl fun r1032 T1033 Lc1034 X1035 hQ1036 => ?_
        obtain ⟨r1037, rfl, hs1038, Nq1039, eh1040⟩ := hQ1036
        have N1041 := Fr.app N1030 Nq1039
        show Goes _ _ _ _ _ _ 338 _ [(.int r1037)]
        refine g_iload 340 rfl C X1035 at_338 rfl ?_
        have hq1043 : r1037.toInt = v920.toInt := by
          have fr1044 := rng32 r1037
          have fr1045 := rng32 v920
          have fr1046 := rng32 v1
          have fr1047 := rng32 p0
          have fc1048 : (2147483647 : Int32).toInt = 2147483647 := rfl
          have fo1049 : (p0 &&& (2147483647 : Int32)).toInt = p0.toInt % 2147483648 := c_mask p0 (2147483647 : Int32) 31 (by decide) (by decide)
          have fc1050 : (1114112 : Int32).toInt = 1114112 := rfl
          have fo1051 := c_irem (p0 &&& (2147483647 : Int32)) (1114112 : Int32) 1114112 rfl
          have fr1052 := rng32 ((p0 &&& (2147483647 : Int32)) % (1114112 : Int32))
          have fe1053 : ((p0 &&& (2147483647 : Int32)) % (1114112 : Int32)).toInt = v1.toInt := congrArg Int32.toInt hv1
          have fc1054 : (2048 : Int32).toInt = 2048 := rfl
          have fo1055 := c_iadd v1 (2048 : Int32)
          have fr1056 := rng32 (v1 + (2048 : Int32))
          have fe1057 : (v1 + (2048 : Int32)).toInt = v920.toInt := congrArg Int32.toInt hv920
          have fc1058 : (55296 : Int32).toInt = 55296 := rfl
          have fc1059 : (57343 : Int32).toInt = 57343 := rfl
          have fc1060 : (128 : Int32).toInt = 128 := rfl
          have fr1061 := rng32 w1022
          have fo1062 := c_i2b v920
          have fo1063 := c_i2b ((v920).toInt8.toInt32)
          have fe1064 : ((((v920).toInt8.toInt32)).toInt8.toInt32).toInt = w1022.toInt := congrArg Int32.toInt hw1022
          omega
        refine g_icmp_ne_f 343 rfl C X1035 at_340 hq1043 ?_
        refine g_iconst 344 rfl C X1035 (1 : Int32) at_343 rfl ?_
        refine g_goto 348 C X1035 at_344 (by decide) (by decide) ?_
        exact g_retN C X1035 (z' := (1 : Int32)) rfl (Or.inl rfl) at_348 eh1040 (by decide) (by decide) rfl ⟨rfl, N1041⟩
      · skip
        refine g_icmp_ge_t 143 C X1006 at_126 (by decide) (by decide) hb1014 ?_
        refine g_iload 145 rfl C X1006 at_143 rfl ?_
        refine g_sipush 148 rfl C X1006 (2048 : Int32) at_145 rfl ?_
        by_cases hb1065 : v920.toInt < (2048 : Int32).toInt
        · skip
          refine g_icmp_ge_f 151 rfl C X1006 at_148 hb1065 ?_
          refine g_iconst 152 rfl C X1006 (2 : Int32) at_151 rfl ?_
          refine g_istore 154 rfl C X1006 (2 : Int32) rfl #[.val (.int p0), .val (.int p1), .val (.long p2), .second, .val (.int v920), .val (.int v921), .val (.ref o924), .val (.int (2 : Int32))] at_152 rfl ?_
          refine g_aload 156 rfl C X1006 at_154 rfl rfl ?_
          refine g_iload 158 rfl C X1006 at_156 rfl ?_
          refine g_sipush 161 rfl C X1006 (192 : Int32) at_158 rfl ?_
          refine g_iload 163 rfl C X1006 at_161 rfl ?_
          refine g_bipush 165 rfl C X1006 (6 : Int32) at_163 rfl ?_
          refine g_ishr 166 rfl C X1006 at_165 ?_
          refine g_ior 167 rfl C X1006 at_166 ?_
          refine g_i2b 168 rfl C X1006 at_167 ?_
          have hq1067 : 0 ≤ v921.toInt ∧ v921.toInt ≤ 3 := by
            have fr1068 := rng32 v921
            have fr1069 := rng32 p1
            have fc1070 : (3 : Int32).toInt = 3 := rfl
            have fo1071 : (p1 &&& (3 : Int32)).toInt = p1.toInt % 4 := c_mask p1 (3 : Int32) 2 (by decide) (by decide)
            have fe1072 : (p1 &&& (3 : Int32)).toInt = v921.toInt := congrArg Int32.toInt hv921
            omega
          obtain ⟨n1066, hn1066⟩ : ∃ n : Nat, v921.toInt = n := ⟨v921.toInt.toNat, by omega⟩
          have hn1066m : n1066 ≤ 3 := by omega
          obtain ⟨w1073, hw1073⟩ : ∃ z : Int32, ((((((192 : Int32) ||| (v920 >>> ((6 : Int32) &&& 31)))).toInt8.toInt32)).toInt8.toInt32) = z := ⟨_, rfl⟩
          refine g_bastore 169 rfl C X1006 e1007 B1013 (n1066) hn1066 (by omega) w1073 hw1073 at_168 N1010 gn930 fun T1074 h1075 ls1076 X1077 e1078 W1079 B1080 N1081 => ?_
          have Zs1082 := Nat.le_trans Zs1011 (Nat.le_of_eq W1079.size.symm)
          refine g_aload 171 rfl C X1077 at_169 rfl rfl ?_
          refine g_iload 173 rfl C X1077 at_171 rfl ?_
          refine g_iconst 174 rfl C X1077 (1 : Int32) at_173 rfl ?_
          refine g_iadd 175 rfl C X1077 at_174 ?_
          refine g_sipush 178 rfl C X1077 (128 : Int32) at_175 rfl ?_
          refine g_iload 180 rfl C X1077 at_178 rfl ?_
          refine g_bipush 182 rfl C X1077 (63 : Int32) at_180 rfl ?_
          refine g_iand 183 rfl C X1077 at_182 ?_
          refine g_ior 184 rfl C X1077 at_183 ?_
          refine g_i2b 185 rfl C X1077 at_184 ?_
          have hq1083 : (v921 + (1 : Int32)).toInt = ((n1066 + 1 : Nat) : Int) := by
            have fr1084 := rng32 v921
            have fr1085 := rng32 p1
            have fc1086 : (3 : Int32).toInt = 3 := rfl
            have fo1087 : (p1 &&& (3 : Int32)).toInt = p1.toInt % 4 := c_mask p1 (3 : Int32) 2 (by decide) (by decide)
            have fe1088 : (p1 &&& (3 : Int32)).toInt = v921.toInt := congrArg Int32.toInt hv921
            have fc1089 : (1 : Int32).toInt = 1 := rfl
            have fo1090 := c_iadd v921 (1 : Int32)
            have fr1091 := rng32 (v921 + (1 : Int32))
            omega
          obtain ⟨w1092, hw1092⟩ : ∃ z : Int32, ((((((128 : Int32) ||| (v920 &&& (63 : Int32)))).toInt8.toInt32)).toInt8.toInt32) = z := ⟨_, rfl⟩
          refine g_bastore 186 rfl C X1077 e1078 B1080 (n1066 + 1) hq1083 (by omega) w1092 hw1092 at_185 N1081 gn930 fun T1093 h1094 ls1095 X1096 e1097 W1098 B1099 N1100 => ?_
          have Zs1101 := Nat.le_trans Zs1082 (Nat.le_of_eq W1098.size.symm)
          refine g_goto 329 C X1096 at_186 (by decide) (by decide) ?_
          refine g_aload 331 rfl C X1096 at_329 rfl rfl ?_
          refine g_iload 333 rfl C X1096 at_331 rfl ?_
          refine g_iload 335 rfl C X1096 at_333 rfl ?_
          refine g_callS 338 rfl C X1096 (argsL := [(.ref o924), (.int v921), (.int (2 : Int32))]) (hw _ (List.mem_of_getElem? (i := 4) rfl)) (hw _ (List.mem_of_getElem? (i := 5) rfl)) (hw _ (List.mem_of_getElem? (i := 7) rfl)) (hw _ (List.mem_of_getElem? (i := 6) rfl)) e1097 (rm1_2 l Z a0 hw [] o924 v921 (upd (upd f1012 (n1066) w1073) (n1066 + 1) w1092) n1066 w1073 w1092 h1094 n0 Zs1101 B1099 hn1066 (by omega) (by omega) ((upd_ne (by omega)).trans (upd_same (by omega))) (upd_same (by omega))) (lenOf pd_14998784 rfl) (by decide) (by decide) (by decide) (by decide) rfl (W := 0) (Nat.le_of_eq rfl) (by decide) at_335 rfl fun r1102 T1103 Lc1104 X1105 hQ1106 => ?_
          obtain ⟨r1107, rfl, hs1108, Nq1109, eh1110⟩ := hQ1106
          have N1111 := Fr.app N1100 Nq1109
          show Goes _ _ _ _ _ _ 338 _ [(.int r1107)]
          refine g_iload 340 rfl C X1105 at_338 rfl ?_
          have hq1113 : r1107.toInt = v920.toInt := by
            have fr1114 := rng32 r1107
            have fr1115 := rng32 v920
            have fr1116 := rng32 v1
            have fr1117 := rng32 p0
            have fc1118 : (2147483647 : Int32).toInt = 2147483647 := rfl
            have fo1119 : (p0 &&& (2147483647 : Int32)).toInt = p0.toInt % 2147483648 := c_mask p0 (2147483647 : Int32) 31 (by decide) (by decide)
            have fc1120 : (1114112 : Int32).toInt = 1114112 := rfl
            have fo1121 := c_irem (p0 &&& (2147483647 : Int32)) (1114112 : Int32) 1114112 rfl
            have fr1122 := rng32 ((p0 &&& (2147483647 : Int32)) % (1114112 : Int32))
            have fe1123 : ((p0 &&& (2147483647 : Int32)) % (1114112 : Int32)).toInt = v1.toInt := congrArg Int32.toInt hv1
            have fc1124 : (2048 : Int32).toInt = 2048 := rfl
            have fo1125 := c_iadd v1 (2048 : Int32)
            have fr1126 := rng32 (v1 + (2048 : Int32))
            have fe1127 : (v1 + (2048 : Int32)).toInt = v920.toInt := congrArg Int32.toInt hv920
            have fc1128 : (55296 : Int32).toInt = 55296 := rfl
            have fc1129 : (57343 : Int32).toInt = 57343 := rfl
            have fc1130 : (128 : Int32).toInt = 128 := rfl
            have fr1131 := rng32 w1073
            have fc1132 : (192 : Int32).toInt = 192 := rfl
            have fc1133 : (6 : Int32).toInt = 6 := rfl
            have fo1134 : ((v920 >>> ((6 : Int32) &&& 31))).toInt = v920.toInt / 64 := c_ishr v920 (6 : Int32) 6 (by decide)
            have fo1135 := c_or (192 : Int32) (v920 >>> ((6 : Int32) &&& 31)) 6 (by decide) 64 (by decide) (by omega) (by omega) (by omega)
            have fr1136 := rng32 ((192 : Int32) ||| (v920 >>> ((6 : Int32) &&& 31)))
            have fo1137 := c_i2b ((192 : Int32) ||| (v920 >>> ((6 : Int32) &&& 31)))
            have fo1138 := c_i2b ((((192 : Int32) ||| (v920 >>> ((6 : Int32) &&& 31)))).toInt8.toInt32)
            have fe1139 : ((((((192 : Int32) ||| (v920 >>> ((6 : Int32) &&& 31)))).toInt8.toInt32)).toInt8.toInt32).toInt = w1073.toInt := congrArg Int32.toInt hw1073
            have fr1140 := rng32 w1092
            have fc1141 : (63 : Int32).toInt = 63 := rfl
            have fo1142 : (v920 &&& (63 : Int32)).toInt = v920.toInt % 64 := c_mask v920 (63 : Int32) 6 (by decide) (by decide)
            have fo1143 := c_or (128 : Int32) (v920 &&& (63 : Int32)) 7 (by decide) 128 (by decide) (by omega) (by omega) (by omega)
            have fr1144 := rng32 ((128 : Int32) ||| (v920 &&& (63 : Int32)))
            have fo1145 := c_i2b ((128 : Int32) ||| (v920 &&& (63 : Int32)))
            have fo1146 := c_i2b ((((128 : Int32) ||| (v920 &&& (63 : Int32)))).toInt8.toInt32)
            have fe1147 : ((((((128 : Int32) ||| (v920 &&& (63 : Int32)))).toInt8.toInt32)).toInt8.toInt32).toInt = w1092.toInt := congrArg Int32.toInt hw1092
            omega
          refine g_icmp_ne_f 343 rfl C X1105 at_340 hq1113 ?_
          refine g_iconst 344 rfl C X1105 (1 : Int32) at_343 rfl ?_
          refine g_goto 348 C X1105 at_344 (by decide) (by decide) ?_
          exact g_retN C X1105 (z' := (1 : Int32)) rfl (Or.inl rfl) at_348 eh1110 (by decide) (by decide) rfl ⟨rfl, N1111⟩
        · skip
          refine g_icmp_ge_t 189 C X1006 at_148 (by decide) (by decide) hb1065 ?_
          refine g_iload 191 rfl C X1006 at_189 rfl ?_
          refine g_ldc 193 rfl C X1006 (hw _ (List.mem_of_getElem? (i := 9) rfl)) at_191 ?_
          by_cases hb1148 : v920.toInt < (65536 : Int32).toInt
          · skip
            refine g_icmp_ge_f 196 rfl C X1006 at_193 hb1148 ?_
            refine g_iconst 197 rfl C X1006 (3 : Int32) at_196 rfl ?_
            refine g_istore 199 rfl C X1006 (3 : Int32) rfl #[.val (.int p0), .val (.int p1), .val (.long p2), .second, .val (.int v920), .val (.int v921), .val (.ref o924), .val (.int (3 : Int32))] at_197 rfl ?_
            refine g_aload 201 rfl C X1006 at_199 rfl rfl ?_
            refine g_iload 203 rfl C X1006 at_201 rfl ?_
            refine g_sipush 206 rfl C X1006 (224 : Int32) at_203 rfl ?_
            refine g_iload 208 rfl C X1006 at_206 rfl ?_
            refine g_bipush 210 rfl C X1006 (12 : Int32) at_208 rfl ?_
            refine g_ishr 211 rfl C X1006 at_210 ?_
            refine g_ior 212 rfl C X1006 at_211 ?_
            refine g_i2b 213 rfl C X1006 at_212 ?_
            have hq1150 : 0 ≤ v921.toInt ∧ v921.toInt ≤ 3 := by
              have fr1151 := rng32 v921
              have fr1152 := rng32 p1
              have fc1153 : (3 : Int32).toInt = 3 := rfl
              have fo1154 : (p1 &&& (3 : Int32)).toInt = p1.toInt % 4 := c_mask p1 (3 : Int32) 2 (by decide) (by decide)
              have fe1155 : (p1 &&& (3 : Int32)).toInt = v921.toInt := congrArg Int32.toInt hv921
              omega
            obtain ⟨n1149, hn1149⟩ : ∃ n : Nat, v921.toInt = n := ⟨v921.toInt.toNat, by omega⟩
            have hn1149m : n1149 ≤ 3 := by omega
            obtain ⟨w1156, hw1156⟩ : ∃ z : Int32, ((((((224 : Int32) ||| (v920 >>> ((12 : Int32) &&& 31)))).toInt8.toInt32)).toInt8.toInt32) = z := ⟨_, rfl⟩
            refine g_bastore 214 rfl C X1006 e1007 B1013 (n1149) hn1149 (by omega) w1156 hw1156 at_213 N1010 gn930 fun T1157 h1158 ls1159 X1160 e1161 W1162 B1163 N1164 => ?_
            have Zs1165 := Nat.le_trans Zs1011 (Nat.le_of_eq W1162.size.symm)
            refine g_aload 216 rfl C X1160 at_214 rfl rfl ?_
            refine g_iload 218 rfl C X1160 at_216 rfl ?_
            refine g_iconst 219 rfl C X1160 (1 : Int32) at_218 rfl ?_
            refine g_iadd 220 rfl C X1160 at_219 ?_
            refine g_sipush 223 rfl C X1160 (128 : Int32) at_220 rfl ?_
            refine g_iload 225 rfl C X1160 at_223 rfl ?_
            refine g_bipush 227 rfl C X1160 (6 : Int32) at_225 rfl ?_
            refine g_ishr 228 rfl C X1160 at_227 ?_
            refine g_bipush 230 rfl C X1160 (63 : Int32) at_228 rfl ?_
            refine g_iand 231 rfl C X1160 at_230 ?_
            refine g_ior 232 rfl C X1160 at_231 ?_
            refine g_i2b 233 rfl C X1160 at_232 ?_
            have hq1166 : (v921 + (1 : Int32)).toInt = ((n1149 + 1 : Nat) : Int) := by
              have fr1167 := rng32 v921
              have fr1168 := rng32 p1
              have fc1169 : (3 : Int32).toInt = 3 := rfl
              have fo1170 : (p1 &&& (3 : Int32)).toInt = p1.toInt % 4 := c_mask p1 (3 : Int32) 2 (by decide) (by decide)
              have fe1171 : (p1 &&& (3 : Int32)).toInt = v921.toInt := congrArg Int32.toInt hv921
              have fc1172 : (1 : Int32).toInt = 1 := rfl
              have fo1173 := c_iadd v921 (1 : Int32)
              have fr1174 := rng32 (v921 + (1 : Int32))
              omega
            obtain ⟨w1175, hw1175⟩ : ∃ z : Int32, ((((((128 : Int32) ||| ((v920 >>> ((6 : Int32) &&& 31)) &&& (63 : Int32)))).toInt8.toInt32)).toInt8.toInt32) = z := ⟨_, rfl⟩
            refine g_bastore 234 rfl C X1160 e1161 B1163 (n1149 + 1) hq1166 (by omega) w1175 hw1175 at_233 N1164 gn930 fun T1176 h1177 ls1178 X1179 e1180 W1181 B1182 N1183 => ?_
            have Zs1184 := Nat.le_trans Zs1165 (Nat.le_of_eq W1181.size.symm)
            refine g_aload 236 rfl C X1179 at_234 rfl rfl ?_
            refine g_iload 238 rfl C X1179 at_236 rfl ?_
            refine g_iconst 239 rfl C X1179 (2 : Int32) at_238 rfl ?_
            refine g_iadd 240 rfl C X1179 at_239 ?_
            refine g_sipush 243 rfl C X1179 (128 : Int32) at_240 rfl ?_
            refine g_iload 245 rfl C X1179 at_243 rfl ?_
            refine g_bipush 247 rfl C X1179 (63 : Int32) at_245 rfl ?_
            refine g_iand 248 rfl C X1179 at_247 ?_
            refine g_ior 249 rfl C X1179 at_248 ?_
            refine g_i2b 250 rfl C X1179 at_249 ?_
            have hq1185 : (v921 + (2 : Int32)).toInt = ((n1149 + 2 : Nat) : Int) := by
              have fr1186 := rng32 v921
              have fr1187 := rng32 p1
              have fc1188 : (3 : Int32).toInt = 3 := rfl
              have fo1189 : (p1 &&& (3 : Int32)).toInt = p1.toInt % 4 := c_mask p1 (3 : Int32) 2 (by decide) (by decide)
              have fe1190 : (p1 &&& (3 : Int32)).toInt = v921.toInt := congrArg Int32.toInt hv921
              have fc1191 : (2 : Int32).toInt = 2 := rfl
              have fo1192 := c_iadd v921 (2 : Int32)
              have fr1193 := rng32 (v921 + (2 : Int32))
              omega
            obtain ⟨w1194, hw1194⟩ : ∃ z : Int32, ((((((128 : Int32) ||| (v920 &&& (63 : Int32)))).toInt8.toInt32)).toInt8.toInt32) = z := ⟨_, rfl⟩
            refine g_bastore 251 rfl C X1179 e1180 B1182 (n1149 + 2) hq1185 (by omega) w1194 hw1194 at_250 N1183 gn930 fun T1195 h1196 ls1197 X1198 e1199 W1200 B1201 N1202 => ?_
            have Zs1203 := Nat.le_trans Zs1184 (Nat.le_of_eq W1200.size.symm)
            refine g_goto 329 C X1198 at_251 (by decide) (by decide) ?_
            refine g_aload 331 rfl C X1198 at_329 rfl rfl ?_
            refine g_iload 333 rfl C X1198 at_331 rfl ?_
            refine g_iload 335 rfl C X1198 at_333 rfl ?_
            refine g_callS 338 rfl C X1198 (argsL := [(.ref o924), (.int v921), (.int (3 : Int32))]) (hw _ (List.mem_of_getElem? (i := 4) rfl)) (hw _ (List.mem_of_getElem? (i := 5) rfl)) (hw _ (List.mem_of_getElem? (i := 7) rfl)) (hw _ (List.mem_of_getElem? (i := 6) rfl)) e1199 (rm1_3 l Z a0 hw [] o924 v921 (upd (upd (upd f1012 (n1149) w1156) (n1149 + 1) w1175) (n1149 + 2) w1194) n1149 w1156 w1175 w1194 h1196 n0 Zs1203 B1201 hn1149 (by omega) (by omega) ((upd_ne (by omega)).trans ((upd_ne (by omega)).trans (upd_same (by omega)))) ((upd_ne (by omega)).trans (upd_same (by omega))) (upd_same (by omega))) (lenOf pd_14998784 rfl) (by decide) (by decide) (by decide) (by decide) rfl (W := 0) (Nat.le_of_eq rfl) (by decide) at_335 rfl fun r1204 T1205 Lc1206 X1207 hQ1208 => ?_
            obtain ⟨r1209, rfl, hs1210, Nq1211, eh1212⟩ := hQ1208
            have N1213 := Fr.app N1202 Nq1211
            show Goes _ _ _ _ _ _ 338 _ [(.int r1209)]
            refine g_iload 340 rfl C X1207 at_338 rfl ?_
            have hq1215 : r1209.toInt = v920.toInt := by
              have fr1216 := rng32 r1209
              have fr1217 := rng32 v920
              have fr1218 := rng32 v1
              have fr1219 := rng32 p0
              have fc1220 : (2147483647 : Int32).toInt = 2147483647 := rfl
              have fo1221 : (p0 &&& (2147483647 : Int32)).toInt = p0.toInt % 2147483648 := c_mask p0 (2147483647 : Int32) 31 (by decide) (by decide)
              have fc1222 : (1114112 : Int32).toInt = 1114112 := rfl
              have fo1223 := c_irem (p0 &&& (2147483647 : Int32)) (1114112 : Int32) 1114112 rfl
              have fr1224 := rng32 ((p0 &&& (2147483647 : Int32)) % (1114112 : Int32))
              have fe1225 : ((p0 &&& (2147483647 : Int32)) % (1114112 : Int32)).toInt = v1.toInt := congrArg Int32.toInt hv1
              have fc1226 : (2048 : Int32).toInt = 2048 := rfl
              have fo1227 := c_iadd v1 (2048 : Int32)
              have fr1228 := rng32 (v1 + (2048 : Int32))
              have fe1229 : (v1 + (2048 : Int32)).toInt = v920.toInt := congrArg Int32.toInt hv920
              have fc1230 : (55296 : Int32).toInt = 55296 := rfl
              have fc1231 : (57343 : Int32).toInt = 57343 := rfl
              have fc1232 : (128 : Int32).toInt = 128 := rfl
              have fc1233 : (65536 : Int32).toInt = 65536 := rfl
              have fr1234 := rng32 w1156
              have fc1235 : (224 : Int32).toInt = 224 := rfl
              have fc1236 : (12 : Int32).toInt = 12 := rfl
              have fo1237 : ((v920 >>> ((12 : Int32) &&& 31))).toInt = v920.toInt / 4096 := c_ishr v920 (12 : Int32) 12 (by decide)
              have fo1238 := c_or (224 : Int32) (v920 >>> ((12 : Int32) &&& 31)) 5 (by decide) 32 (by decide) (by omega) (by omega) (by omega)
              have fr1239 := rng32 ((224 : Int32) ||| (v920 >>> ((12 : Int32) &&& 31)))
              have fo1240 := c_i2b ((224 : Int32) ||| (v920 >>> ((12 : Int32) &&& 31)))
              have fo1241 := c_i2b ((((224 : Int32) ||| (v920 >>> ((12 : Int32) &&& 31)))).toInt8.toInt32)
              have fe1242 : ((((((224 : Int32) ||| (v920 >>> ((12 : Int32) &&& 31)))).toInt8.toInt32)).toInt8.toInt32).toInt = w1156.toInt := congrArg Int32.toInt hw1156
              have fr1243 := rng32 w1175
              have fc1244 : (6 : Int32).toInt = 6 := rfl
              have fo1245 : ((v920 >>> ((6 : Int32) &&& 31))).toInt = v920.toInt / 64 := c_ishr v920 (6 : Int32) 6 (by decide)
              have fc1246 : (63 : Int32).toInt = 63 := rfl
              have fo1247 : ((v920 >>> ((6 : Int32) &&& 31)) &&& (63 : Int32)).toInt = (v920 >>> ((6 : Int32) &&& 31)).toInt % 64 := c_mask (v920 >>> ((6 : Int32) &&& 31)) (63 : Int32) 6 (by decide) (by decide)
              have fo1248 := c_or (128 : Int32) ((v920 >>> ((6 : Int32) &&& 31)) &&& (63 : Int32)) 7 (by decide) 128 (by decide) (by omega) (by omega) (by omega)
              have fr1249 := rng32 ((128 : Int32) ||| ((v920 >>> ((6 : Int32) &&& 31)) &&& (63 : Int32)))
              have fo1250 := c_i2b ((128 : Int32) ||| ((v920 >>> ((6 : Int32) &&& 31)) &&& (63 : Int32)))
              have fo1251 := c_i2b ((((128 : Int32) ||| ((v920 >>> ((6 : Int32) &&& 31)) &&& (63 : Int32)))).toInt8.toInt32)
              have fe1252 : ((((((128 : Int32) ||| ((v920 >>> ((6 : Int32) &&& 31)) &&& (63 : Int32)))).toInt8.toInt32)).toInt8.toInt32).toInt = w1175.toInt := congrArg Int32.toInt hw1175
              have fr1253 := rng32 w1194
              have fo1254 : (v920 &&& (63 : Int32)).toInt = v920.toInt % 64 := c_mask v920 (63 : Int32) 6 (by decide) (by decide)
              have fo1255 := c_or (128 : Int32) (v920 &&& (63 : Int32)) 7 (by decide) 128 (by decide) (by omega) (by omega) (by omega)
              have fr1256 := rng32 ((128 : Int32) ||| (v920 &&& (63 : Int32)))
              have fo1257 := c_i2b ((128 : Int32) ||| (v920 &&& (63 : Int32)))
              have fo1258 := c_i2b ((((128 : Int32) ||| (v920 &&& (63 : Int32)))).toInt8.toInt32)
              have fe1259 : ((((((128 : Int32) ||| (v920 &&& (63 : Int32)))).toInt8.toInt32)).toInt8.toInt32).toInt = w1194.toInt := congrArg Int32.toInt hw1194
              omega
            refine g_icmp_ne_f 343 rfl C X1207 at_340 hq1215 ?_
            refine g_iconst 344 rfl C X1207 (1 : Int32) at_343 rfl ?_
            refine g_goto 348 C X1207 at_344 (by decide) (by decide) ?_
            exact g_retN C X1207 (z' := (1 : Int32)) rfl (Or.inl rfl) at_348 eh1212 (by decide) (by decide) rfl ⟨rfl, N1213⟩
          · skip
            refine g_icmp_ge_t 254 C X1006 at_193 (by decide) (by decide) hb1148 ?_
            refine g_iconst 255 rfl C X1006 (4 : Int32) at_254 rfl ?_
            refine g_istore 257 rfl C X1006 (4 : Int32) rfl #[.val (.int p0), .val (.int p1), .val (.long p2), .second, .val (.int v920), .val (.int v921), .val (.ref o924), .val (.int (4 : Int32))] at_255 rfl ?_
            refine g_aload 259 rfl C X1006 at_257 rfl rfl ?_
            refine g_iload 261 rfl C X1006 at_259 rfl ?_
            refine g_sipush 264 rfl C X1006 (240 : Int32) at_261 rfl ?_
            refine g_iload 266 rfl C X1006 at_264 rfl ?_
            refine g_bipush 268 rfl C X1006 (18 : Int32) at_266 rfl ?_
            refine g_ishr 269 rfl C X1006 at_268 ?_
            refine g_ior 270 rfl C X1006 at_269 ?_
            refine g_i2b 271 rfl C X1006 at_270 ?_
            have hq1261 : 0 ≤ v921.toInt ∧ v921.toInt ≤ 3 := by
              have fr1262 := rng32 v921
              have fr1263 := rng32 p1
              have fc1264 : (3 : Int32).toInt = 3 := rfl
              have fo1265 : (p1 &&& (3 : Int32)).toInt = p1.toInt % 4 := c_mask p1 (3 : Int32) 2 (by decide) (by decide)
              have fe1266 : (p1 &&& (3 : Int32)).toInt = v921.toInt := congrArg Int32.toInt hv921
              omega
            obtain ⟨n1260, hn1260⟩ : ∃ n : Nat, v921.toInt = n := ⟨v921.toInt.toNat, by omega⟩
            have hn1260m : n1260 ≤ 3 := by omega
            obtain ⟨w1267, hw1267⟩ : ∃ z : Int32, ((((((240 : Int32) ||| (v920 >>> ((18 : Int32) &&& 31)))).toInt8.toInt32)).toInt8.toInt32) = z := ⟨_, rfl⟩
            refine g_bastore 272 rfl C X1006 e1007 B1013 (n1260) hn1260 (by omega) w1267 hw1267 at_271 N1010 gn930 fun T1268 h1269 ls1270 X1271 e1272 W1273 B1274 N1275 => ?_
            have Zs1276 := Nat.le_trans Zs1011 (Nat.le_of_eq W1273.size.symm)
            refine g_aload 274 rfl C X1271 at_272 rfl rfl ?_
            refine g_iload 276 rfl C X1271 at_274 rfl ?_
            refine g_iconst 277 rfl C X1271 (1 : Int32) at_276 rfl ?_
            refine g_iadd 278 rfl C X1271 at_277 ?_
            refine g_sipush 281 rfl C X1271 (128 : Int32) at_278 rfl ?_
            refine g_iload 283 rfl C X1271 at_281 rfl ?_
            refine g_bipush 285 rfl C X1271 (12 : Int32) at_283 rfl ?_
            refine g_ishr 286 rfl C X1271 at_285 ?_
            refine g_bipush 288 rfl C X1271 (63 : Int32) at_286 rfl ?_
            refine g_iand 289 rfl C X1271 at_288 ?_
            refine g_ior 290 rfl C X1271 at_289 ?_
            refine g_i2b 291 rfl C X1271 at_290 ?_
            have hq1277 : (v921 + (1 : Int32)).toInt = ((n1260 + 1 : Nat) : Int) := by
              have fr1278 := rng32 v921
              have fr1279 := rng32 p1
              have fc1280 : (3 : Int32).toInt = 3 := rfl
              have fo1281 : (p1 &&& (3 : Int32)).toInt = p1.toInt % 4 := c_mask p1 (3 : Int32) 2 (by decide) (by decide)
              have fe1282 : (p1 &&& (3 : Int32)).toInt = v921.toInt := congrArg Int32.toInt hv921
              have fc1283 : (1 : Int32).toInt = 1 := rfl
              have fo1284 := c_iadd v921 (1 : Int32)
              have fr1285 := rng32 (v921 + (1 : Int32))
              omega
            obtain ⟨w1286, hw1286⟩ : ∃ z : Int32, ((((((128 : Int32) ||| ((v920 >>> ((12 : Int32) &&& 31)) &&& (63 : Int32)))).toInt8.toInt32)).toInt8.toInt32) = z := ⟨_, rfl⟩
            refine g_bastore 292 rfl C X1271 e1272 B1274 (n1260 + 1) hq1277 (by omega) w1286 hw1286 at_291 N1275 gn930 fun T1287 h1288 ls1289 X1290 e1291 W1292 B1293 N1294 => ?_
            have Zs1295 := Nat.le_trans Zs1276 (Nat.le_of_eq W1292.size.symm)
            refine g_aload 294 rfl C X1290 at_292 rfl rfl ?_
            refine g_iload 296 rfl C X1290 at_294 rfl ?_
            refine g_iconst 297 rfl C X1290 (2 : Int32) at_296 rfl ?_
            refine g_iadd 298 rfl C X1290 at_297 ?_
            refine g_sipush 301 rfl C X1290 (128 : Int32) at_298 rfl ?_
            refine g_iload 303 rfl C X1290 at_301 rfl ?_
            refine g_bipush 305 rfl C X1290 (6 : Int32) at_303 rfl ?_
            refine g_ishr 306 rfl C X1290 at_305 ?_
            refine g_bipush 308 rfl C X1290 (63 : Int32) at_306 rfl ?_
            refine g_iand 309 rfl C X1290 at_308 ?_
            refine g_ior 310 rfl C X1290 at_309 ?_
            refine g_i2b 311 rfl C X1290 at_310 ?_
            have hq1296 : (v921 + (2 : Int32)).toInt = ((n1260 + 2 : Nat) : Int) := by
              have fr1297 := rng32 v921
              have fr1298 := rng32 p1
              have fc1299 : (3 : Int32).toInt = 3 := rfl
              have fo1300 : (p1 &&& (3 : Int32)).toInt = p1.toInt % 4 := c_mask p1 (3 : Int32) 2 (by decide) (by decide)
              have fe1301 : (p1 &&& (3 : Int32)).toInt = v921.toInt := congrArg Int32.toInt hv921
              have fc1302 : (2 : Int32).toInt = 2 := rfl
              have fo1303 := c_iadd v921 (2 : Int32)
              have fr1304 := rng32 (v921 + (2 : Int32))
              omega
            obtain ⟨w1305, hw1305⟩ : ∃ z : Int32, ((((((128 : Int32) ||| ((v920 >>> ((6 : Int32) &&& 31)) &&& (63 : Int32)))).toInt8.toInt32)).toInt8.toInt32) = z := ⟨_, rfl⟩
            refine g_bastore 312 rfl C X1290 e1291 B1293 (n1260 + 2) hq1296 (by omega) w1305 hw1305 at_311 N1294 gn930 fun T1306 h1307 ls1308 X1309 e1310 W1311 B1312 N1313 => ?_
            have Zs1314 := Nat.le_trans Zs1295 (Nat.le_of_eq W1311.size.symm)
            refine g_aload 314 rfl C X1309 at_312 rfl rfl ?_
            refine g_iload 316 rfl C X1309 at_314 rfl ?_
            refine g_iconst 317 rfl C X1309 (3 : Int32) at_316 rfl ?_
            refine g_iadd 318 rfl C X1309 at_317 ?_
            refine g_sipush 321 rfl C X1309 (128 : Int32) at_318 rfl ?_
            refine g_iload 323 rfl C X1309 at_321 rfl ?_
            refine g_bipush 325 rfl C X1309 (63 : Int32) at_323 rfl ?_
            refine g_iand 326 rfl C X1309 at_325 ?_
            refine g_ior 327 rfl C X1309 at_326 ?_
            refine g_i2b 328 rfl C X1309 at_327 ?_
            have hq1315 : (v921 + (3 : Int32)).toInt = ((n1260 + 3 : Nat) : Int) := by
              have fr1316 := rng32 v921
              have fr1317 := rng32 p1
              have fc1318 : (3 : Int32).toInt = 3 := rfl
              have fo1319 : (p1 &&& (3 : Int32)).toInt = p1.toInt % 4 := c_mask p1 (3 : Int32) 2 (by decide) (by decide)
              have fe1320 : (p1 &&& (3 : Int32)).toInt = v921.toInt := congrArg Int32.toInt hv921
              have fo1321 := c_iadd v921 (3 : Int32)
              have fr1322 := rng32 (v921 + (3 : Int32))
              omega
            obtain ⟨w1323, hw1323⟩ : ∃ z : Int32, ((((((128 : Int32) ||| (v920 &&& (63 : Int32)))).toInt8.toInt32)).toInt8.toInt32) = z := ⟨_, rfl⟩
            refine g_bastore 329 rfl C X1309 e1310 B1312 (n1260 + 3) hq1315 (by omega) w1323 hw1323 at_328 N1313 gn930 fun T1324 h1325 ls1326 X1327 e1328 W1329 B1330 N1331 => ?_
            have Zs1332 := Nat.le_trans Zs1314 (Nat.le_of_eq W1329.size.symm)
            refine g_aload 331 rfl C X1327 at_329 rfl rfl ?_
            refine g_iload 333 rfl C X1327 at_331 rfl ?_
            refine g_iload 335 rfl C X1327 at_333 rfl ?_
            refine g_callS 338 rfl C X1327 (argsL := [(.ref o924), (.int v921), (.int (4 : Int32))]) (hw _ (List.mem_of_getElem? (i := 4) rfl)) (hw _ (List.mem_of_getElem? (i := 5) rfl)) (hw _ (List.mem_of_getElem? (i := 7) rfl)) (hw _ (List.mem_of_getElem? (i := 6) rfl)) e1328 (rm1_4 l Z a0 hw [] o924 v921 (upd (upd (upd (upd f1012 (n1260) w1267) (n1260 + 1) w1286) (n1260 + 2) w1305) (n1260 + 3) w1323) n1260 w1267 w1286 w1305 w1323 h1325 n0 Zs1332 B1330 hn1260 (by omega) (by omega) ((upd_ne (by omega)).trans ((upd_ne (by omega)).trans ((upd_ne (by omega)).trans (upd_same (by omega))))) ((upd_ne (by omega)).trans ((upd_ne (by omega)).trans (upd_same (by omega)))) ((upd_ne (by omega)).trans (upd_same (by omega))) (upd_same (by omega))) (lenOf pd_14998784 rfl) (by decide) (by decide) (by decide) (by decide) rfl (W := 0) (Nat.le_of_eq rfl) (by decide) at_335 rfl fun r1333 T1334 Lc1335 X1336 hQ1337 => ?_
            obtain ⟨r1338, rfl, hs1339, Nq1340, eh1341⟩ := hQ1337
            have N1342 := Fr.app N1331 Nq1340
            show Goes _ _ _ _ _ _ 338 _ [(.int r1338)]
            refine g_iload 340 rfl C X1336 at_338 rfl ?_
            have hq1344 : r1338.toInt = v920.toInt := by
              have fr1345 := rng32 r1338
              have fr1346 := rng32 v920
              have fr1347 := rng32 v1
              have fr1348 := rng32 p0
              have fc1349 : (2147483647 : Int32).toInt = 2147483647 := rfl
              have fo1350 : (p0 &&& (2147483647 : Int32)).toInt = p0.toInt % 2147483648 := c_mask p0 (2147483647 : Int32) 31 (by decide) (by decide)
              have fc1351 : (1114112 : Int32).toInt = 1114112 := rfl
              have fo1352 := c_irem (p0 &&& (2147483647 : Int32)) (1114112 : Int32) 1114112 rfl
              have fr1353 := rng32 ((p0 &&& (2147483647 : Int32)) % (1114112 : Int32))
              have fe1354 : ((p0 &&& (2147483647 : Int32)) % (1114112 : Int32)).toInt = v1.toInt := congrArg Int32.toInt hv1
              have fc1355 : (2048 : Int32).toInt = 2048 := rfl
              have fo1356 := c_iadd v1 (2048 : Int32)
              have fr1357 := rng32 (v1 + (2048 : Int32))
              have fe1358 : (v1 + (2048 : Int32)).toInt = v920.toInt := congrArg Int32.toInt hv920
              have fc1359 : (55296 : Int32).toInt = 55296 := rfl
              have fc1360 : (57343 : Int32).toInt = 57343 := rfl
              have fc1361 : (128 : Int32).toInt = 128 := rfl
              have fc1362 : (65536 : Int32).toInt = 65536 := rfl
              have fr1363 := rng32 w1267
              have fc1364 : (240 : Int32).toInt = 240 := rfl
              have fc1365 : (18 : Int32).toInt = 18 := rfl
              have fo1366 : ((v920 >>> ((18 : Int32) &&& 31))).toInt = v920.toInt / 262144 := c_ishr v920 (18 : Int32) 18 (by decide)
              have fo1367 := c_or (240 : Int32) (v920 >>> ((18 : Int32) &&& 31)) 4 (by decide) 16 (by decide) (by omega) (by omega) (by omega)
              have fr1368 := rng32 ((240 : Int32) ||| (v920 >>> ((18 : Int32) &&& 31)))
              have fo1369 := c_i2b ((240 : Int32) ||| (v920 >>> ((18 : Int32) &&& 31)))
              have fo1370 := c_i2b ((((240 : Int32) ||| (v920 >>> ((18 : Int32) &&& 31)))).toInt8.toInt32)
              have fe1371 : ((((((240 : Int32) ||| (v920 >>> ((18 : Int32) &&& 31)))).toInt8.toInt32)).toInt8.toInt32).toInt = w1267.toInt := congrArg Int32.toInt hw1267
              have fr1372 := rng32 w1286
              have fc1373 : (12 : Int32).toInt = 12 := rfl
              have fo1374 : ((v920 >>> ((12 : Int32) &&& 31))).toInt = v920.toInt / 4096 := c_ishr v920 (12 : Int32) 12 (by decide)
              have fc1375 : (63 : Int32).toInt = 63 := rfl
              have fo1376 : ((v920 >>> ((12 : Int32) &&& 31)) &&& (63 : Int32)).toInt = (v920 >>> ((12 : Int32) &&& 31)).toInt % 64 := c_mask (v920 >>> ((12 : Int32) &&& 31)) (63 : Int32) 6 (by decide) (by decide)
              have fo1377 := c_or (128 : Int32) ((v920 >>> ((12 : Int32) &&& 31)) &&& (63 : Int32)) 7 (by decide) 128 (by decide) (by omega) (by omega) (by omega)
              have fr1378 := rng32 ((128 : Int32) ||| ((v920 >>> ((12 : Int32) &&& 31)) &&& (63 : Int32)))
              have fo1379 := c_i2b ((128 : Int32) ||| ((v920 >>> ((12 : Int32) &&& 31)) &&& (63 : Int32)))
              have fo1380 := c_i2b ((((128 : Int32) ||| ((v920 >>> ((12 : Int32) &&& 31)) &&& (63 : Int32)))).toInt8.toInt32)
              have fe1381 : ((((((128 : Int32) ||| ((v920 >>> ((12 : Int32) &&& 31)) &&& (63 : Int32)))).toInt8.toInt32)).toInt8.toInt32).toInt = w1286.toInt := congrArg Int32.toInt hw1286
              have fr1382 := rng32 w1305
              have fc1383 : (6 : Int32).toInt = 6 := rfl
              have fo1384 : ((v920 >>> ((6 : Int32) &&& 31))).toInt = v920.toInt / 64 := c_ishr v920 (6 : Int32) 6 (by decide)
              have fo1385 : ((v920 >>> ((6 : Int32) &&& 31)) &&& (63 : Int32)).toInt = (v920 >>> ((6 : Int32) &&& 31)).toInt % 64 := c_mask (v920 >>> ((6 : Int32) &&& 31)) (63 : Int32) 6 (by decide) (by decide)
              have fo1386 := c_or (128 : Int32) ((v920 >>> ((6 : Int32) &&& 31)) &&& (63 : Int32)) 7 (by decide) 128 (by decide) (by omega) (by omega) (by omega)
              have fr1387 := rng32 ((128 : Int32) ||| ((v920 >>> ((6 : Int32) &&& 31)) &&& (63 : Int32)))
              have fo1388 := c_i2b ((128 : Int32) ||| ((v920 >>> ((6 : Int32) &&& 31)) &&& (63 : Int32)))
              have fo1389 := c_i2b ((((128 : Int32) ||| ((v920 >>> ((6 : Int32) &&& 31)) &&& (63 : Int32)))).toInt8.toInt32)
              have fe1390 : ((((((128 : Int32) ||| ((v920 >>> ((6 : Int32) &&& 31)) &&& (63 : Int32)))).toInt8.toInt32)).toInt8.toInt32).toInt = w1305.toInt := congrArg Int32.toInt hw1305
              have fr1391 := rng32 w1323
              have fo1392 : (v920 &&& (63 : Int32)).toInt = v920.toInt % 64 := c_mask v920 (63 : Int32) 6 (by decide) (by decide)
              have fo1393 := c_or (128 : Int32) (v920 &&& (63 : Int32)) 7 (by decide) 128 (by decide) (by omega) (by omega) (by omega)
              have fr1394 := rng32 ((128 : Int32) ||| (v920 &&& (63 : Int32)))
              have fo1395 := c_i2b ((128 : Int32) ||| (v920 &&& (63 : Int32)))
              have fo1396 := c_i2b ((((128 : Int32) ||| (v920 &&& (63 : Int32)))).toInt8.toInt32)
              have fe1397 : ((((((128 : Int32) ||| (v920 &&& (63 : Int32)))).toInt8.toInt32)).toInt8.toInt32).toInt = w1323.toInt := congrArg Int32.toInt hw1323
              omega
            refine g_icmp_ne_f 343 rfl C X1336 at_340 hq1344 ?_
            refine g_iconst 344 rfl C X1336 (1 : Int32) at_343 rfl ?_
            refine g_goto 348 C X1336 at_344 (by decide) (by decide) ?_
            exact g_retN C X1336 (z' := (1 : Int32)) rfl (Or.inl rfl) at_348 eh1341 (by decide) (by decide) rfl ⟨rfl, N1342⟩
set_option maxRecDepth 65536 in
set_option maxHeartbeats 40000000 in
theorem comes_1 {Post : Tables → Env → Array Value → State → Outcome → State → Prop} (hpost : ∀ tb e args s v u, (limb_1_1.after args s (.returned v) u = true ∧ limb_1_2.after args s (.returned v) u = true ∧ True) → FrameEnd s (.returned v) u (Jvm.fieldLocs frame_1_writes args s ++ Jvm.arrayLocs frame_1_arrays args s ++ Jvm.staticLocs frame_1_statics s) 16 128 → Post tb e args s (.returned v) u) :
    ArmFor flags0 classFile x code maxLocals ret World_1 tables_1 room_1 Calls_1 rest_1 Pre_1 Post := by
  intro l hfl _ _ p e ha hc hk s m args below hf hA hF happ hP
  obtain ⟨hcalls, hrest, hpre⟩ := hP
  obtain ⟨-, -, -, hnamed, -, -, -, hat⟩ := (Spec.applies_iff hf).mp happ
  obtain ⟨hg, hn⟩ := and_e (Cond.before_iff.mp (show (Jvm.Cond.and given_1 narrow_1).before args s = true from hpre))
  obtain ⟨g1, g2⟩ := and_e hg
  obtain ⟨g3, g4⟩ := and_e g2
  obtain ⟨g5, g6⟩ := and_e g4
  obtain ⟨w0, w1, w2, rfl⟩ : ∃ w0 w1 w2 : Value, args = #[w0, w1, w2] := by
    have hs : args.size = 3 := by simpa [Cond.value, given_1] using g1
    obtain ⟨L⟩ := args
    match L, hs with
    | [w0, w1, w2], _ => exact ⟨w0, w1, w2, rfl⟩
  have hw := fun d (hd : d ∈ tables_1) => atoms_spec (ws := Jvm.Cond.code x code maxLocals ret :: tables_1) hat d (List.mem_cons_of_mem _ hd)
  obtain ⟨i0, ei0⟩ := is_v g3
  obtain rfl : w0 = (.int i0) := Option.some.inj ei0
  obtain ⟨i1, ei1⟩ := is_v g5
  obtain rfl : w1 = (.int i1) := Option.some.inj ei1
  obtain ⟨i2, ei2⟩ := isL_v g6
  obtain rfl : w2 = (.long i2) := Option.some.inj ei2
  obtain ⟨n, o, h1, h2, h3, _, L, rfl, ⟨rfl, N⟩, hq⟩ := rm0 l s _ hw tables_1 i0 i1 i2 s.heap s.heap.size (Nat.le_refl _) p e ha hc hk s m _ below hf ((Spec.applies_iff_loose hf).mp happ).1 ⟨rfl, State.Warmed39.refl s, rfl⟩ trivial
  refine ⟨n, _, h1, h2, h3, hpost _ _ _ _ _ _ ⟨Cond.after_iff.mpr rfl, Cond.after_iff.mpr (eq_i res_at (Term.int_eval (1)) rfl), trivial⟩ ⟨hq.1, hq.2.1, (hq.2.2.sift fun y hy => Or.inr (N y hy)).mono (by decide) (by decide)⟩⟩
theorem main_1_1 : Claimed_1_1 := comes_1 fun _ _ _ _ _ _ h hF => ⟨h.1, hF⟩
theorem main_1_2 : Claimed_1_2 := comes_1 fun _ _ _ _ _ _ h hF => ⟨h.2.1, hF⟩
end Jvm.Pilot.@@N@@
namespace Jvm.Pilot.@@N@@
open Jvm Jvm.ClassFile Sem Op Lib Jvm.Free Jvm.Stand Jvm.Pilot.@@N@@.Jvm.D
/-! MADE BY PROGRAM (witnessworld.py) out of the Statement's table words and the real class files: 9 classes; the members and pool entries that the words name. The judged class is class 1, her method 1. -/
namespace start1
open Jvm.ClassFile
def u (s : String) : CpInfo := .utf8 (stringToUtf16 s)
/-- a pool by its gaps: so many unusable entries, then the entry; so many at the end -/
def gap : Nat → List CpInfo → List CpInfo
  | 0, r => r
  | n + 1, r => .unusable :: gap n r
def poolList (es : List (Nat × CpInfo)) (last : Nat) : List CpInfo := es.foldr (fun e r => gap e.1 (e.2 :: r)) (gap last [])
def pool (es : List (Nat × CpInfo)) (last : Nat) : Array CpInfo := ⟨poolList es last⟩
def fileOf (pool : Array CpInfo) (this : Nat) (attrs : Array Attribute := #[]) (ms : Array MethodInfo := #[]) (fl : Nat := 33) (sup : Nat := 0) (ifs : Array Nat := #[]) (fds : Array FieldInfo := #[]) : ClassFile where
  minorVersion := 0
  majorVersion := 65
  constantPool := pool
  accessFlags := fl
  thisClass := this
  superClass := sup
  interfaces := ifs
  fields := fds
  methods := ms
  attributes := attrs
def plain (name : String) (sup : Option ClassId) : Class where
  name := name
  kind := .ordinary
  loader := none
  accessFlags := 33
  super := sup
  interfaces := #[]
  cf := none
  fields := #[]
  methods := #[]
  instanceTypes := #[]
  staticTypes := #[]
  resolved := #[]
  callSites := []
  init := .initialized
  statics := none
  mirror := none

def pool0 : Array CpInfo := pool [(5, u "<init>"), (0, u "()V"), (1, .class_ 10), (1, u "java/lang/Object")] 113

def k0m0 : Method := { name := "<init>", desc := "()V", sig := { parameters := [], returnType := none }, accessFlags := 1, code := none }
/-- java/lang/Object -/
def k0 : Class := { plain "java/lang/Object" none with
  accessFlags := 33
  interfaces := #[]
  cf := some (fileOf pool0 8 #[] #[{ accessFlags := 1, nameIndex := 5, descriptorIndex := 6, attributes := #[] }] 33 0 #[] #[])
  fields := #[]
  methods := #[k0m0]
  instanceTypes := #[]
  staticTypes := #[]
  resolved := Array.replicate 124 none
  statics := none }

def pool1 : Array CpInfo := pool [(2, .class_ 4), (1, u "java/lang/Object"), (0, u "<init>"), (0, u "()V"), (0, .integer 2147483647), (0, .integer 1114112), (0, .integer 55296), (0, .integer 57343), (0, .integer 65536), (0, .methodref 13 14), (0, .class_ 15), (0, .nameAndType 16 17), (0, u "com/example/schedario/schedario/records/Utf8"), (0, u "codePoint"), (0, u "([BII)I"), (0, .class_ 19), (0, u "com/example/schedario/schedario/records/Utf8CodePointPinLaw"), (2, u "law"), (0, u "(IIJ)Z")] 5

def k1m0 : Method := { name := "<init>", desc := "()V", sig := { parameters := [], returnType := none }, accessFlags := 2, code := none }
def k1c1 : Code := { maxStack := 5, maxLocals := 8, code := code, exceptionTable := #[], attributes := #[] }
def k1m1 : Method := { name := "law", desc := "(IIJ)Z", sig := { parameters := [.int, .int, .long], returnType := some .boolean }, accessFlags := 9, code := some k1c1 }
/-- com/example/schedario/schedario/records/Utf8CodePointPinLaw -/
def k1 : Class := { plain "com/example/schedario/schedario/records/Utf8CodePointPinLaw" (some 0) with
  accessFlags := 49
  interfaces := #[]
  cf := some (fileOf pool1 18 #[] #[{ accessFlags := 2, nameIndex := 5, descriptorIndex := 6, attributes := #[] }, { accessFlags := 9, nameIndex := 22, descriptorIndex := 23, attributes := #[] }] 49 2 #[] #[])
  fields := #[]
  methods := #[k1m0, k1m1]
  instanceTypes := #[]
  staticTypes := #[]
  resolved := Array.replicate 29 none
  statics := none }

def pool2 : Array CpInfo := pool [(2, .class_ 4), (1, u "java/lang/Object"), (0, u "<init>"), (0, u "()V"), (1, .class_ 10), (1, u "com/example/schedario/schedario/records/Utf8"), (1, u "([BII)I"), (13, u "codePoint")] 4

def k2m0 : Method := { name := "<init>", desc := "()V", sig := { parameters := [], returnType := none }, accessFlags := 2, code := none }
def k2c1 : Code := { maxStack := 4, maxLocals := 5, code := prog_50_method_4_code, exceptionTable := #[], attributes := #[] }
def k2m1 : Method := { name := "codePoint", desc := "([BII)I", sig := { parameters := [(.array .byte), .int, .int], returnType := some .int }, accessFlags := 8, code := some k2c1 }
/-- com/example/schedario/schedario/records/Utf8 -/
def k2 : Class := { plain "com/example/schedario/schedario/records/Utf8" (some 0) with
  accessFlags := 48
  interfaces := #[]
  cf := some (fileOf pool2 8 #[] #[{ accessFlags := 2, nameIndex := 5, descriptorIndex := 6, attributes := #[] }, { accessFlags := 8, nameIndex := 26, descriptorIndex := 12, attributes := #[] }] 48 2 #[] #[])
  fields := #[]
  methods := #[k2m0, k2m1]
  instanceTypes := #[]
  staticTypes := #[]
  resolved := Array.replicate 31 none
  statics := none }

def pool3 : Array CpInfo := pool [(1, u "java/lang/Cloneable"), (0, .class_ 1), (0, u "java/lang/Object"), (0, .class_ 3)] 3

/-- java/lang/Cloneable -/
def k3 : Class := { plain "java/lang/Cloneable" (some 0) with
  accessFlags := 1537
  interfaces := #[]
  cf := some (fileOf pool3 2 #[] #[] 1537 4 #[] #[])
  fields := #[]
  methods := #[]
  instanceTypes := #[]
  staticTypes := #[]
  resolved := Array.replicate 8 none
  statics := none }

def pool4 : Array CpInfo := pool [(1, u "java/io/Serializable"), (0, .class_ 1), (0, u "java/lang/Object"), (0, .class_ 3)] 3

/-- java/io/Serializable -/
def k4 : Class := { plain "java/io/Serializable" (some 0) with
  accessFlags := 1537
  interfaces := #[]
  cf := some (fileOf pool4 2 #[] #[] 1537 4 #[] #[])
  fields := #[]
  methods := #[]
  instanceTypes := #[]
  staticTypes := #[]
  resolved := Array.replicate 8 none
  statics := none }

/-- the primitive byte -/
def k5 : Class := { plain "byte" none with kind := .primitive 'B', accessFlags := 0x411 }
/-- [B -/
def k6 : Class := { plain "[B" (some 0) with kind := .array 5 .byte, interfaces := #[3, 4], accessFlags := 1041 }

/-- the primitive int -/
def k7 : Class := { plain "int" none with kind := .primitive 'I', accessFlags := 0x411 }
/-- [I -/
def k8 : Class := { plain "[I" (some 0) with kind := .array 7 .int, interfaces := #[3, 4], accessFlags := 1041 }

def heap : Heap := #[]
def classes : Array Class := #[k0, k1, k2, k3, k4, k5, k6, k7, k8]
def interned : List (Array UInt16 × Addr) := []
def slotsUsed : Nat := 0
def theMethod : MethodId := ⟨1, 1⟩
def args0 : Array Value := #[.int 5, .int 7, .long 9]
def aboutOver (below : List Frame) : State where
  vm := { classes := classes, interned := interned.toArray }
  heap := heap
  slotsUsed := slotsUsed
  threads := #[{ frames := .invoking theMethod args0 :: below }]
def below0 : List Frame := [.native { method := ⟨0, 0⟩, args := #[] }]
def about1 : State := aboutOver below0
def p0 : Program := .bare "" "" ""
def e0 : Env := launch0.env 0 0 0
theorem w_frames : about1.frames = Frame.invoking theMethod args0 :: below0 := rfl
set_option maxRecDepth 65536 in
theorem w_args : argsFit about1.vm theMethod args0 = true := by decide +kernel
set_option maxRecDepth 65536 in
theorem w_heap : heapFits about1 = true := by decide +kernel
set_option maxRecDepth 65536 in
theorem w_runnable : about1.curStatus? = some .runnable := by decide +kernel
set_option maxRecDepth 65536 in
theorem w_alone : about1.alone = true := by decide +kernel
set_option maxRecDepth 65536 in
theorem w_named : about1.methodNamed? x = some theMethod := by decide +kernel
set_option maxRecDepth 65536 in
theorem w_hears : about1.hears theMethod below0 = true := by decide +kernel
set_option maxRecDepth 65536 in
theorem w_ripe : about1.ripe theMethod args0 below0 = true := by decide +kernel
theorem w_running : about1.status = .running := rfl
set_option maxRecDepth 65536 in
theorem w_room : about1.hasRoom e0.platform room_1 = true :=
  launch0.hasRoom_least _ room_1 (by decide +kernel) (by decide +kernel) (by decide +kernel) (by decide +kernel) (by decide +kernel) (by decide +kernel)
theorem allAtoms_all (ts : List Jvm.Cond) (a : Array Jvm.Value) (st : Jvm.State) : (allAtoms ts).before a st = ts.all (fun c => c.before a st) := by
  induction ts with
  | nil => rfl
  | cons c t ih =>
    show (Jvm.Cond.and c (allAtoms t)).before a st = _
    rw [Jvm.Cond.before_and, ih, List.all_cons]
def words1 : List Jvm.Cond := Jvm.Cond.code x code maxLocals ret :: tables_1
/-- a 'code' word, met by the world's own term for the bytes: nothing is compared byte by byte -/
theorem code_word {y : MethodName} {bytes : ByteArray} {mx : Nat} {rt : Option FieldType} {a : Array Value} {s : State} {m : MethodId} {meth : Method} {c : Code} (h1 : s.methodNamed? y = some m) (h2 : s.vm.method? m = some meth) (h3 : meth.code = some c) (h4 : c.code = bytes)
    (h5 : (c.maxLocals == mx && c.exceptionTable.isEmpty && decide (c.maxStack ≤ mostOperands) && decide (meth.sig.returnType = rt) && !meth.locks && decide (parseMethodDescriptor y.desc = some meth.sig)) = true) : (Jvm.Cond.code y bytes mx rt).before a s = true := by
  simp only [Bool.and_eq_true, beq_iff_eq, Bool.not_eq_true', decide_eq_true_eq] at h5
  obtain ⟨⟨⟨⟨⟨g1, g2⟩, g3⟩, g4⟩, g5⟩, g6⟩ := h5
  simp [Cond.before, Cond.holds, Cond.value, h1, h2, h3, h4, g1, g2, g3, g4, g5, g6]
def isCode : Jvm.Cond → Bool
  | .code _ _ _ _ => true
  | _ => false
theorem all_split {L : List Jvm.Cond} {P : Jvm.Cond → Bool} (h1 : L.all (fun c => isCode c || P c) = true) (h2 : ∀ c ∈ L.filter isCode, P c = true) : L.all P = true := by
  refine List.all_eq_true.mpr fun c hc => ?_
  have h := List.all_eq_true.mp h1 c hc
  rcases Bool.eq_false_or_eq_true (isCode c) with hi | hi
  · exact h2 c (List.mem_filter.mpr ⟨hc, hi⟩)
  · simpa [hi] using h
set_option maxRecDepth 65536 in
theorem w_c0 : (Jvm.Cond.code x code maxLocals ret).before args0 about1 = true := code_word (m := ⟨1, 1⟩) (meth := k1m1) (c := k1c1) (by decide +kernel) rfl rfl rfl (by decide +kernel)
set_option maxRecDepth 65536 in
theorem w_c1 : (Jvm.Cond.code ({ cls := "com/example/schedario/schedario/records/Utf8", name := "codePoint", desc := "([BII)I" } : Jvm.MethodName) prog_50_method_4_code (5 : Nat) (Option.some Jvm.ClassFile.FieldType.int)).before args0 about1 = true := code_word (m := ⟨2, 1⟩) (meth := k2m1) (c := k2c1) (by decide +kernel) rfl rfl rfl (by decide +kernel)
def codes1 : List Jvm.Cond := [Jvm.Cond.code x code maxLocals ret, Jvm.Cond.code ({ cls := "com/example/schedario/schedario/records/Utf8", name := "codePoint", desc := "([BII)I" } : Jvm.MethodName) prog_50_method_4_code (5 : Nat) (Option.some Jvm.ClassFile.FieldType.int)]
set_option maxRecDepth 65536 in
theorem codes_eq : words1.filter isCode = codes1 := rfl
theorem w_codes : ∀ c ∈ words1.filter isCode, c.before args0 about1 = true := by
  rw [codes_eq]
  intro c hc
  simp only [codes1, List.mem_cons, List.not_mem_nil, or_false] at hc
  rcases hc with rfl | rfl
  · exact w_c0
  · exact w_c1
set_option maxRecDepth 65536 in
theorem w_t1 : words1.all (fun c => isCode c || c.before args0 about1) = true := by decide +kernel
theorem w_tables : (allAtoms (Jvm.Cond.code x code maxLocals ret :: tables_1)).before args0 about1 = true := by
  rw [allAtoms_all]
  show words1.all (fun c => c.before args0 about1) = true
  refine all_split ?_ w_codes
  rw [w_t1]
set_option maxRecDepth 65536 in
theorem w_case : (Jvm.Cond.and given_1 narrow_1).before args0 about1 = true := by decide +kernel
theorem w_applies : (headSpec (Jvm.Cond.code x code maxLocals ret :: tables_1) room_1).applies x e0.platform about1 = true :=
  (Spec.applies_iff w_frames).mpr ⟨w_running, w_runnable, w_alone, w_named, w_hears, w_ripe, w_room, w_tables⟩
theorem atStart : AtStart classFile x code maxLocals ret World_1 tables_1 room_1 Calls_1 rest_1 Pre_1 launch0 p0 e0 about1 theMethod args0 below0 :=
  ⟨lists_1, trivial, launch0.admits_env _ _ _, launch0.least_env, fairChoices_fair.cas, fairChoices_fair.clock, w_frames, w_args, w_heap, w_applies, trivial, trivial, w_case⟩
end start1
theorem witness_1 : WitnessClaimed_1 := ⟨start1.p0, start1.e0, start1.about1, start1.theMethod, start1.args0, start1.below0, start1.atStart⟩
end Jvm.Pilot.@@N@@
