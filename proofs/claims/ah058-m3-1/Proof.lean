import JvmDerived
import JvmDerived.Pilot.@@N@@Statement
import JvmDerived.Pilot.@@N@@Code
set_option linter.unusedVariables false
set_option linter.unusedSimpArgs false
namespace Jvm.Pilot.@@N@@
open Jvm Jvm.ClassFile Sem Op Lib Jvm.Free Jvm.Stand Jvm.LawKit Jvm.RoadKit Bundle Jvm.Pilot.@@N@@.Jvm.D
section Own
set_option maxHeartbeats 4000000
variable {p : Program} {l : Launch} {e : Env} {R : Room} {s : State} {m : MethodId} {args : Array Value} {below : List Frame} {meth : Method} {c : Code} {T : State} {locs : List Loc} {cells slots : Nat} {Z : State} {a0 : Array Value} {h : Heap} {own nm : String} {bytes : ByteArray} {ml : Nat} {rt : Option FieldType} {Q : Option Value → Heap → List Loc → Prop} {CC SS : Nat} {E : Outcome → State → Prop} {pc : Nat} {Ls : Array Slot} {St : List Value}
def Ctx (p : Program) (s : State) (m : MethodId) (meth : Method) (c : Code) (Z : State) (own nm : String) (bytes : ByteArray) (ml : Nat) (rt : Option FieldType) : Prop :=
  p.tables.exec = Jvm.exec ∧ Z.Warmed39 s.vm ∧ c.code = bytes ∧ c.maxLocals = ml ∧ s.vm.findClass own = some m.cls ∧ meth.locks = false ∧ meth.sig.returnType = rt ∧ meth.name = nm
theorem Ctx.c_x (C : Ctx p s m meth c Z own nm bytes ml rt) : p.tables.exec = Jvm.exec := C.1
theorem Ctx.c_z (C : Ctx p s m meth c Z own nm bytes ml rt) : Z.Warmed39 s.vm := C.2.1
theorem Ctx.c_by (C : Ctx p s m meth c Z own nm bytes ml rt) : c.code = bytes := C.2.2.1
theorem Ctx.c_ml (C : Ctx p s m meth c Z own nm bytes ml rt) : c.maxLocals = ml := C.2.2.2.1
theorem Ctx.c_own (C : Ctx p s m meth c Z own nm bytes ml rt) : s.vm.findClass own = some m.cls := C.2.2.2.2.1
theorem Ctx.c_lk (C : Ctx p s m meth c Z own nm bytes ml rt) : meth.locks = false := C.2.2.2.2.2.1
theorem Ctx.c_rt (C : Ctx p s m meth c Z own nm bytes ml rt) : meth.sig.returnType = rt := C.2.2.2.2.2.2.1
theorem Ctx.c_nm (C : Ctx p s m meth c Z own nm bytes ml rt) : meth.name = nm := C.2.2.2.2.2.2.2
def EndN (s : State) (Q : Option Value → Heap → List Loc → Prop) (CC SS : Nat) (o : Outcome) (t : State) : Prop := ∃ v L, o = .returned v ∧ Q v t.heap L ∧ FrameEnd s o t L CC SS
def Goes (p : Program) (e : Env) (below : List Frame) (E : Outcome → State → Prop) (T : State) (m : MethodId) (pc : Nat) (Ls : Array Slot) (St : List Value) : Prop :=
  ∃ s₂ o, Steps p.tables e below (T.setTop (mkF m pc Ls St)) s₂ ∧ s₂.status = .running ∧ Ended s₂ below o ∧ E o s₂
theorem Goes.back {T' : State} {q : Nat} {Ls' : Array Slot} {St' : List Value} (k : Goes p e below E T' m q Ls' St') (f : ∀ t, Steps p.tables e below (T'.setTop (mkF m q Ls' St')) t → Steps p.tables e below (T.setTop (mkF m pc Ls St)) t) : Goes p e below E T m pc Ls St := by
  obtain ⟨s2, o, h1, h2⟩ := k
  exact ⟨s2, o, f _ h1, h2⟩
theorem Goes.enter {g : JFrame} (hg : g = mkF m 0 Ls []) (k : Goes p e below (EndN s Q CC SS) T m 0 Ls []) : ∃ s₂ o, Steps p.tables e below (T.setTop g) s₂ ∧ s₂.status = .running ∧ Ended s₂ below o ∧ ∃ v L, o = .returned v ∧ Q v s₂.heap L ∧ FrameEnd s o s₂ L CC SS := by
  subst hg
  exact k
theorem Ctx.of {x : MethodName} {S : Spec} {s₁ : State} (Bd : BodyLoose p l x S bytes ml rt e s m args below meth c s₁) (hml : c.maxLocals = ml) (hZ : Z.Warmed39 s.vm) : Ctx p s m meth c Z x.cls x.name bytes ml rt :=
  ⟨Bd.exec, hZ, Bd.bytes, hml, findClass_of_methodNamed Bd.named, Bd.notSynchronized, Bd.returns, (name_of_methodNamed Bd.named Bd.method).1⟩
theorem g_iadd (q : Nat) (hq : pc + 1 = q) (C : Ctx p s m meth c Z own nm bytes ml rt) (X : Stand p l e R s m args below meth c T locs cells slots) {x y : Int32} (hd : decode bytes pc = .ok (.iadd, 1)) (k : Goes p e below E T m q Ls (.int (x + y) :: St)) : Goes p e below E T m pc Ls (.int y :: .int x :: St) := by
  subst hq
  exact k.back fun t kt => XS.iadd (g := mkF m pc Ls (.int y :: .int x :: St)) X.here C.c_x rfl (hb C.c_by hd) rfl kt
theorem g_iand (q : Nat) (hq : pc + 1 = q) (C : Ctx p s m meth c Z own nm bytes ml rt) (X : Stand p l e R s m args below meth c T locs cells slots) {x y : Int32} (hd : decode bytes pc = .ok (.iand, 1)) (k : Goes p e below E T m q Ls (.int (x &&& y) :: St)) : Goes p e below E T m pc Ls (.int y :: .int x :: St) := by
  subst hq
  exact k.back fun t kt => XS.iand (g := mkF m pc Ls (.int y :: .int x :: St)) X.here C.c_x rfl (hb C.c_by hd) rfl kt
theorem g_lmul (q : Nat) (hq : pc + 1 = q) (C : Ctx p s m meth c Z own nm bytes ml rt) (X : Stand p l e R s m args below meth c T locs cells slots) {x y : Int64} (hd : decode bytes pc = .ok (.lmul, 1)) (k : Goes p e below E T m q Ls (.long (x * y) :: St)) : Goes p e below E T m pc Ls (.long y :: .long x :: St) := by
  subst hq
  exact k.back fun t kt => XS.lmul (g := mkF m pc Ls (.long y :: .long x :: St)) X.here C.c_x rfl (hb C.c_by hd) rfl kt
theorem g_iushr (q : Nat) (hq : pc + 1 = q) (C : Ctx p s m meth c Z own nm bytes ml rt) (X : Stand p l e R s m args below meth c T locs cells slots) {x y : Int32} (hd : decode bytes pc = .ok (.iushr, 1)) (k : Goes p e below E T m q Ls (.int ((x.toUInt32 >>> (y &&& 31).toUInt32).toInt32) :: St)) : Goes p e below E T m pc Ls (.int y :: .int x :: St) := by
  subst hq
  exact k.back fun t kt => XS.iushr (g := mkF m pc Ls (.int y :: .int x :: St)) X.here C.c_x rfl (hb C.c_by hd) rfl kt
theorem g_i2l (q : Nat) (hq : pc + 1 = q) (C : Ctx p s m meth c Z own nm bytes ml rt) (X : Stand p l e R s m args below meth c T locs cells slots) {x : Int32} (hd : decode bytes pc = .ok (.i2l, 1)) (k : Goes p e below E T m q Ls (.long x.toInt64 :: St)) : Goes p e below E T m pc Ls (.int x :: St) := by
  subst hq
  exact k.back fun t kt => XS.i2l (g := mkF m pc Ls (.int x :: St)) X.here C.c_x rfl (hb C.c_by hd) rfl kt
theorem g_l2i (q : Nat) (hq : pc + 1 = q) (C : Ctx p s m meth c Z own nm bytes ml rt) (X : Stand p l e R s m args below meth c T locs cells slots) {x : Int64} (hd : decode bytes pc = .ok (.l2i, 1)) (k : Goes p e below E T m q Ls (.int x.toInt32 :: St)) : Goes p e below E T m pc Ls (.long x :: St) := by
  subst hq
  exact k.back fun t kt => XS.l2i (g := mkF m pc Ls (.long x :: St)) X.here C.c_x rfl (hb C.c_by hd) rfl kt
theorem g_lcmp (q : Nat) (hq : pc + 1 = q) (C : Ctx p s m meth c Z own nm bytes ml rt) (X : Stand p l e R s m args below meth c T locs cells slots) {x y : Int64} (hd : decode bytes pc = .ok (.lcmp, 1)) (k : Goes p e below E T m q Ls (.int (lcmpW x y) :: St)) : Goes p e below E T m pc Ls (.long y :: .long x :: St) := by
  subst hq
  exact k.back fun t kt => XS.lcmp (g := mkF m pc Ls (.long y :: .long x :: St)) X.here C.c_x rfl (hb C.c_by hd) rfl kt
theorem g_iconst (q : Nat) (hq : pc + 1 = q) (C : Ctx p s m meth c Z own nm bytes ml rt) (X : Stand p l e R s m args below meth c T locs cells slots) {i : Int} (v : Int32) (hd : decode bytes pc = .ok (.iconst i, 1)) (hv : Int32.ofInt i = v) (k : Goes p e below E T m q Ls (.int v :: St)) : Goes p e below E T m pc Ls St := by
  subst hq
  exact k.back fun t kt => XS.iconst (g := mkF m pc Ls St) X.here C.c_x rfl (hb C.c_by hd) (by subst hv; exact kt)
theorem g_bipush (q : Nat) (hq : pc + 2 = q) (C : Ctx p s m meth c Z own nm bytes ml rt) (X : Stand p l e R s m args below meth c T locs cells slots) {i : Int} (v : Int32) (hd : decode bytes pc = .ok (.bipush i, 2)) (hv : (Int8.ofInt i).toInt32 = v) (k : Goes p e below E T m q Ls (.int v :: St)) : Goes p e below E T m pc Ls St := by
  subst hq
  exact k.back fun t kt => XS.bipush (g := mkF m pc Ls St) X.here C.c_x rfl (hb C.c_by hd) (by subst hv; exact kt)
theorem g_iloadN (q : Nat) (hq : pc + 1 = q) (C : Ctx p s m meth c Z own nm bytes ml rt) (X : Stand p l e R s m args below meth c T locs cells slots) {k0 : Fin 4} {v : Int32} (hd : decode bytes pc = .ok (.iload_n k0, 1)) (hl : Ls[k0.val]? = some (.val (.int v))) (k : Goes p e below E T m q Ls (.int v :: St)) : Goes p e below E T m pc Ls St := by
  subst hq
  exact k.back fun t kt => XS.iloadN (g := mkF m pc Ls St) X.here C.c_x rfl (hb C.c_by hd) hl kt
theorem g_iload (q : Nat) (hq : pc + 2 = q) (C : Ctx p s m meth c Z own nm bytes ml rt) (X : Stand p l e R s m args below meth c T locs cells slots) {k0 : Nat} {v : Int32} (hd : decode bytes pc = .ok (.iload k0, 2)) (hl : Ls[k0]? = some (.val (.int v))) (k : Goes p e below E T m q Ls (.int v :: St)) : Goes p e below E T m pc Ls St := by
  subst hq
  exact k.back fun t kt => XS.iload (g := mkF m pc Ls St) X.here C.c_x rfl (hb C.c_by hd) hl kt
theorem g_lloadN (q : Nat) (hq : pc + 1 = q) (C : Ctx p s m meth c Z own nm bytes ml rt) (X : Stand p l e R s m args below meth c T locs cells slots) {k0 : Fin 4} {v : Int64} (hd : decode bytes pc = .ok (.lload_n k0, 1)) (hl : Ls[k0.val]? = some (.val (.long v))) (k : Goes p e below E T m q Ls (.long v :: St)) : Goes p e below E T m pc Ls St := by
  subst hq
  exact k.back fun t kt => XS.lloadN (g := mkF m pc Ls St) X.here C.c_x rfl (hb C.c_by hd) hl kt
theorem g_aloadN (q : Nat) (hq : pc + 1 = q) (C : Ctx p s m meth c Z own nm bytes ml rt) (X : Stand p l e R s m args below meth c T locs cells slots) {k0 : Fin 4} {v : Value} (hd : decode bytes pc = .ok (.aload_n k0, 1)) (hl : Ls[k0.val]? = some (.val v)) (hv : v.isRef = true) (k : Goes p e below E T m q Ls (v :: St)) : Goes p e below E T m pc Ls St := by
  subst hq
  exact k.back fun t kt => XS.aloadN (g := mkF m pc Ls St) X.here C.c_x rfl (hb C.c_by hd) hl hv kt
theorem g_aload (q : Nat) (hq : pc + 2 = q) (C : Ctx p s m meth c Z own nm bytes ml rt) (X : Stand p l e R s m args below meth c T locs cells slots) {k0 : Nat} {v : Value} (hd : decode bytes pc = .ok (.aload k0, 2)) (hl : Ls[k0]? = some (.val v)) (hv : v.isRef = true) (k : Goes p e below E T m q Ls (v :: St)) : Goes p e below E T m pc Ls St := by
  subst hq
  exact k.back fun t kt => XS.aload (g := mkF m pc Ls St) X.here C.c_x rfl (hb C.c_by hd) hl hv kt
theorem g_istoreN (q : Nat) (hq : pc + 1 = q) (C : Ctx p s m meth c Z own nm bytes ml rt) (X : Stand p l e R s m args below meth c T locs cells slots) {k0 : Fin 4} {x : Int32} (v : Int32) (hv : x = v) (Ls' : Array Slot) (hd : decode bytes pc = .ok (.istore_n k0, 1)) (hl : storeLocals Ls k0.val (.int v) = some Ls') (k : Goes p e below E T m q Ls' St) : Goes p e below E T m pc Ls (.int x :: St) := by
  subst hq
  exact k.back fun t kt => XS.istoreN (g := mkF m pc Ls (.int x :: St)) X.here C.c_x rfl (hb C.c_by hd) rfl (by subst hv; exact hl) kt
theorem g_istore (q : Nat) (hq : pc + 2 = q) (C : Ctx p s m meth c Z own nm bytes ml rt) (X : Stand p l e R s m args below meth c T locs cells slots) {k0 : Nat} {x : Int32} (v : Int32) (hv : x = v) (Ls' : Array Slot) (hd : decode bytes pc = .ok (.istore k0, 2)) (hl : storeLocals Ls k0 (.int v) = some Ls') (k : Goes p e below E T m q Ls' St) : Goes p e below E T m pc Ls (.int x :: St) := by
  subst hq
  exact k.back fun t kt => XS.istore (g := mkF m pc Ls (.int x :: St)) X.here C.c_x rfl (hb C.c_by hd) rfl (by subst hv; exact hl) kt
theorem g_astoreN (q : Nat) (hq : pc + 1 = q) (C : Ctx p s m meth c Z own nm bytes ml rt) (X : Stand p l e R s m args below meth c T locs cells slots) {k0 : Fin 4} {x : Value} (Ls' : Array Slot) (hd : decode bytes pc = .ok (.astore_n k0, 1)) (hv : x.isRef = true) (hl : storeLocals Ls k0.val x = some Ls') (k : Goes p e below E T m q Ls' St) : Goes p e below E T m pc Ls (x :: St) := by
  subst hq
  exact k.back fun t kt => XS.astoreN (g := mkF m pc Ls (x :: St)) X.here C.c_x rfl (hb C.c_by hd) rfl hv hl kt
theorem g_astore (q : Nat) (hq : pc + 2 = q) (C : Ctx p s m meth c Z own nm bytes ml rt) (X : Stand p l e R s m args below meth c T locs cells slots) {k0 : Nat} {x : Value} (Ls' : Array Slot) (hd : decode bytes pc = .ok (.astore k0, 2)) (hv : x.isRef = true) (hl : storeLocals Ls k0 x = some Ls') (k : Goes p e below E T m q Ls' St) : Goes p e below E T m pc Ls (x :: St) := by
  subst hq
  exact k.back fun t kt => XS.astore (g := mkF m pc Ls (x :: St)) X.here C.c_x rfl (hb C.c_by hd) rfl hv hl kt
theorem g_iinc (q : Nat) (hq : pc + 3 = q) (C : Ctx p s m meth c Z own nm bytes ml rt) (X : Stand p l e R s m args below meth c T locs cells slots) {k0 : Nat} {i : Int} {x : Int32} (w v : Int32) (Ls' : Array Slot) (hd : decode bytes pc = .ok (.iinc k0 i, 3)) (hw : Int32.ofInt i = w) (hl : Ls[k0]? = some (.val (.int x))) (hv : x + w = v) (hl' : storeLocals Ls k0 (.int v) = some Ls') (k : Goes p e below E T m q Ls' St) : Goes p e below E T m pc Ls St := by
  subst hq
  exact k.back fun t kt => XS.iinc (g := mkF m pc Ls St) X.here C.c_x rfl (hb C.c_by hd) hl (by subst hw hv; exact hl') kt
theorem g_dup (q : Nat) (hq : pc + 1 = q) (C : Ctx p s m meth c Z own nm bytes ml rt) (X : Stand p l e R s m args below meth c T locs cells slots) {v : Value} (hd : decode bytes pc = .ok (.dup, 1)) (hv : v.category = 1) (k : Goes p e below E T m q Ls (v :: v :: St)) : Goes p e below E T m pc Ls (v :: St) := by
  subst hq
  exact k.back fun t kt => XS.dup (g := mkF m pc Ls (v :: St)) X.here C.c_x rfl (hb C.c_by hd) rfl hv kt
theorem g_pop (q : Nat) (hq : pc + 1 = q) (C : Ctx p s m meth c Z own nm bytes ml rt) (X : Stand p l e R s m args below meth c T locs cells slots) {v : Value} (hd : decode bytes pc = .ok (.pop, 1)) (hv : v.category = 1) (k : Goes p e below E T m q Ls St) : Goes p e below E T m pc Ls (v :: St) := by
  subst hq
  exact k.back fun t kt => XS.pop (g := mkF m pc Ls (v :: St)) X.here C.c_x rfl (hb C.c_by hd) rfl hv kt
theorem g_dupX1 (q : Nat) (hq : pc + 1 = q) (C : Ctx p s m meth c Z own nm bytes ml rt) (X : Stand p l e R s m args below meth c T locs cells slots) {v w : Value} (hd : decode bytes pc = .ok (.dup_x1, 1)) (hv : v.category = 1) (hw : w.category = 1) (k : Goes p e below E T m q Ls (v :: w :: v :: St)) : Goes p e below E T m pc Ls (v :: w :: St) := by
  subst hq
  exact k.back fun t kt => XS.dupX1 (g := mkF m pc Ls (v :: w :: St)) X.here C.c_x rfl (hb C.c_by hd) rfl hv hw kt
theorem g_goto (q : Nat) (C : Ctx p s m meth c Z own nm bytes ml rt) (X : Stand p l e R s m args below meth c T locs cells slots) {o : Int} (hd : decode bytes pc = .ok (.goto o, 3)) (ho : 0 ≤ (pc : Int) + o) (hp : ((pc : Int) + o).toNat = q) (k : Goes p e below E T m q Ls St) : Goes p e below E T m pc Ls St :=
  k.back fun t kt => XS.goto (g := mkF m pc Ls St) X.here C.c_x rfl (pc0 := pc) (pc' := q) rfl (hb C.c_by hd) ho hp kt
theorem own_z0 : (0 : Int32).toInt = 0 := rfl
theorem own_0lt {x : Int32} : (0 : Int32) < x ↔ 0 < x.toInt := Int32.lt_iff_toInt_lt
theorem own_lt0 {x : Int32} : x < (0 : Int32) ↔ x.toInt < 0 := Int32.lt_iff_toInt_lt
theorem own_eq0 {x : Int32} : x = (0 : Int32) ↔ x.toInt = 0 := Int32.toInt_inj.symm
theorem g_icmp_lt_t (q : Nat) (C : Ctx p s m meth c Z own nm bytes ml rt) (X : Stand p l e R s m args below meth c T locs cells slots) {o : Int} {x y : Int32} (hd : decode bytes pc = .ok (.if_icmp .lt o, 3)) (ho : 0 ≤ (pc : Int) + o) (hp : ((pc : Int) + o).toNat = q) (h : x.toInt < y.toInt) (k : Goes p e below E T m q Ls St) : Goes p e below E T m pc Ls (.int y :: .int x :: St) :=
  k.back fun t kt => XS.icmpYes (g := mkF m pc Ls (.int y :: .int x :: St)) X.here C.c_x rfl (pc0 := pc) (pc' := q) rfl (hb C.c_by hd) rfl (tlt (Int32.lt_iff_toInt_lt.mpr h)).1 ho hp kt
theorem g_icmp_lt_f (q : Nat) (hq : pc + 3 = q) (C : Ctx p s m meth c Z own nm bytes ml rt) (X : Stand p l e R s m args below meth c T locs cells slots) {o : Int} {x y : Int32} (hd : decode bytes pc = .ok (.if_icmp .lt o, 3)) (h : ¬ x.toInt < y.toInt) (k : Goes p e below E T m q Ls St) : Goes p e below E T m pc Ls (.int y :: .int x :: St) := by
  subst hq
  exact k.back fun t kt => XS.icmpNo (g := mkF m pc Ls (.int y :: .int x :: St)) X.here C.c_x rfl (hb C.c_by hd) rfl (flt (fun r => h (Int32.lt_iff_toInt_lt.mp r))).1 kt
theorem g_icmp_ge_t (q : Nat) (C : Ctx p s m meth c Z own nm bytes ml rt) (X : Stand p l e R s m args below meth c T locs cells slots) {o : Int} {x y : Int32} (hd : decode bytes pc = .ok (.if_icmp .ge o, 3)) (ho : 0 ≤ (pc : Int) + o) (hp : ((pc : Int) + o).toNat = q) (h : ¬ x.toInt < y.toInt) (k : Goes p e below E T m q Ls St) : Goes p e below E T m pc Ls (.int y :: .int x :: St) :=
  k.back fun t kt => XS.icmpYes (g := mkF m pc Ls (.int y :: .int x :: St)) X.here C.c_x rfl (pc0 := pc) (pc' := q) rfl (hb C.c_by hd) rfl (flt (fun r => h (Int32.lt_iff_toInt_lt.mp r))).2.1 ho hp kt
theorem g_if_ge_t (q : Nat) (C : Ctx p s m meth c Z own nm bytes ml rt) (X : Stand p l e R s m args below meth c T locs cells slots) {o : Int} {x : Int32} (hd : decode bytes pc = .ok (.ifCond .ge o, 3)) (ho : 0 ≤ (pc : Int) + o) (hp : ((pc : Int) + o).toNat = q) (h : ¬ x.toInt < 0) (k : Goes p e below E T m q Ls St) : Goes p e below E T m pc Ls (.int x :: St) :=
  k.back fun t kt => XS.ifYes (g := mkF m pc Ls (.int x :: St)) X.here C.c_x rfl (pc0 := pc) (pc' := q) rfl (hb C.c_by hd) rfl ((if0 _ _).trans (flt (fun r => h (own_lt0.mp r))).2.1) ho hp kt
theorem g_icmp_ge_f (q : Nat) (hq : pc + 3 = q) (C : Ctx p s m meth c Z own nm bytes ml rt) (X : Stand p l e R s m args below meth c T locs cells slots) {o : Int} {x y : Int32} (hd : decode bytes pc = .ok (.if_icmp .ge o, 3)) (h : x.toInt < y.toInt) (k : Goes p e below E T m q Ls St) : Goes p e below E T m pc Ls (.int y :: .int x :: St) := by
  subst hq
  exact k.back fun t kt => XS.icmpNo (g := mkF m pc Ls (.int y :: .int x :: St)) X.here C.c_x rfl (hb C.c_by hd) rfl (tlt (Int32.lt_iff_toInt_lt.mpr h)).2.1 kt
theorem g_icmp_gt_t (q : Nat) (C : Ctx p s m meth c Z own nm bytes ml rt) (X : Stand p l e R s m args below meth c T locs cells slots) {o : Int} {x y : Int32} (hd : decode bytes pc = .ok (.if_icmp .gt o, 3)) (ho : 0 ≤ (pc : Int) + o) (hp : ((pc : Int) + o).toNat = q) (h : y.toInt < x.toInt) (k : Goes p e below E T m q Ls St) : Goes p e below E T m pc Ls (.int y :: .int x :: St) :=
  k.back fun t kt => XS.icmpYes (g := mkF m pc Ls (.int y :: .int x :: St)) X.here C.c_x rfl (pc0 := pc) (pc' := q) rfl (hb C.c_by hd) rfl (tlt (Int32.lt_iff_toInt_lt.mpr h)).2.2.1 ho hp kt
theorem g_il_gt_t (q : Nat) (C : Ctx p s m meth c Z own nm bytes ml rt) (X : Stand p l e R s m args below meth c T locs cells slots) {o : Int} {x y : Int64} (hd : decode bytes pc = .ok (.ifCond .gt o, 3)) (ho : 0 ≤ (pc : Int) + o) (hp : ((pc : Int) + o).toNat = q) (h : y.toInt < x.toInt) (k : Goes p e below E T m q Ls St) : Goes p e below E T m pc Ls (.int (lcmpW x y) :: St) :=
  k.back fun t kt => XS.ifYes (g := mkF m pc Ls (.int (lcmpW x y) :: St)) X.here C.c_x rfl (pc0 := pc) (pc' := q) rfl (hb C.c_by hd) rfl ((if0 _ _).trans (tlt ((lw_gt x y).mpr (Int64.lt_iff_toInt_lt.mpr h))).2.2.1) ho hp kt
theorem g_icmp_gt_f (q : Nat) (hq : pc + 3 = q) (C : Ctx p s m meth c Z own nm bytes ml rt) (X : Stand p l e R s m args below meth c T locs cells slots) {o : Int} {x y : Int32} (hd : decode bytes pc = .ok (.if_icmp .gt o, 3)) (h : ¬ y.toInt < x.toInt) (k : Goes p e below E T m q Ls St) : Goes p e below E T m pc Ls (.int y :: .int x :: St) := by
  subst hq
  exact k.back fun t kt => XS.icmpNo (g := mkF m pc Ls (.int y :: .int x :: St)) X.here C.c_x rfl (hb C.c_by hd) rfl (flt (fun r => h (Int32.lt_iff_toInt_lt.mp r))).2.2.1 kt
theorem g_il_gt_f (q : Nat) (hq : pc + 3 = q) (C : Ctx p s m meth c Z own nm bytes ml rt) (X : Stand p l e R s m args below meth c T locs cells slots) {o : Int} {x y : Int64} (hd : decode bytes pc = .ok (.ifCond .gt o, 3)) (h : ¬ y.toInt < x.toInt) (k : Goes p e below E T m q Ls St) : Goes p e below E T m pc Ls (.int (lcmpW x y) :: St) := by
  subst hq
  exact k.back fun t kt => XS.ifNo (g := mkF m pc Ls (.int (lcmpW x y) :: St)) X.here C.c_x rfl (hb C.c_by hd) rfl ((if0 _ _).trans (flt (fun r => h (Int64.lt_iff_toInt_lt.mp ((lw_gt x y).mp r)))).2.2.1) kt
theorem g_icmp_le_t (q : Nat) (C : Ctx p s m meth c Z own nm bytes ml rt) (X : Stand p l e R s m args below meth c T locs cells slots) {o : Int} {x y : Int32} (hd : decode bytes pc = .ok (.if_icmp .le o, 3)) (ho : 0 ≤ (pc : Int) + o) (hp : ((pc : Int) + o).toNat = q) (h : ¬ y.toInt < x.toInt) (k : Goes p e below E T m q Ls St) : Goes p e below E T m pc Ls (.int y :: .int x :: St) :=
  k.back fun t kt => XS.icmpYes (g := mkF m pc Ls (.int y :: .int x :: St)) X.here C.c_x rfl (pc0 := pc) (pc' := q) rfl (hb C.c_by hd) rfl (flt (fun r => h (Int32.lt_iff_toInt_lt.mp r))).2.2.2 ho hp kt
theorem g_icmp_ne_t (q : Nat) (C : Ctx p s m meth c Z own nm bytes ml rt) (X : Stand p l e R s m args below meth c T locs cells slots) {o : Int} {x y : Int32} (hd : decode bytes pc = .ok (.if_icmp .ne o, 3)) (ho : 0 ≤ (pc : Int) + o) (hp : ((pc : Int) + o).toNat = q) (h : ¬ x.toInt = y.toInt) (k : Goes p e below E T m q Ls St) : Goes p e below E T m pc Ls (.int y :: .int x :: St) :=
  k.back fun t kt => XS.icmpYes (g := mkF m pc Ls (.int y :: .int x :: St)) X.here C.c_x rfl (pc0 := pc) (pc' := q) rfl (hb C.c_by hd) rfl (feq (fun r => h (congrArg Int32.toInt r))).2 ho hp kt
theorem g_if_ne_t (q : Nat) (C : Ctx p s m meth c Z own nm bytes ml rt) (X : Stand p l e R s m args below meth c T locs cells slots) {o : Int} {x : Int32} (hd : decode bytes pc = .ok (.ifCond .ne o, 3)) (ho : 0 ≤ (pc : Int) + o) (hp : ((pc : Int) + o).toNat = q) (h : ¬ x.toInt = 0) (k : Goes p e below E T m q Ls St) : Goes p e below E T m pc Ls (.int x :: St) :=
  k.back fun t kt => XS.ifYes (g := mkF m pc Ls (.int x :: St)) X.here C.c_x rfl (pc0 := pc) (pc' := q) rfl (hb C.c_by hd) rfl ((if0 _ _).trans (feq (fun r => h (own_eq0.mp r))).2) ho hp kt
theorem g_icmp_ne_f (q : Nat) (hq : pc + 3 = q) (C : Ctx p s m meth c Z own nm bytes ml rt) (X : Stand p l e R s m args below meth c T locs cells slots) {o : Int} {x y : Int32} (hd : decode bytes pc = .ok (.if_icmp .ne o, 3)) (h : x.toInt = y.toInt) (k : Goes p e below E T m q Ls St) : Goes p e below E T m pc Ls (.int y :: .int x :: St) := by
  subst hq
  exact k.back fun t kt => XS.icmpNo (g := mkF m pc Ls (.int y :: .int x :: St)) X.here C.c_x rfl (hb C.c_by hd) rfl (teq (Int32.toInt_inj.mp h)).2 kt
theorem g_if_ne_f (q : Nat) (hq : pc + 3 = q) (C : Ctx p s m meth c Z own nm bytes ml rt) (X : Stand p l e R s m args below meth c T locs cells slots) {o : Int} {x : Int32} (hd : decode bytes pc = .ok (.ifCond .ne o, 3)) (h : x.toInt = 0) (k : Goes p e below E T m q Ls St) : Goes p e below E T m pc Ls (.int x :: St) := by
  subst hq
  exact k.back fun t kt => XS.ifNo (g := mkF m pc Ls (.int x :: St)) X.here C.c_x rfl (hb C.c_by hd) rfl ((if0 _ _).trans (teq (own_eq0.mpr h)).2) kt
theorem g_ldc (q : Nat) (hq : pc + 2 = q) (C : Ctx p s m meth c Z own nm bytes ml rt) (X : Stand p l e R s m args below meth c T locs cells slots) {i : Nat} {v : Int32} (w : (Cond.constant own i v).before a0 Z = true) (hd : decode bytes pc = .ok (.ldc i, 2)) (k : Goes p e below E T m q Ls (.int v :: St)) : Goes p e below E T m pc Ls St := by
  subst hq
  exact k.back fun t kt => X.ldcInt C.c_x C.c_own (mvT C.c_z w) (g := mkF m pc Ls St) rfl (hb C.c_by hd) _ kt
theorem g_ldc2 (q : Nat) (hq : pc + 3 = q) (C : Ctx p s m meth c Z own nm bytes ml rt) (X : Stand p l e R s m args below meth c T locs cells slots) {i : Nat} {v : Int64} (w : (Cond.constantLong own i v).before a0 Z = true) (hd : decode bytes pc = .ok (.ldc2_w i, 3)) (k : Goes p e below E T m q Ls (.long v :: St)) : Goes p e below E T m pc Ls St := by
  subst hq
  exact k.back fun t kt => X.ldc2Long C.c_x C.c_own (mvT C.c_z w) (g := mkF m pc Ls St) rfl (hb C.c_by hd) _ kt
theorem g_retW (C : Ctx p s m meth c Z own nm bytes ml rt) (X : Stand p l e R s m args below meth c T locs cells slots) {w : Value} {t : FieldType} {i : Instr} (hrt : rt = some t) (hn : narrow t w = w)
    (hi : (i = .ireturn ∧ (t = .int ∨ t = .boolean ∨ t = .byte ∨ t = .char ∨ t = .short) ∧ ∃ z, w = .int z) ∨ (i = .lreturn ∧ t = .long ∧ ∃ z, w = .long z) ∨ (i = .dreturn ∧ t = .double ∧ ∃ z, w = .double z) ∨ (i = .freturn ∧ t = .float ∧ ∃ z, w = .float z) ∨ (i = .areturn ∧ t.isReference = true ∧ w.isRef = true))
    (hd : decode bytes pc = .ok (i, 1)) (eT : T.heap = h) (hc : cells ≤ CC) (hs : slots ≤ SS) (hQ : Q (some w) h locs) : Goes p e below (EndN s Q CC SS) T m pc Ls (w :: St) := by
  obtain ⟨fs, hr, hrun, hended, hW, hsame⟩ := X.leave (v := some w) (fun r => by rw [C.c_rt, hrt] at r; cases r) C.c_lk
  subst eT
  exact ⟨_, _, retOut X C.c_x (C.c_rt.trans hrt) hn hi (hb C.c_by hd) hr, hrun, hended, _, _, rfl, hQ, ⟨_, rfl⟩, hW, hsame.mono hc hs⟩
theorem g_retI (C : Ctx p s m meth c Z own nm bytes ml rt) (X : Stand p l e R s m args below meth c T locs cells slots) {z : Int32} (hrt : rt = some .int) (hd : decode bytes pc = .ok (.ireturn, 1)) (eT : T.heap = h) (hc : cells ≤ CC) (hs : slots ≤ SS) (hQ : Q (some (.int z)) h locs) : Goes p e below (EndN s Q CC SS) T m pc Ls (.int z :: St) :=
  g_retW C X hrt rfl (Or.inl ⟨rfl, Or.inl rfl, z, rfl⟩) hd eT hc hs hQ
theorem g_retJ (C : Ctx p s m meth c Z own nm bytes ml rt) (X : Stand p l e R s m args below meth c T locs cells slots) {z : Int64} (hrt : rt = some .long) (hd : decode bytes pc = .ok (.lreturn, 1)) (eT : T.heap = h) (hc : cells ≤ CC) (hs : slots ≤ SS) (hQ : Q (some (.long z)) h locs) : Goes p e below (EndN s Q CC SS) T m pc Ls (.long z :: St) :=
  g_retW C X hrt rfl (Or.inr (Or.inl ⟨rfl, rfl, z, rfl⟩)) hd eT hc hs hQ
theorem g_retA (C : Ctx p s m meth c Z own nm bytes ml rt) (X : Stand p l e R s m args below meth c T locs cells slots) {w : Value} {t : FieldType} (hrt : rt = some t) (ht : t.isReference = true) (hw : w.isRef = true) (hn : narrow t w = w) (hd : decode bytes pc = .ok (.areturn, 1)) (eT : T.heap = h) (hc : cells ≤ CC) (hs : slots ≤ SS) (hQ : Q (some w) h locs) : Goes p e below (EndN s Q CC SS) T m pc Ls (w :: St) :=
  g_retW C X hrt hn (Or.inr (Or.inr (Or.inr (Or.inr ⟨rfl, ht, hw⟩)))) hd eT hc hs hQ
theorem g_retN (C : Ctx p s m meth c Z own nm bytes ml rt) (X : Stand p l e R s m args below meth c T locs cells slots) {z z' : Int32} {t : FieldType} (hrt : rt = some t) (ht : t = .boolean ∨ t = .byte ∨ t = .char ∨ t = .short) (hd : decode bytes pc = .ok (.ireturn, 1)) (eT : T.heap = h) (hc : cells ≤ CC) (hs : slots ≤ SS) (hz : nar t z = z') (hQ : Q (some (.int z')) h locs) : Goes p e below (EndN s Q CC SS) T m pc Ls (.int z :: St) := by
  obtain ⟨fs, hr, hrun, hended, hW, hsame⟩ := X.leave (v := some (.int (nar t z))) (fun r => by rw [C.c_rt, hrt] at r; cases r) C.c_lk
  subst eT
  subst hz
  exact ⟨_, _, retN X C.c_x (C.c_rt.trans hrt) ht (hb C.c_by hd) hr, hrun, hended, _, _, rfl, hQ, ⟨_, rfl⟩, hW, hsame.mono hc hs⟩
theorem g_retV (C : Ctx p s m meth c Z own nm bytes ml rt) (X : Stand p l e R s m args below meth c T locs cells slots) (hrt : rt = none) (hd : decode bytes pc = .ok (.return_, 1)) (eT : T.heap = h) (hc : cells ≤ CC) (hs : slots ≤ SS) (hQ : Q none h locs) : Goes p e below (EndN s Q CC SS) T m pc Ls [] := by
  obtain ⟨fs, hr, hrun, hended, hW, hsame⟩ := X.leave (v := none) (fun _ => rfl) C.c_lk
  subst eT
  exact ⟨_, _, X.returnOut C.c_x (C.c_rt.trans hrt) (hb C.c_by hd) hr, hrun, hended, _, _, rfl, hQ, ⟨_, rfl⟩, hW, hsame.mono hc hs⟩
theorem g_getF (q : Nat) (hq : pc + 3 = q) (C : Ctx p s m meth c Z own nm bytes ml rt) (X : Stand p l e R s m args below meth c T locs cells slots) {R0 O n d host : String} {i : Nat} {a : Addr} {v : Value} (w : (Cond.fieldLink own i R0 n d).before a0 Z = true ∨ (Cond.fieldLinkNest own i R0 n d host).before a0 Z = true) (via : Via Z R0 O n d) (eT : T.heap = h) (F : Fld Z h a O n d v) (hd : decode bytes pc = .ok (.getfield i, 3))
    (k : ∀ T', Stand p l e R s m args below meth c T' locs cells slots → T'.heap = h → Goes p e below E T' m q Ls (v :: St)) : Goes p e below E T m pc Ls (.ref a :: St) := by
  subst hq
  obtain ⟨T', X', e', st⟩ := getF X C.c_x C.c_z C.c_own w via eT F (g := mkF m pc Ls (.ref a :: St)) rfl rfl (hb C.c_by hd)
  exact (k T' X' e').back fun t kt => st t kt
theorem g_putF (q : Nat) (hq : pc + 3 = q) (C : Ctx p s m meth c Z own nm bytes ml rt) (X : Stand p l e R s m args below meth c T locs cells slots) {R0 O n d host K : String} {i kk : Nat} {ty : FieldType} {a : Addr} {v old : Value} (w : (Cond.fieldLink own i R0 n d).before a0 Z = true ∨ (Cond.fieldLinkNest own i R0 n d host).before a0 Z = true) (via : Via Z R0 O n d) (eT : T.heap = h) (F : Fld Z h a O n d old) (EX : Exa Z h a K)
    (L : (Cond.lays K O n d).before a0 Z = true ∨ ((Cond.laysFinal K O n d).before a0 Z = true ∧ own = O ∧ nm = "<init>")) (wi : (Cond.instantiable K kk).before a0 Z = true) (hty : parseFieldDescriptor d = some ty) (hn : narrow ty v = v) (hf : fits ty v = true) (hd : decode bytes pc = .ok (.putfield i, 3)) {n0 : Nat} (N : Fr n0 locs) (hn0 : n0 ≤ a)
    (k : ∀ T' h' locs', Stand p l e R s m args below meth c T' locs' cells slots → T'.heap = h' → Wr h h' a (Jvm.RoadKit.slotOf Z O n d) v → Fr n0 locs' → Goes p e below E T' m q Ls St) : Goes p e below E T m pc Ls (v :: .ref a :: St) := by
  subst hq
  obtain ⟨T', h', X', e', W', st⟩ := putF X C.c_x C.c_z C.c_own w via eT F EX (L.imp id fun r => ⟨r.1, r.2.1, C.c_nm.trans r.2.2⟩) wi hty hn hf (g := mkF m pc Ls (v :: .ref a :: St)) rfl rfl (hb C.c_by hd)
  exact (k T' h' _ X' e' W' (Fr.snoc X' N hn0)).back fun t kt => st t kt
theorem g_new (q : Nat) (hq : pc + 3 = q) (C : Ctx p s m meth c Z own nm bytes ml rt) (X : Stand p l e R s m args below meth c T locs cells slots) {K : String} {i n : Nat} (w : (Cond.classLink own i K).before a0 Z = true) (wi : (Cond.instantiable K n).before a0 Z = true) (wz : (Cond.initialized K).before a0 Z = true) (eT : T.heap = h) (hd : decode bytes pc = .ok (.new i, 3)) (hc : cells + 1 ≤ R.cells) (hl : slots + n ≤ R.slots)
    (k : ∀ T' h' a, a = h.size → Stand p l e R s m args below meth c T' locs (cells + 1) (slots + n) → T'.heap = h' → Ext h h' → Exa Z h' a K → (∀ {O nm d : String} {ty : FieldType}, Laid Z a0 K O nm d → parseFieldDescriptor d = some ty → Fld Z h' a O nm d (defaultValue ty)) → Goes p e below E T' m q Ls (.ref a :: St)) : Goes p e below E T m pc Ls St := by
  subst hq
  obtain ⟨T', h', X', e', E', A', D', -, st⟩ := newO X C.c_x C.c_z C.c_own w wi wz eT (g := mkF m pc Ls St) rfl (hb C.c_by hd) hc hl
  exact (k T' h' _ rfl X' e' E' A' D').back fun t kt => st t kt
theorem g_initO (q : Nat) (hq : pc + 3 = q) (C : Ctx p s m meth c Z own nm bytes ml rt) (X : Stand p l e R s m args below meth c T locs cells slots) {i : Nat} {a : Addr} (w1 : (Cond.methodLink own i Lib.objectInit).before a0 Z = true) (w2 : (Cond.instanceMethod Lib.objectInit).before a0 Z = true) (w3 : (Cond.code Lib.objectInit ⟨#[0xb1]⟩ 1 none).before a0 Z = true) (eT : T.heap = h) (hd : decode bytes pc = .ok (.invokespecial i, 3)) (hsz : Ls.size = ml) (hf : 1 ≤ R.frames) {W : Nat} (hW : (St.map fun v => v.category).sum ≤ W) (hl : W + 12 ≤ R.locals)
    (k : ∀ T', Stand p l e R s m args below meth c T' locs cells slots → T'.heap = h → Goes p e below E T' m q Ls St) : Goes p e below E T m pc Ls (.ref a :: St) := by
  subst hq
  obtain ⟨T', X', e', st⟩ := initO X C.c_x C.c_z C.c_own w1 w2 w3 eT (g := mkF m pc Ls (.ref a :: St)) rfl (hsz.trans C.c_ml.symm) rfl (hb C.c_by hd) hf (W := W) (by show 2 * 0 + _ ≤ _; omega) hl
  exact (k T' X' e').back fun t kt => st t kt
def Ba (Z : State) (h : Heap) (a : Addr) (ty : FieldType) (n : Nat) (f : Nat → Int32) : Prop := ∃ c : Cell, Arr Z h a c ty ∧ c.slots.size = n ∧ n < 2 ^ 31 ∧ (∀ k, k < n → c.slots[k]? = some (.int (f k)))
def upd (f : Nat → Int32) (j : Nat) (v : Int32) : Nat → Int32 := fun k => bif Nat.beq k j then v else f k
theorem upd_same {f : Nat → Int32} {j k : Nat} {v : Int32} (q : k = j) : upd f j v k = v := by subst q; simp [upd]
theorem upd_ne {f : Nat → Int32} {j k : Nat} {v : Int32} (q : k ≠ j) : upd f j v k = f k := by
  have : Nat.beq k j = false := by
    cases hb : Nat.beq k j with
    | false => rfl
    | true => exact absurd (Nat.eq_of_beq_eq_true hb) q
  show (bif Nat.beq k j then v else f k) = f k
  rw [this]; rfl
theorem upd_eq (f : Nat → Int32) (j k : Nat) (v : Int32) : upd f j v k = if k = j then v else f k := by
  split
  · rename_i q; exact upd_same q
  · rename_i q; exact upd_ne q
theorem Ba.lt {a : Addr} {ty : FieldType} {n : Nat} {f : Nat → Int32} (F : Ba Z h a ty n f) : a < h.size := by obtain ⟨c, A, -⟩ := F; exact A.lt
theorem Ba.ext {h' : Heap} {a : Addr} {ty : FieldType} {n : Nat} {f : Nat → Int32} (F : Ba Z h a ty n f) (E : Ext h h') : Ba Z h' a ty n f := by obtain ⟨c, A, r⟩ := F; exact ⟨c, A.ext E, r⟩
theorem Ba.other {h' : Heap} {a b : Addr} {ty : FieldType} {n sl : Nat} {v : Value} {f : Nat → Int32} (F : Ba Z h a ty n f) (W : Wr h h' b sl v) (q : a ≠ b) : Ba Z h' a ty n f := by obtain ⟨c, A, r⟩ := F; exact ⟨c, A.other W q, r⟩
theorem Ba.keep {h' : Heap} {a : Addr} {ty : FieldType} {n : Nat} {ws : List Addr} {f : Nat → Int32} (F : Ba Z h a ty n f) (K : Keep h h' ws) (q : a ∉ ws) : Ba Z h' a ty n f := by obtain ⟨c, A, r⟩ := F; exact ⟨c, ⟨K.2.1 a c A.1 q, A.2⟩, r⟩
theorem Ba.same {h' : Heap} {a : Addr} {ty : FieldType} {n j : Nat} {v : Int32} {f : Nat → Int32} (F : Ba Z h a ty n f) (W : Wr h h' a j (.int v)) : Ba Z h' a ty n (upd f j v) := by
  obtain ⟨c, A, hs, hn, hf⟩ := F
  refine ⟨_, A.same W, by simp [Cell.setSlot, hs], hn, fun k hk => ?_⟩
  rw [upd_eq]
  by_cases q : k = j
  · subst q; simp [Cell.setSlot, hs, hk]
  · rw [if_neg q]; simp only [Cell.setSlot]; rw [Array.getElem?_setIfInBounds_ne (Ne.symm q)]; exact hf k hk
theorem Ba.cong {a : Addr} {ty : FieldType} {n : Nat} {f f' : Nat → Int32} (F : Ba Z h a ty n f) (q : ∀ k, k < n → f k = f' k) : Ba Z h a ty n f' := by
  obtain ⟨c, A, hs, hn, hf⟩ := F
  exact ⟨c, A, hs, hn, fun k hk => by rw [← q k hk]; exact hf k hk⟩
theorem Ba.new {a : Addr} {cA : ClassId} {ty : FieldType} {z : Int32} {n : Nat} (A : Arr Z h a (newA cA ty z) ty) (hz : z.toInt = n) (hd : defaultValue ty = .int 0) : Ba Z h a ty n (fun _ => 0) := by
  have hr := rng32 z
  have hn : z.toNatClampNeg = n := by simp only [Int32.toNatClampNeg, hz]; rfl
  exact ⟨_, A, by rw [sz_new, hn], by omega, fun k hk => by simp [newA, hn, hk, hd]⟩
theorem own_clamp {j : Int32} {k : Nat} (hj : j.toInt = k) : j.toNatClampNeg = k ∧ ¬ j < 0 := by
  refine ⟨by simp only [Int32.toNatClampNeg, hj]; rfl, fun r => ?_⟩
  have := Int32.lt_iff_toInt_lt.mp r
  rw [hj, own_z0] at this; omega
theorem own_in {j : Int32} {k n : Nat} {c : Cell} (hs : c.slots.size = n) (hj : j.toInt = k) (hk : k < n) : ¬ (j < 0 ∨ c.slots.size ≤ j.toNatClampNeg) := by
  obtain ⟨h1, h2⟩ := own_clamp hj
  rw [h1, hs]; intro r; rcases r with r | r
  · exact h2 r
  · omega
theorem own_lenI {n : Nat} (hn : n < 2 ^ 31) : (n.toInt32).toInt = n := by
  have := len_toInt hn
  exact this
theorem g_newP (q : Nat) (hq : pc + 2 = q) (C : Ctx p s m meth c Z own nm bytes ml rt) (X : Stand p l e R s m args below meth c T locs cells slots) {aty : ArrayType} {z : Int32} (n : Nat) (hz : z.toInt = n) (cap : Nat) (hcap : n ≤ cap) (hb' : cap * 8 ≤ 536870912) (hdf : defaultValue (newarray.typeOf aty) = .int 0) (w : (Cond.arrayClass (newarray.typeOf aty)).before a0 Z = true) (eT : T.heap = h) (hd : decode bytes pc = .ok (.newarray aty, 2)) (hc : cells + 1 ≤ R.cells) (hl : slots + cap ≤ R.slots)
    (k : ∀ T' h' a, a = h.size → Stand p l e R s m args below meth c T' locs (cells + 1) (slots + cap) → T'.heap = h' → Ext h h' → Ba Z h' a (newarray.typeOf aty) n (fun _ => 0) → Goes p e below E T' m q Ls (.ref a :: St)) : Goes p e below E T m pc Ls (.int z :: St) := by
  subst hq
  obtain ⟨h1, h2⟩ := own_clamp hz
  obtain ⟨T', h', cA, X', e', E', A', st⟩ := newP X C.c_x C.c_z w eT (g := mkF m pc Ls (.int z :: St)) rfl (hb C.c_by hd) rfl h2 (cap := cap) (by rw [h1]; exact hcap) hb' hc hl
  exact (k T' h' _ rfl X' e' E' (Ba.new A' hz hdf)).back fun t kt => st t kt
theorem g_len (q : Nat) (hq : pc + 1 = q) (C : Ctx p s m meth c Z own nm bytes ml rt) (X : Stand p l e R s m args below meth c T locs cells slots) {a : Addr} {ty : FieldType} {n : Nat} {f : Nat → Int32} (eT : T.heap = h) (F : Ba Z h a ty n f) (z : Int32) (hz : z.toInt = n) (hd : decode bytes pc = .ok (.arraylength, 1)) (k : Goes p e below E T m q Ls (.int z :: St)) : Goes p e below E T m pc Ls (.ref a :: St) := by
  subst hq
  obtain ⟨c0, A, hs, hn, hf⟩ := F
  have ez : c0.slots.size.toInt32 = z := Int32.toInt_inj.mp (by rw [hs, own_lenI hn, hz])
  exact k.back fun t kt => X.arraylength C.c_x (by rw [eT]; exact A.1) (State.isArrayOf_alike C.c_z.alike A.2.1) (g := mkF m pc Ls (.ref a :: St)) rfl rfl (hb C.c_by hd) t (by rw [ez]; exact kt)
theorem g_iaload (q : Nat) (hq : pc + 1 = q) (C : Ctx p s m meth c Z own nm bytes ml rt) (X : Stand p l e R s m args below meth c T locs cells slots) {a : Addr} {n : Nat} {f : Nat → Int32} {j : Int32} (eT : T.heap = h) (F : Ba Z h a .int n f) (i : Nat) (hj : j.toInt = i) (hi : i < n) (v : Int32) (hv : f i = v) (hd : decode bytes pc = .ok (.iaload, 1)) (k : Goes p e below E T m q Ls (.int v :: St)) : Goes p e below E T m pc Ls (.int j :: .ref a :: St) := by
  subst hq
  obtain ⟨c0, A, hs, hn, hf⟩ := F
  exact k.back fun t kt => X.iaload C.c_x (j := j) (v := .int v) (by rw [eT]; exact A.1) (State.isArrayOf_alike C.c_z.alike A.2.1) A.2.2 (own_in hs hj hi) (by rw [(own_clamp hj).1, ← hv]; exact hf i hi) (g := mkF m pc Ls (.int j :: .ref a :: St)) rfl rfl (hb C.c_by hd) t kt
theorem g_iastore (q : Nat) (hq : pc + 1 = q) (C : Ctx p s m meth c Z own nm bytes ml rt) (X : Stand p l e R s m args below meth c T locs cells slots) {a : Addr} {n : Nat} {f : Nat → Int32} {j x : Int32} (eT : T.heap = h) (F : Ba Z h a .int n f) (i : Nat) (hj : j.toInt = i) (hi : i < n) (v : Int32) (hv : x = v) (hd : decode bytes pc = .ok (.iastore, 1)) {n0 : Nat} (N : Fr n0 locs) (hn0 : n0 ≤ a)
    (k : ∀ T' h' locs', Stand p l e R s m args below meth c T' locs' cells slots → T'.heap = h' → Wr h h' a i (.int v) → Ba Z h' a .int n (upd f i v) → Fr n0 locs' → Goes p e below E T' m q Ls St) : Goes p e below E T m pc Ls (.int x :: .int j :: .ref a :: St) := by
  subst hq hv
  have F0 := F
  obtain ⟨c0, A, hs, hn, hf⟩ := F
  obtain ⟨T', h', X', e', W', st⟩ := stI X C.c_x C.c_z eT A (j := j) (own_in hs hj hi) (g := mkF m pc Ls (.int x :: .int j :: .ref a :: St)) rfl rfl (hb C.c_by hd)
  rw [(own_clamp hj).1] at W' X'
  exact (k T' h' _ X' e' W' (F0.same W') (Fr.snoc X' N hn0)).back fun t kt => st t kt
theorem own_narByte {b : Int32} (h0 : -128 ≤ b.toInt) (h1 : b.toInt < 128) : b.toInt8.toInt32 = b := by
  have := c_i2b b
  exact Int32.toInt_inj.mp (by omega)
theorem own_fitB {x : Int32} (h0 : -128 ≤ x.toInt) (h1 : x.toInt < 128) : fits .byte (.int x) = true := by
  have e := own_narByte h0 h1
  rw [← e]; exact fits_nar_byte x

theorem g_callS (q : Nat) (hq : pc + 3 = q) (C : Ctx p s m meth c Z own nm bytes ml rt) (X : Stand p l e R s m args below meth c T locs cells slots) {y : MethodName} {bytes' : ByteArray} {maxL' : Nat} {ret' : Option FieldType} {rm : Room} {Q' : Option Value → Heap → List Loc → Prop} {i W : Nat} {argsL : List Value} (w1 : (Cond.methodLink own i y).before a0 Z = true) (w2 : (Cond.static y).before a0 Z = true) (wc : (Cond.code y bytes' maxL' ret').before a0 Z = true) (wz : (Cond.initialized y.cls).before a0 Z = true) (eT : T.heap = h) (M : MetFree l y (head1 [Cond.code y bytes' maxL' ret'] rm) (fun a' U => a' = argsL.toArray ∧ Z.Warmed39 U.vm ∧ U.heap = h) (fun _ _ _ _ _ => True) (fun _ U o U' => ∃ v L, o = .returned v ∧ Q' v U'.heap L ∧ FrameEnd U o U' L rm.cells rm.slots)) (hlen : ∀ sig, parseMethodDescriptor y.desc = some sig → argsL.length = sig.parameters.length) (hf : rm.frames + 1 ≤ R.frames) (hl : W + (maxL' + 11) + rm.locals ≤ R.locals) (hc : cells + rm.cells ≤ R.cells) (hsl : slots + rm.slots ≤ R.slots) (hsz : Ls.size = ml) (hW : (St.map fun v => v.category).sum ≤ W) (hy : y.cls ≠ "java/lang/invoke/MethodHandle" ∧ y.cls ≠ "java/lang/invoke/VarHandle") (hd : decode bytes pc = .ok (.invokestatic i, 3)) {St0 : List Value} (hst : St0 = argsL.reverse ++ St)
    (k : ∀ v T' L, Stand p l e R s m args below meth c T' (locs ++ L) (cells + rm.cells) (slots + rm.slots) → Q' v T'.heap L → Goes p e below E T' m q Ls (v.toList ++ St)) : Goes p e below E T m pc Ls St0 := by
  subst hq hst
  obtain ⟨v, _, ⟨T', L', k', n'⟩, -, X', ⟨Lc, hQ', l', y', z'⟩, st⟩ := Jvm.LawKit.callS X C.c_x (y := y) C.c_own (mvT C.c_z w1) (mvT C.c_z w2) (mvT C.c_z wz) (mvT C.c_z wc) hy (backOf (W := W) M C.c_z wc wz hf hl) (g := mkF m pc Ls (argsL.reverse ++ St)) rfl (hsz.trans C.c_ml.symm) (argsL := argsL) (rest := St) hlen rfl (by show 2 * 0 + _ ≤ _; omega) (hb C.c_by hd) (fun _ _ => ⟨rfl, eT, hc, hsl⟩)
  dsimp only [Pt.U, Pt.locs, Pt.cells, Pt.slots] at X' l' y' z' st hQ'
  subst l' y' z'
  exact (k v T' Lc X' hQ').back fun t kt => st t kt
theorem g_callN (q : Nat) (hq : pc + 3 = q) (C : Ctx p s m meth c Z own nm bytes ml rt) (X : Stand p l e R s m args below meth c T locs cells slots) {y : MethodName} {bytes' : ByteArray} {maxL' : Nat} {ret' : Option FieldType} {rm : Room} {Q' : Option Value → Heap → List Loc → Prop} {i W : Nat} {a : Addr} {argsL : List Value} (hy1 : y.name = "<init>") (hre : ret' = none) (w1 : (Cond.methodLink own i y).before a0 Z = true) (w2 : (Cond.instanceMethod y).before a0 Z = true) (wc : (Cond.code y bytes' maxL' ret').before a0 Z = true) (wz : (Cond.initialized y.cls).before a0 Z = true) (eT : T.heap = h) (M : MetFree l y (head1 [Cond.code y bytes' maxL' ret'] rm) (fun a' U => a' = (.ref a :: argsL).toArray ∧ Z.Warmed39 U.vm ∧ U.heap = h) (fun _ _ _ _ _ => True) (fun _ U o U' => ∃ v L, o = .returned v ∧ Q' v U'.heap L ∧ FrameEnd U o U' L rm.cells rm.slots)) (hlen : ∀ sig, parseMethodDescriptor y.desc = some sig → argsL.length = sig.parameters.length) (hf : rm.frames + 1 ≤ R.frames) (hl : W + (maxL' + 11) + rm.locals ≤ R.locals) (hc : cells + rm.cells ≤ R.cells) (hsl : slots + rm.slots ≤ R.slots) (hsz : Ls.size = ml) (hW : (St.map fun v => v.category).sum ≤ W) (hy : y.cls ≠ "java/lang/invoke/MethodHandle" ∧ y.cls ≠ "java/lang/invoke/VarHandle") (hd : decode bytes pc = .ok (.invokespecial i, 3)) {St0 : List Value} (hst : St0 = argsL.reverse ++ .ref a :: St)
    (k : ∀ v T' L, Stand p l e R s m args below meth c T' (locs ++ L) (cells + rm.cells) (slots + rm.slots) → Q' v T'.heap L → Goes p e below E T' m q Ls (v.toList ++ St)) : Goes p e below E T m pc Ls St0 := by
  subst hq hst hre
  obtain ⟨v, _, ⟨T', L', k', n'⟩, -, X', ⟨Lc, hQ', l', y', z'⟩, st⟩ := X.specialBack C.c_x (y := y) hy1 C.c_own (mvT C.c_z w1) (mvT C.c_z w2) (mvT C.c_z wc) hy (backOf (W := W) M C.c_z wc wz hf hl) (g := mkF m pc Ls (argsL.reverse ++ .ref a :: St)) rfl (hsz.trans C.c_ml.symm) (Steps.refl _) (a := a) (argsL := argsL) (rest := St) hlen rfl (by show 2 * 0 + _ ≤ _; omega) (hb C.c_by hd) (fun _ _ => ⟨rfl, eT, hc, hsl⟩)
  dsimp only [Pt.U, Pt.locs, Pt.cells, Pt.slots] at X' l' y' z' st hQ'
  subst l' y' z'
  exact (k v T' Lc X' hQ').back fun t kt => st.trans kt
theorem g_callV (q : Nat) (hq : pc + 3 = q) (C : Ctx p s m meth c Z own nm bytes ml rt) (X : Stand p l e R s m args below meth c T locs cells slots) {y : MethodName} {bytes' : ByteArray} {maxL' : Nat} {ret' : Option FieldType} {rm : Room} {Q' : Option Value → Heap → List Loc → Prop} {i W : Nat} {K : String} {a : Addr} {argsL : List Value} (w1 : (Cond.methodLink own i y).before a0 Z = true) (w2 : (Cond.declares y).before a0 Z = true) (w3 : (Cond.selects K y y).before a0 Z = true) (w4 : (Cond.instanceMethod y).before a0 Z = true) (wc : (Cond.code y bytes' maxL' ret').before a0 Z = true) (wz : (Cond.initialized y.cls).before a0 Z = true) (eT : T.heap = h) (EX : Exa Z h a K) (M : MetFree l y (head1 [Cond.code y bytes' maxL' ret'] rm) (fun a' U => a' = (.ref a :: argsL).toArray ∧ Z.Warmed39 U.vm ∧ U.heap = h) (fun _ _ _ _ _ => True) (fun _ U o U' => ∃ v L, o = .returned v ∧ Q' v U'.heap L ∧ FrameEnd U o U' L rm.cells rm.slots)) (hlen : ∀ sig, parseMethodDescriptor y.desc = some sig → argsL.length = sig.parameters.length) (hf : rm.frames + 1 ≤ R.frames) (hl : W + (maxL' + 11) + rm.locals ≤ R.locals) (hc : cells + rm.cells ≤ R.cells) (hsl : slots + rm.slots ≤ R.slots) (hsz : Ls.size = ml) (hW : (St.map fun v => v.category).sum ≤ W) (hy : y.cls ≠ "java/lang/invoke/MethodHandle" ∧ y.cls ≠ "java/lang/invoke/VarHandle") (hd : decode bytes pc = .ok (.invokevirtual i, 3)) {St0 : List Value} (hst : St0 = argsL.reverse ++ .ref a :: St)
    (k : ∀ v T' L, Stand p l e R s m args below meth c T' (locs ++ L) (cells + rm.cells) (slots + rm.slots) → Q' v T'.heap L → Goes p e below E T' m q Ls (v.toList ++ St)) : Goes p e below E T m pc Ls St0 := by
  subst hq hst
  obtain ⟨cB, kB, q1, q2, q3⟩ := isOf C.c_z eT EX
  obtain ⟨v, _, ⟨T', L', k', n'⟩, -, X', ⟨Lc, hQ', l', y', z'⟩, st⟩ := X.virtualBack C.c_x (y := y) (z := y) C.c_own (mvT C.c_z w1) (mvT C.c_z w2) (notFace_of_selects (args := #[]) (mvT C.c_z w3)) (mvT C.c_z w3) (mvT C.c_z w4) hy (backOf (W := W) M C.c_z wc wz hf hl) q1 q3 (g := mkF m pc Ls (argsL.reverse ++ .ref a :: St)) rfl (hsz.trans C.c_ml.symm) (Steps.refl _) (argsL := argsL) (rest := St) hlen rfl (by show 2 * 0 + _ ≤ _; omega) (hb C.c_by hd) (fun _ _ => ⟨rfl, eT, hc, hsl⟩)
  dsimp only [Pt.U, Pt.locs, Pt.cells, Pt.slots] at X' l' y' z' st hQ'
  subst l' y' z'
  exact (k v T' Lc X' hQ').back fun t kt => st.trans kt
theorem own_ref {index : Nat} {y : MethodName} (C : Ctx p s m meth c Z own nm bytes ml rt) (X : Stand p l e R s m args below meth c T locs cells slots) (w1 : (Cond.methodRef own index y).before a0 Z = true) {mk : MethodId} (hn : s.methodNamed? y = some mk) (hn' : Z.methodNamed? y = some mk) (hy : y.cls ≠ "java/lang/invoke/MethodHandle" ∧ y.cls ≠ "java/lang/invoke/VarHandle") : T.vm.methodReady m.cls index mk ∧ namesResolved T.vm m.cls index mk.cls := by
  have hZT : Z.Warmed39 T.vm := wtrans C.c_z X.warmed
  have h1 : (Cond.methodRef own index y).before a0 (Z.setVm T.vm) = true := Cond.methodRef_warmed39 hZT hn' hy w1
  have ho : (Z.setVm T.vm).vm.findClass own = some m.cls := by
    show T.vm.findClass own = _
    rw [X.warmed.alike.findClass]; exact C.c_own
  obtain ⟨mm, c', q1, q2, q3, q4⟩ := Cond.methodRef_named e ho h1
  have hnT : (Z.setVm T.vm).methodNamed? y = some mk := by rw [State.methodNamed?_setVm hZT.alike]; exact hn'
  have q5 := State.methodFound?_of_named hnT hy
  cases q1.symm.trans q5
  have q6 := findClass_of_methodNamed hnT
  cases q3.symm.trans q6
  exact ⟨q2, q4⟩
theorem g_callNR (q : Nat) (hq : pc + 3 = q) (C : Ctx p s m meth c Z own nm bytes ml rt) (X : Stand p l e R s m args below meth c T locs cells slots) {y : MethodName} {bytes' : ByteArray} {maxL' : Nat} {ret' : Option FieldType} {rm : Room} {Q' : Option Value → Heap → List Loc → Prop} {i W : Nat} {a : Addr} {argsL : List Value} (hy1 : y.name = "<init>") (hre : ret' = none) (w1 : (Cond.methodRef own i y).before a0 Z = true) (w2 : (Cond.instanceMethod y).before a0 Z = true) (wc : (Cond.code y bytes' maxL' ret').before a0 Z = true) (wz : (Cond.initialized y.cls).before a0 Z = true) (eT : T.heap = h) (M : MetFree l y (head1 [Cond.code y bytes' maxL' ret'] rm) (fun a' U => a' = (.ref a :: argsL).toArray ∧ Z.Warmed39 U.vm ∧ U.heap = h) (fun _ _ _ _ _ => True) (fun _ U o U' => ∃ v L, o = .returned v ∧ Q' v U'.heap L ∧ FrameEnd U o U' L rm.cells rm.slots)) (hlen : ∀ sig, parseMethodDescriptor y.desc = some sig → argsL.length = sig.parameters.length) (hf : rm.frames + 1 ≤ R.frames) (hl : W + (maxL' + 11) + rm.locals ≤ R.locals) (hc : cells + rm.cells ≤ R.cells) (hsl : slots + rm.slots ≤ R.slots) (hsz : Ls.size = ml) (hW : (St.map fun v => v.category).sum ≤ W) (hy : y.cls ≠ "java/lang/invoke/MethodHandle" ∧ y.cls ≠ "java/lang/invoke/VarHandle") (hd : decode bytes pc = .ok (.invokespecial i, 3)) {St0 : List Value} (hst : St0 = argsL.reverse ++ .ref a :: St)
    (k : ∀ v T' L, Stand p l e R s m args below meth c T' (locs ++ L) (cells + rm.cells) (slots + rm.slots) → Q' v T'.heap L → Goes p e below E T' m q Ls (v.toList ++ St)) : Goes p e below E T m pc Ls St0 := by
  subst hq hst hre
  obtain ⟨obj, methO, hnO, hmO, hstO, habO⟩ := Cond.instanceMethod_spec (mvT C.c_z w2 : (Cond.instanceMethod y).before args s = true)
  obtain ⟨objZ, methZ, hnZ, -⟩ := Cond.instanceMethod_spec w2
  have hnZ' : Z.methodNamed? y = some obj := by
    have := State.methodNamed?_setVm C.c_z.alike y
    rw [← this]; exact hnO
  obtain ⟨methO', cO, hmO', hcO, hbO, hlO, -, hlockO, -, hsigO⟩ := Cond.code_spec hnO (mvT C.c_z wc : (Cond.code y bytes' maxL' none).before args s = true)
  cases hmO.symm.trans hmO'
  obtain ⟨kO, hkO, hnameO⟩ := className_of_methodNamed hnO
  obtain ⟨hnameMO, hdescO⟩ := name_of_methodNamed hnO hmO
  obtain ⟨hready, hres⟩ := own_ref C X w1 hnO hnZ' hy
  obtain ⟨kO2, hkO2, heO2⟩ := X.warmed.alike.2.2 _ _ hkO
  have hmO2 : T.vm.method? obj = some methO := by rw [X.warmed.alike.method?]; exact hmO
  have hfound : lookupSpecial T.vm obj.cls "<init>" methO.desc = .method obj := by
    rw [X.warmed.alike.lookupSpecial, hdescO, ← hy1]; exact lookupSpecial_of_named hnO hmO hstO
  obtain ⟨v, ⟨T', L', k', n'⟩, X', ⟨Lc, hQ', l', y', z'⟩, hsteps⟩ := (backOf (W := W) (len := 3) (p := p) (e := e) (below := below) (args := args) M C.c_z wc wz hf hl) m meth c ⟨T, locs, cells, slots⟩ (mkF m pc Ls St) (.invokespecial i) obj (.ref a :: argsL).toArray X rfl (hsz.trans C.c_ml.symm) (hb C.c_by hd) (by show 2 * 0 + (St.map fun v => v.category).sum ≤ W; omega) (X.named hnO) ⟨rfl, eT, hc, hsl⟩
  dsimp only [Pt.U, Pt.locs, Pt.cells, Pt.slots] at X' l' y' z' hsteps hQ'
  subst l' y' z'
  refine (k v T' Lc X' hQ').back fun t kt => ?_
  have hstp : ∀ target, (∀ acts, Steps p.tables e below (doInvoke e (T.setTop (mkF m pc Ls St)) acts obj (.ref a :: argsL).toArray).1 target) → Steps p.tables e below (T.setTop (mkF m pc Ls (argsL.reverse ++ .ref a :: St))) target := by
    intro target hrest
    show Steps p.tables e below (T.setTop { method := m, pc := pc, locals := Ls, stack := argsL.reverse ++ .ref a :: St, locked := none }) _
    jvm_step X.here [C.c_x, (hb C.c_by hd), invokespecial.wp_init (e := e) (s := T) (k := kO2) (meth := methO) (m := obj) (a := a) (args := argsL) (rest := St) (f := { method := m, pc := pc, locals := Ls, stack := argsL.reverse ++ .ref a :: St, locked := none })
      X.here.top hres hready hkO2 hmO2 (by rw [hnameMO]; exact hy1) hstO habO hfound (hlen _ hsigO) rfl]
    exact hrest
  exact (hstp _ fun acts => by rw [doInvoke_state]; exact Steps.refl _).trans (hsteps.trans kt)
theorem g_callSN (q : Nat) (hq : pc + 3 = q) (C : Ctx p s m meth c Z own nm bytes ml rt) (X : Stand p l e R s m args below meth c T locs cells slots) {y : MethodName} {bytes' : ByteArray} {maxL' : Nat} {ret' : Option FieldType} {rm : Room} {Q' : Option Value → Heap → List Loc → Prop} {i W : Nat} {host : String} {argsL : List Value} (w1 : (Cond.methodLinkNest own i y host).before a0 Z = true) (w2 : (Cond.static y).before a0 Z = true) (wc : (Cond.code y bytes' maxL' ret').before a0 Z = true) (wz : (Cond.initialized y.cls).before a0 Z = true) (eT : T.heap = h) (M : MetFree l y (head1 [Cond.code y bytes' maxL' ret'] rm) (fun a' U => a' = argsL.toArray ∧ Z.Warmed39 U.vm ∧ U.heap = h) (fun _ _ _ _ _ => True) (fun _ U o U' => ∃ v L, o = .returned v ∧ Q' v U'.heap L ∧ FrameEnd U o U' L rm.cells rm.slots)) (hlen : ∀ sig, parseMethodDescriptor y.desc = some sig → argsL.length = sig.parameters.length) (hf : rm.frames + 1 ≤ R.frames) (hl : W + (maxL' + 11) + rm.locals ≤ R.locals) (hc : cells + rm.cells ≤ R.cells) (hsl : slots + rm.slots ≤ R.slots) (hsz : Ls.size = ml) (hW : (St.map fun v => v.category).sum ≤ W) (hy : y.cls ≠ "java/lang/invoke/MethodHandle" ∧ y.cls ≠ "java/lang/invoke/VarHandle") (hd : decode bytes pc = .ok (.invokestatic i, 3)) {St0 : List Value} (hst : St0 = argsL.reverse ++ St)
    (k : ∀ v T' L, Stand p l e R s m args below meth c T' (locs ++ L) (cells + rm.cells) (slots + rm.slots) → Q' v T'.heap L → Goes p e below E T' m q Ls (v.toList ++ St)) : Goes p e below E T m pc Ls St0 := by
  subst hq hst
  obtain ⟨v, _, ⟨T', L', k', n'⟩, -, X', ⟨Lc, hQ', l', y', z'⟩, st⟩ := callSN X C.c_x (y := y) C.c_own (Cond.methodLinkNest_wide C.c_z w1) (mvT C.c_z w2) (mvT C.c_z wz) (mvT C.c_z wc) hy (backOf (W := W) M C.c_z wc wz hf hl) (g := mkF m pc Ls (argsL.reverse ++ St)) rfl (hsz.trans C.c_ml.symm) (argsL := argsL) (rest := St) hlen rfl (by show 2 * 0 + _ ≤ _; omega) (hb C.c_by hd) (fun _ _ => ⟨rfl, eT, hc, hsl⟩)
  dsimp only [Pt.U, Pt.locs, Pt.cells, Pt.slots] at X' l' y' z' st hQ'
  subst l' y' z'
  exact (k v T' Lc X' hQ').back fun t kt => st.trans kt
theorem g_newL (q : Nat) (hq : pc + 2 = q) (C : Ctx p s m meth c Z own nm bytes ml rt) (X : Stand p l e R s m args below meth c T locs cells slots) {aty : ArrayType} {z : Int32} (n : Nat) (hz : z.toInt = n) (cap : Nat) (hcap : n ≤ cap) (hb' : cap * 8 ≤ 536870912) (w : (Cond.arrayClass (newarray.typeOf aty)).before a0 Z = true) (eT : T.heap = h) (hd : decode bytes pc = .ok (.newarray aty, 2)) (hc : cells + 1 ≤ R.cells) (hl : slots + cap ≤ R.slots)
    (k : ∀ T' h' a, a = h.size → Stand p l e R s m args below meth c T' locs (cells + 1) (slots + cap) → T'.heap = h' → Ext h h' → Goes p e below E T' m q Ls (.ref a :: St)) : Goes p e below E T m pc Ls (.int z :: St) := by
  subst hq
  obtain ⟨h1, h2⟩ := own_clamp hz
  obtain ⟨T', h', cA, X', e', E', A', st⟩ := newP X C.c_x C.c_z w eT (g := mkF m pc Ls (.int z :: St)) rfl (hb C.c_by hd) rfl h2 (cap := cap) (by rw [h1]; exact hcap) hb' hc hl
  exact (k T' h' _ rfl X' e' E').back fun t kt => st t kt
def cpy (f' f : Nat → Int32) (j i k : Nat) : Nat → Int32 := fun x => if j ≤ x ∧ x < j + k then f (i + (x - j)) else f' x
def OwnFit (ty : FieldType) (n : Nat) (f : Nat → Int32) : Prop := ∀ x, x < n → fits ty (.int (f x)) = true
theorem own_vs (n : Nat) (f : Nat → Int32) (x : Nat) (hx : x < n) : ((List.range n).map fun i => Value.int (f i)).getD x (.int 0) = .int (f x) := by simp [List.getD_eq_getElem?_getD, hx]
theorem Ba.arv {a : Addr} {ty : FieldType} {n : Nat} {f : Nat → Int32} (F : Ba Z h a ty n f) (hf : OwnFit ty n f) : ∃ k, Arv Z h a k ty n.toInt32 ((List.range n).map fun i => .int (f i)) (.int 0) := by
  obtain ⟨c, A, hs, hn, hv⟩ := F
  obtain ⟨h1, h2⟩ := own_clamp (own_lenI hn)
  refine ⟨c.cls, c, A, rfl, by rw [h1, hs], h2, fun j hj => ?_, fun j hj => ?_⟩
  · rw [own_vs n f j (hs ▸ hj)]; exact hv j (hs ▸ hj)
  · rw [own_vs n f j (hs ▸ hj)]; exact hf j (hs ▸ hj)
theorem Ba.of_arv {a : Addr} {k0 : ClassId} {ty : FieldType} {n : Nat} {g : Nat → Int32} {vs : List Value} {dv : Value} (F : Arv Z h a k0 ty n.toInt32 vs dv) (hn : n < 2 ^ 31) (q : ∀ x, x < n → vs.getD x dv = .int (g x)) : Ba Z h a ty n g := by
  obtain ⟨c, A, -, hs, -, H, -⟩ := F
  have h1 := (own_clamp (own_lenI hn)).1
  rw [h1] at hs
  exact ⟨c, A, hs, hn, fun x hx => by rw [← q x hx]; exact H x (hs ▸ hx)⟩
theorem own_cpv (f f' : Nat → Int32) (n n' i j k x : Nat) (h1 : i + k ≤ n) (h2 : j + k ≤ n') (hx : x < n') :
    ((((List.range n').map fun t => Value.int (f' t)).take j ++ ((List.range k).map fun t => ((List.range n).map fun t => Value.int (f t)).getD (i + t) (.int 0)) ++ ((List.range n').map fun t => Value.int (f' t)).drop (j + k)).getD x (.int 0)) = .int (cpy f' f j i k x) := by
  have l1 : (((List.range n').map fun t => Value.int (f' t)).take j).length = j := by simp; omega
  have l2 : ((List.range k).map fun t => ((List.range n).map fun t => Value.int (f t)).getD (i + t) (.int 0)).length = k := by simp
  simp only [List.getD_eq_getElem?_getD] at l2
  simp only [List.getD_eq_getElem?_getD, cpy]
  by_cases c1 : x < j
  · rw [if_neg (by omega), List.append_assoc, List.getElem?_append_left (by omega), List.getElem?_take_of_lt c1]
    simp [hx]
  · by_cases c2 : x < j + k
    · rw [if_pos ⟨by omega, c2⟩, List.getElem?_append_left (by rw [List.length_append]; omega), List.getElem?_append_right (by omega), l1]
      have : x - j < k := by omega
      have h3 : i + (x - j) < n := by omega
      simp [this, h3]
    · rw [if_neg (by omega), List.getElem?_append_right (by rw [List.length_append]; omega), List.length_append, l1, l2, List.getElem?_drop]
      have : j + k + (x - (j + k)) = x := by omega
      rw [this]; simp [hx]
theorem g_copy (q : Nat) (hq : pc + 3 = q) (C : Ctx p s m meth c Z own nm bytes ml rt) (X : Stand p l e R s m args below meth c T locs cells slots) {i : Nat} {a b : Addr} {ty : FieldType} {n n' : Nat} {f f' : Nat → Int32} {sp dp nn : Int32} (w1 : (Cond.methodLink own i Jvm.Stand.acN).before a0 Z = true) (w2 : (Cond.native Jvm.Stand.acN).before a0 Z = true) (w3 : (Cond.static Jvm.Stand.acN).before a0 Z = true) (w4 : (Cond.initialized "java/lang/System").before a0 Z = true) (eT : T.heap = h)
    (F : Ba Z h a ty n f) (G : Ba Z h b ty n' f') (hf : OwnFit ty n f) (hf' : OwnFit ty n' f') (hty : refKind ty = false) (x y z : Nat) (h1 : sp.toInt = x) (h2 : dp.toInt = y) (h3 : nn.toInt = z) (h4 : x + z ≤ n) (h5 : y + z ≤ n') {n0 : Nat} (N : Fr n0 locs) (ge : n0 ≤ b) (hd : decode bytes pc = .ok (.invokestatic i, 3)) (hsz : Ls.size = ml) (hfr : 1 ≤ R.frames) {W : Nat} (hW : (St.map fun v => v.category).sum ≤ W) (hlo : W + (nativeFrameWords "java/lang/System" "arraycopy" 5 + 11) ≤ R.locals)
    (k : ∀ T' h' L, Stand p l e R s m args below meth c T' L cells slots → T'.heap = h' → Fr n0 L → Keep h h' [b] → Ba Z h' b ty n' (cpy f' f y x z) → Goes p e below E T' m q Ls St) : Goes p e below E T m pc Ls (.int nn :: .int dp :: .ref b :: .int sp :: .ref a :: St) := by
  subst hq
  obtain ⟨k1, A1⟩ := F.arv hf
  obtain ⟨k2, A2⟩ := G.arv hf'
  have hn : n < 2 ^ 31 := by obtain ⟨_, -, -, r, -⟩ := F; exact r
  have hn' : n' < 2 ^ 31 := by obtain ⟨_, -, -, r, -⟩ := G; exact r
  obtain ⟨a1, b1⟩ := own_clamp h1
  obtain ⟨a2, b2⟩ := own_clamp h2
  obtain ⟨a3, b3⟩ := own_clamp h3
  have e1 := (own_clamp (own_lenI hn)).1
  have e2 := (own_clamp (own_lenI hn')).1
  obtain ⟨T', h', L, X', e', N', K', B', st⟩ := cpA X C.c_x C.c_z C.c_own w1 w2 w3 w4 eT A1 A2 (Or.inl ⟨rfl, hty⟩) b1 b2 b3 (by rw [a1, a3, e1]; exact h4) (by rw [a2, a3, e2]; exact h5) rfl (by rw [a2, a3]; simpa using h5) N ge (g := mkF m pc Ls (.int nn :: .int dp :: .ref b :: .int sp :: .ref a :: St)) rfl (hsz.trans C.c_ml.symm) rfl (hb C.c_by hd) hfr (W := W) (by show 2 * 0 + _ ≤ _; omega) hlo
  rw [a1, a2, a3] at B'
  exact (k T' h' L X' e' N' K' (Ba.of_arv B' hn' fun t ht => own_cpv f f' n n' x y z t h4 h5 ht)).back fun t kt => st t kt
end Own
section OwnArith
theorem own_mulc (x y : Int32) (k : Int) (hk : y.toInt = k) : ((x * y).toInt - x.toInt * k) % 4294967296 = 0 := hk ▸ c_imul x y
theorem own_mulc' (x y : Int32) (k : Int) (hk : x.toInt = k) : ((x * y).toInt - k * y.toInt) % 4294967296 = 0 := hk ▸ c_imul x y
theorem own_lmulc (x y : Int64) (k : Int) (hk : y.toInt = k) : ((x * y).toInt - x.toInt * k) % 18446744073709551616 = 0 := hk ▸ c_lmul x y
theorem own_lmulc' (x y : Int64) (k : Int) (hk : x.toInt = k) : ((x * y).toInt - k * y.toInt) % 18446744073709551616 = 0 := hk ▸ c_lmul x y
theorem own_bvor (x y : BitVec 32) : (x ||| y) + (x &&& y) = x + y := by
  have h1 : x = (x &&& y) + (x &&& ~~~y) := by
    rw [BitVec.add_eq_or_of_and_eq_zero]
    · ext i; simp; cases x[i] <;> cases y[i] <;> rfl
    · ext i; simp; cases x[i] <;> cases y[i] <;> simp
  have h2 : x ||| y = y + (x &&& ~~~y) := by
    rw [BitVec.add_eq_or_of_and_eq_zero]
    · ext i; simp; cases x[i] <;> cases y[i] <;> rfl
    · ext i; simp; cases x[i] <;> cases y[i] <;> simp
  rw [h2]
  conv => rhs; rw [h1]
  ac_rfl
theorem own_or0 (x y : Int32) : (x ||| y) + (x &&& y) = x + y := Int32.toBitVec_inj.mp (by simpa using own_bvor x.toBitVec y.toBitVec)
theorem own_or (x y : Int32) : ((x ||| y).toInt + (x &&& y).toInt - (x.toInt + y.toInt)) % 4294967296 = 0 := by
  have h1 := c_iadd (x ||| y) (x &&& y)
  have h2 := c_iadd x y
  rw [own_or0] at h1; omega
theorem own_bvblk (x m a b : BitVec 32) (h1 : m ||| a = b) (h2 : m &&& a = 0#32) : (x &&& m) + (x &&& a) = x &&& b := by
  rw [BitVec.add_eq_or_of_and_eq_zero, ← h1]
  · ext i; simp; cases x[i] <;> simp
  · have : (x &&& m) &&& (x &&& a) = x &&& (m &&& a) := by ext i; simp; cases x[i] <;> simp
    rw [this, h2]; simp
theorem own_blk (x m a b : Int32) (h1 : m ||| a = b) (h2 : m &&& a = 0) : ((x &&& m).toInt + (x &&& a).toInt - (x &&& b).toInt) % 4294967296 = 0 := by
  have e : (x &&& m) + (x &&& a) = x &&& b := Int32.toBitVec_inj.mp (by
    have q1 := congrArg Int32.toBitVec h1
    have q2 := congrArg Int32.toBitVec h2
    simpa using own_bvblk x.toBitVec m.toBitVec a.toBitVec b.toBitVec (by simpa using q1) (by simpa using q2))
  have := c_iadd (x &&& m) (x &&& a)
  rw [e] at this; omega
theorem own_andM1 (x : Int32) : x &&& (-1) = x := Int32.toBitVec_inj.mp (by ext i; simp)
theorem own_narZ {b : Int32} (hb : b.toInt = 0 ∨ b.toInt = 1) : nar .boolean b = b := by
  have : b = 0 ∨ b = 1 := by
    rcases hb with q | q
    · exact Or.inl (Int32.toInt_inj.mp q)
    · exact Or.inr (Int32.toInt_inj.mp q)
  rcases this with rfl | rfl <;> decide
theorem own_narC {b : Int32} (h0 : 0 ≤ b.toInt) (h1 : b.toInt < 65536) : nar .char b = b := by
  have := c_i2c b
  exact Int32.toInt_inj.mp (by show b.toUInt32.toUInt16.toUInt32.toInt32.toInt = _; omega)
theorem own_narB {b : Int32} (h0 : -128 ≤ b.toInt) (h1 : b.toInt < 128) : nar .byte b = b := by
  have := c_i2b b
  exact Int32.toInt_inj.mp (by show b.toInt8.toInt32.toInt = _; omega)
theorem own_eq {x y : Int32} (q : x.toInt = y.toInt) : x = y := Int32.toInt_inj.mp q
theorem own_eqL {x y : Int64} (q : x.toInt = y.toInt) : x = y := Int64.toInt_inj.mp q
end OwnArith


def Tb (n : Nat) (f : Nat → Int32) (g : Int → Int) : Prop := (∀ x : Nat, x < n → (f x).toInt = g x) ∧ ∀ k : Int, (n : Int) ≤ k → g k = -1
def gset (g : Int → Int) (i z : Int) : Int → Int := fun k => if k = i then z else g k
def own_tab (m a b k : Int) : Int := if 1 ≤ m ∧ k = a then 0 else if 2 ≤ m ∧ k = b then 1 else -1
theorem Tb.start : Tb 16 (fun _ => (-1 : Int32)) (fun _ => -1) := ⟨fun _ _ => rfl, fun _ _ => rfl⟩
theorem Tb.upd {n : Nat} {f : Nat → Int32} {g : Int → Int} (T : Tb n f g) (i : Nat) (hi : i < n) (v : Int32) (z : Int) (hz : v.toInt = z) (q : Int) (hq : q = i) : Tb n (upd f i v) (gset g q z) := by
  subst hq
  refine ⟨fun x hx => ?_, fun k hk => ?_⟩
  · rw [upd_eq]; simp only [gset]
    by_cases r : x = i
    · subst r; simp [hz]
    · rw [if_neg r, if_neg (by omega)]; exact T.1 x hx
  · simp only [gset]; rw [if_neg (by omega)]; exact T.2 k hk
theorem Tb.grown {n n' : Nat} {f f' f2 : Nat → Int32} {g : Int → Int} (T : Tb n f g) (hn : n ≤ n') (hf : ∀ x, x < n' → f' x = if n ≤ x ∧ x < n' then (-1 : Int32) else cpy f2 f 0 0 n x) : Tb n' f' g := by
  refine ⟨fun x hx => ?_, fun k hk => T.2 k (by omega)⟩
  rw [hf x hx]
  by_cases r : n ≤ x
  · rw [if_pos ⟨r, hx⟩, T.2 x (by omega)]; rfl
  · rw [if_neg (by omega)]; simp only [cpy]; rw [if_pos (by omega)]
    have := T.1 x (by omega)
    simpa using this
theorem own_fs {f f1 : Nat → Int32} {i c1 : Nat} {v : Int32} (h : ∀ x, f1 x = if i ≤ x ∧ x < c1 then v else f x) (hi : i ≤ c1) (x : Nat) : upd f1 c1 v x = if i ≤ x ∧ x < c1 + 1 then v else f x := by
  rw [upd_eq, h x]
  by_cases r : x = c1
  · subst r; rw [if_pos rfl, if_pos ⟨hi, by omega⟩]
  · rw [if_neg r]
    by_cases r2 : i ≤ x ∧ x < c1
    · rw [if_pos r2, if_pos ⟨r2.1, by omega⟩]
    · rw [if_neg r2, if_neg (by omega)]
theorem own_t0 {m a b k : Int} (h : m < 1) : own_tab m a b k = -1 := by
  simp only [own_tab]; rw [if_neg (by omega), if_neg (by omega)]
theorem own_t1 {m a b k : Int} (h : ¬ m < 1) (h2 : m < 2) : own_tab m a b k = gset (fun _ => -1) a 0 k := by
  simp only [own_tab, gset]
  by_cases r : k = a
  · rw [if_pos ⟨by omega, r⟩, if_pos r]
  · rw [if_neg (by omega), if_neg (by omega), if_neg r]
theorem own_t2 {m a b k : Int} (h2 : ¬ m < 2) (hab : a ≠ b) : own_tab m a b k = gset (gset (fun _ => -1) a 0) b 1 k := by
  simp only [own_tab, gset]
  by_cases r : k = a
  · rw [if_pos ⟨by omega, r⟩, if_neg (by omega), if_pos r]
  · rw [if_neg (by omega)]
    by_cases r2 : k = b
    · rw [if_pos ⟨by omega, r2⟩, if_pos r2]
    · rw [if_neg (by omega), if_neg r2, if_neg r]
theorem d10_0 : decode jdk_29_method_70_code 0 = .ok (.lload_n 0, 1) := by decide +kernel
theorem d10_1 : decode jdk_29_method_70_code 1 = .ok (.lload_n 2, 1) := by decide +kernel
theorem d10_2 : decode jdk_29_method_70_code 2 = .ok (.lcmp, 1) := by decide +kernel
theorem d10_3 : decode jdk_29_method_70_code 3 = .ok (.ifCond .gt 7, 3) := by decide +kernel
theorem d10_10 : decode jdk_29_method_70_code 10 = .ok (.lload_n 2, 1) := by decide +kernel
theorem d10_11 : decode jdk_29_method_70_code 11 = .ok (.lreturn, 1) := by decide +kernel
theorem d10_6 : decode jdk_29_method_70_code 6 = .ok (.lload_n 0, 1) := by decide +kernel
theorem d10_7 : decode jdk_29_method_70_code 7 = .ok (.goto 4, 3) := by decide +kernel
theorem ef_10 (m : MethodId) (p0 : Int64) (p1 : Int64) : entryFrame m #[(.long p0), (.long p1)] 4 = mkF m 0 #[.val (.long p0), .second, .val (.long p1), .second] [] := by first | (simp [entryFrame, mkF, argsToLocals, Value.category]; done) | rfl
def Q10 (Z : State) (p0 : Int64) (p1 : Int64) (h0 : Heap) (n0 : Nat) (v : Option Value) (h : Heap) (L : List Loc) : Prop := ∃ r : Int64, v = some (.long r) ∧ ((p0.toInt ≤ p1.toInt ∧ r.toInt = p0.toInt) ∨ (p1.toInt < p0.toInt ∧ r.toInt = p1.toInt)) ∧ Fr n0 L ∧ h = h0
set_option maxRecDepth 65536 in
set_option maxHeartbeats 40000000 in
theorem rm10 (l : Launch) (Z : State) (a0 : Array Value) (hw : ∀ d ∈ tables_1, d.before a0 Z = true) (ws : List Jvm.Cond) (p0 : Int64) (p1 : Int64) (h0 : Heap) (n0 : Nat) (Z0 : n0 ≤ h0.size) :
    MetFree l (⟨"java/lang/Math", "min", "(JJ)J"⟩ : MethodName) (head1 (Jvm.Cond.code (⟨"java/lang/Math", "min", "(JJ)J"⟩ : MethodName) jdk_29_method_70_code 4 (some .long) :: ws) ({ frames := 0, cells := 0, slots := 0, locals := 0 } : Room)) (fun a U => a = #[(.long p0), (.long p1)] ∧ Z.Warmed39 U.vm ∧ U.heap = h0) (fun _ _ _ _ _ => True) (fun _ U o U' => ∃ v L, o = .returned v ∧ Q10 Z p0 p1 h0 n0 v U'.heap L ∧ FrameEnd U o U' L ({ frames := 0, cells := 0, slots := 0, locals := 0 } : Room).cells ({ frames := 0, cells := 0, slots := 0, locals := 0 } : Room).slots) := by
  refine MetFree.of_bodySF (Jvm.Free.JP.mathPlain rfl (by decide +kernel)) hisR ?_
  intro p e s m args below meth c s₁ Bd hml0 hP hK
  obtain ⟨rfl, hZ, hh⟩ := hP
  have C : Ctx p s m meth c Z "java/lang/Math" "min" jdk_29_method_70_code 4 (some .long) := Ctx.of Bd hml0 hZ
  have X0 : Stand p l e ({ frames := 0, cells := 0, slots := 0, locals := 0 } : Room) s m #[(.long p0), (.long p1)] below meth c s₁ [] 0 0 := Stand.of_body Bd
  have e0 : s₁.heap = h0 := by rw [← hh, Bd.state]; rfl
  have N0 := Fr.nil n0
  refine Goes.enter (ef_10 m p0 p1) ?_
  clear hK hml0 hh
  refine g_lloadN 1 rfl C X0 d10_0 rfl ?_
  refine g_lloadN 2 rfl C X0 d10_1 rfl ?_
  refine g_lcmp 3 rfl C X0 d10_2 ?_
  by_cases hb1 : p1.toInt < p0.toInt
  · skip
    refine g_il_gt_t 10 C X0 d10_3 (by decide) (by decide) hb1 ?_
    refine g_lloadN 11 rfl C X0 d10_10 rfl ?_
    have fr2 := rng64 p0
    have fr3 := rng64 p1
    exact g_retJ C X0 rfl d10_11 e0 (by decide) (by decide) ⟨_, rfl, by omega, N0, rfl⟩
  · skip
    refine g_il_gt_f 6 rfl C X0 d10_3 hb1 ?_
    refine g_lloadN 7 rfl C X0 d10_6 rfl ?_
    refine g_goto 11 C X0 d10_7 (by decide) (by decide) ?_
    have fr4 := rng64 p0
    have fr5 := rng64 p1
    exact g_retJ C X0 rfl d10_11 e0 (by decide) (by decide) ⟨_, rfl, by omega, N0, rfl⟩
theorem d11_0 : decode jdk_29_method_65_code 0 = .ok (.iload_n 0, 1) := by decide +kernel
theorem d11_1 : decode jdk_29_method_65_code 1 = .ok (.iload_n 1, 1) := by decide +kernel
theorem d11_2 : decode jdk_29_method_65_code 2 = .ok (.if_icmp .lt 7, 3) := by decide +kernel
theorem d11_9 : decode jdk_29_method_65_code 9 = .ok (.iload_n 1, 1) := by decide +kernel
theorem d11_10 : decode jdk_29_method_65_code 10 = .ok (.ireturn, 1) := by decide +kernel
theorem d11_5 : decode jdk_29_method_65_code 5 = .ok (.iload_n 0, 1) := by decide +kernel
theorem d11_6 : decode jdk_29_method_65_code 6 = .ok (.goto 4, 3) := by decide +kernel
theorem ef_11 (m : MethodId) (p0 : Int32) (p1 : Int32) : entryFrame m #[(.int p0), (.int p1)] 2 = mkF m 0 #[.val (.int p0), .val (.int p1)] [] := by first | (simp [entryFrame, mkF, argsToLocals, Value.category]; done) | rfl
def Q11 (Z : State) (p0 : Int32) (p1 : Int32) (h0 : Heap) (n0 : Nat) (v : Option Value) (h : Heap) (L : List Loc) : Prop := ∃ r : Int32, v = some (.int r) ∧ ((p0.toInt ≤ p1.toInt ∧ r.toInt = p1.toInt) ∨ (p1.toInt < p0.toInt ∧ r.toInt = p0.toInt)) ∧ Fr n0 L ∧ h = h0
set_option maxRecDepth 65536 in
set_option maxHeartbeats 40000000 in
theorem rm11 (l : Launch) (Z : State) (a0 : Array Value) (hw : ∀ d ∈ tables_1, d.before a0 Z = true) (ws : List Jvm.Cond) (p0 : Int32) (p1 : Int32) (h0 : Heap) (n0 : Nat) (Z0 : n0 ≤ h0.size) :
    MetFree l (⟨"java/lang/Math", "max", "(II)I"⟩ : MethodName) (head1 (Jvm.Cond.code (⟨"java/lang/Math", "max", "(II)I"⟩ : MethodName) jdk_29_method_65_code 2 (some .int) :: ws) ({ frames := 0, cells := 0, slots := 0, locals := 0 } : Room)) (fun a U => a = #[(.int p0), (.int p1)] ∧ Z.Warmed39 U.vm ∧ U.heap = h0) (fun _ _ _ _ _ => True) (fun _ U o U' => ∃ v L, o = .returned v ∧ Q11 Z p0 p1 h0 n0 v U'.heap L ∧ FrameEnd U o U' L ({ frames := 0, cells := 0, slots := 0, locals := 0 } : Room).cells ({ frames := 0, cells := 0, slots := 0, locals := 0 } : Room).slots) := by
  refine MetFree.of_bodySF (Jvm.Free.JP.mathPlain rfl (by decide +kernel)) hisR ?_
  intro p e s m args below meth c s₁ Bd hml0 hP hK
  obtain ⟨rfl, hZ, hh⟩ := hP
  have C : Ctx p s m meth c Z "java/lang/Math" "max" jdk_29_method_65_code 2 (some .int) := Ctx.of Bd hml0 hZ
  have X0 : Stand p l e ({ frames := 0, cells := 0, slots := 0, locals := 0 } : Room) s m #[(.int p0), (.int p1)] below meth c s₁ [] 0 0 := Stand.of_body Bd
  have e0 : s₁.heap = h0 := by rw [← hh, Bd.state]; rfl
  have N0 := Fr.nil n0
  refine Goes.enter (ef_11 m p0 p1) ?_
  clear hK hml0 hh
  refine g_iloadN 1 rfl C X0 d11_0 rfl ?_
  refine g_iloadN 2 rfl C X0 d11_1 rfl ?_
  by_cases hb1 : p0.toInt < p1.toInt
  · skip
    refine g_icmp_lt_t 9 C X0 d11_2 (by decide) (by decide) hb1 ?_
    refine g_iloadN 10 rfl C X0 d11_9 rfl ?_
    have fr2 := rng32 p0
    have fr3 := rng32 p1
    exact g_retI C X0 rfl d11_10 e0 (by decide) (by decide) ⟨_, rfl, by omega, N0, rfl⟩
  · skip
    refine g_icmp_lt_f 5 rfl C X0 d11_2 hb1 ?_
    refine g_iloadN 6 rfl C X0 d11_5 rfl ?_
    refine g_goto 10 C X0 d11_6 (by decide) (by decide) ?_
    have fr4 := rng32 p0
    have fr5 := rng32 p1
    exact g_retI C X0 rfl d11_10 e0 (by decide) (by decide) ⟨_, rfl, by omega, N0, rfl⟩
theorem d13_0 : decode jdk_29_method_69_code 0 = .ok (.iload_n 0, 1) := by decide +kernel
theorem d13_1 : decode jdk_29_method_69_code 1 = .ok (.iload_n 1, 1) := by decide +kernel
theorem d13_2 : decode jdk_29_method_69_code 2 = .ok (.if_icmp .gt 7, 3) := by decide +kernel
theorem d13_9 : decode jdk_29_method_69_code 9 = .ok (.iload_n 1, 1) := by decide +kernel
theorem d13_10 : decode jdk_29_method_69_code 10 = .ok (.ireturn, 1) := by decide +kernel
theorem d13_5 : decode jdk_29_method_69_code 5 = .ok (.iload_n 0, 1) := by decide +kernel
theorem d13_6 : decode jdk_29_method_69_code 6 = .ok (.goto 4, 3) := by decide +kernel
theorem ef_13 (m : MethodId) (p0 : Int32) (p1 : Int32) : entryFrame m #[(.int p0), (.int p1)] 2 = mkF m 0 #[.val (.int p0), .val (.int p1)] [] := by first | (simp [entryFrame, mkF, argsToLocals, Value.category]; done) | rfl
def Q13 (Z : State) (p0 : Int32) (p1 : Int32) (h0 : Heap) (n0 : Nat) (v : Option Value) (h : Heap) (L : List Loc) : Prop := ∃ r : Int32, v = some (.int r) ∧ ((p0.toInt ≤ p1.toInt ∧ r.toInt = p0.toInt) ∨ (p1.toInt < p0.toInt ∧ r.toInt = p1.toInt)) ∧ Fr n0 L ∧ h = h0
set_option maxRecDepth 65536 in
set_option maxHeartbeats 40000000 in
theorem rm13 (l : Launch) (Z : State) (a0 : Array Value) (hw : ∀ d ∈ tables_1, d.before a0 Z = true) (ws : List Jvm.Cond) (p0 : Int32) (p1 : Int32) (h0 : Heap) (n0 : Nat) (Z0 : n0 ≤ h0.size) :
    MetFree l (⟨"java/lang/Math", "min", "(II)I"⟩ : MethodName) (head1 (Jvm.Cond.code (⟨"java/lang/Math", "min", "(II)I"⟩ : MethodName) jdk_29_method_69_code 2 (some .int) :: ws) ({ frames := 0, cells := 0, slots := 0, locals := 0 } : Room)) (fun a U => a = #[(.int p0), (.int p1)] ∧ Z.Warmed39 U.vm ∧ U.heap = h0) (fun _ _ _ _ _ => True) (fun _ U o U' => ∃ v L, o = .returned v ∧ Q13 Z p0 p1 h0 n0 v U'.heap L ∧ FrameEnd U o U' L ({ frames := 0, cells := 0, slots := 0, locals := 0 } : Room).cells ({ frames := 0, cells := 0, slots := 0, locals := 0 } : Room).slots) := by
  refine MetFree.of_bodySF (Jvm.Free.JP.mathPlain rfl (by decide +kernel)) hisR ?_
  intro p e s m args below meth c s₁ Bd hml0 hP hK
  obtain ⟨rfl, hZ, hh⟩ := hP
  have C : Ctx p s m meth c Z "java/lang/Math" "min" jdk_29_method_69_code 2 (some .int) := Ctx.of Bd hml0 hZ
  have X0 : Stand p l e ({ frames := 0, cells := 0, slots := 0, locals := 0 } : Room) s m #[(.int p0), (.int p1)] below meth c s₁ [] 0 0 := Stand.of_body Bd
  have e0 : s₁.heap = h0 := by rw [← hh, Bd.state]; rfl
  have N0 := Fr.nil n0
  refine Goes.enter (ef_13 m p0 p1) ?_
  clear hK hml0 hh
  refine g_iloadN 1 rfl C X0 d13_0 rfl ?_
  refine g_iloadN 2 rfl C X0 d13_1 rfl ?_
  by_cases hb1 : p1.toInt < p0.toInt
  · skip
    refine g_icmp_gt_t 9 C X0 d13_2 (by decide) (by decide) hb1 ?_
    refine g_iloadN 10 rfl C X0 d13_9 rfl ?_
    have fr2 := rng32 p0
    have fr3 := rng32 p1
    exact g_retI C X0 rfl d13_10 e0 (by decide) (by decide) ⟨_, rfl, by omega, N0, rfl⟩
  · skip
    refine g_icmp_gt_f 5 rfl C X0 d13_2 hb1 ?_
    refine g_iloadN 6 rfl C X0 d13_5 rfl ?_
    refine g_goto 10 C X0 d13_6 (by decide) (by decide) ?_
    have fr4 := rng32 p0
    have fr5 := rng32 p1
    exact g_retI C X0 rfl d13_10 e0 (by decide) (by decide) ⟨_, rfl, by omega, N0, rfl⟩
theorem d9_0 : decode prog_17_method_15_code 0 = .ok (.iload_n 0, 1) := by decide +kernel
theorem d9_1 : decode prog_17_method_15_code 1 = .ok (.ldc 107, 2) := by decide +kernel
theorem d9_3 : decode prog_17_method_15_code 3 = .ok (.if_icmp .ne 8, 3) := by decide +kernel
theorem d9_11 : decode prog_17_method_15_code 11 = .ok (.ldc2_w 112, 3) := by decide +kernel
theorem d9_14 : decode prog_17_method_15_code 14 = .ok (.iload_n 0, 1) := by decide +kernel
theorem d9_15 : decode prog_17_method_15_code 15 = .ok (.i2l, 1) := by decide +kernel
theorem d9_16 : decode prog_17_method_15_code 16 = .ok (.lmul, 1) := by decide +kernel
theorem d9_17 : decode prog_17_method_15_code 17 = .ok (.ldc2_w 114, 3) := by decide +kernel
theorem d9_20 : decode prog_17_method_15_code 20 = .ok (.invokestatic 116, 3) := by decide +kernel
theorem pd_4058490 : parseMethodDescriptor "(JJ)J" = some ⟨[.long, .long], some .long⟩ := by decide +kernel
theorem d9_23 : decode prog_17_method_15_code 23 = .ok (.l2i, 1) := by decide +kernel
theorem d9_24 : decode prog_17_method_15_code 24 = .ok (.ireturn, 1) := by decide +kernel
theorem pn_31168043 : plainName "com/example/bisimulation/bisimulation/ccs/StateTable" = true := by first | (simp [plainName, overriddenIn]; done) | decide +kernel
theorem ef_9 (m : MethodId) (p0 : Int32) : entryFrame m #[(.int p0)] 1 = mkF m 0 #[.val (.int p0)] [] := by first | (simp [entryFrame, mkF, argsToLocals, Value.category]; done) | rfl
def Q9 (Z : State) (p0 : Int32) (h0 : Heap) (n0 : Nat) (v : Option Value) (h : Heap) (L : List Loc) : Prop := ∃ r : Int32, v = some (.int r) ∧ (r.toInt = 2 * p0.toInt) ∧ Fr n0 L ∧ h = h0
set_option maxRecDepth 65536 in
set_option maxHeartbeats 40000000 in
theorem rm9 (l : Launch) (Z : State) (a0 : Array Value) (hw : ∀ d ∈ tables_1, d.before a0 Z = true) (ws : List Jvm.Cond) (p0 : Int32) (h0 : Heap) (n0 : Nat) (Z0 : n0 ≤ h0.size) (hp : 16 ≤ p0.toInt ∧ p0.toInt ≤ 64) :
    MetFree l (⟨"com/example/bisimulation/bisimulation/ccs/StateTable", "doubled", "(I)I"⟩ : MethodName) (head1 (Jvm.Cond.code (⟨"com/example/bisimulation/bisimulation/ccs/StateTable", "doubled", "(I)I"⟩ : MethodName) prog_17_method_15_code 1 (some .int) :: ws) ({ frames := 1, cells := 0, slots := 0, locals := 15 } : Room)) (fun a U => a = #[(.int p0)] ∧ Z.Warmed39 U.vm ∧ U.heap = h0) (fun _ _ _ _ _ => True) (fun _ U o U' => ∃ v L, o = .returned v ∧ Q9 Z p0 h0 n0 v U'.heap L ∧ FrameEnd U o U' L ({ frames := 1, cells := 0, slots := 0, locals := 15 } : Room).cells ({ frames := 1, cells := 0, slots := 0, locals := 15 } : Room).slots) := by
  refine MetFree.of_bodySF (plainFor_of_name pn_31168043) hisR ?_
  intro p e s m args below meth c s₁ Bd hml0 hP hK
  obtain ⟨rfl, hZ, hh⟩ := hP
  have C : Ctx p s m meth c Z "com/example/bisimulation/bisimulation/ccs/StateTable" "doubled" prog_17_method_15_code 1 (some .int) := Ctx.of Bd hml0 hZ
  have X0 : Stand p l e ({ frames := 1, cells := 0, slots := 0, locals := 15 } : Room) s m #[(.int p0)] below meth c s₁ [] 0 0 := Stand.of_body Bd
  have e0 : s₁.heap = h0 := by rw [← hh, Bd.state]; rfl
  have N0 := Fr.nil n0
  refine Goes.enter (ef_9 m p0) ?_
  clear hK hml0 hh
  refine g_iloadN 1 rfl C X0 d9_0 rfl ?_
  refine g_ldc 3 rfl C X0 (hw _ (List.mem_of_getElem? (i := 57) rfl)) d9_1 ?_
  have hq2 : ¬ (p0.toInt = (2147483639 : Int32).toInt) := by
    have fr3 := rng32 p0
    have fc4 : (2147483639 : Int32).toInt = 2147483639 := rfl
    omega
  refine g_icmp_ne_t 11 C X0 d9_3 (by decide) (by decide) hq2 ?_
  refine g_ldc2 14 rfl C X0 (hw _ (List.mem_of_getElem? (i := 58) rfl)) d9_11 ?_
  refine g_iloadN 15 rfl C X0 d9_14 rfl ?_
  refine g_i2l 16 rfl C X0 d9_15 ?_
  refine g_lmul 17 rfl C X0 d9_16 ?_
  refine g_ldc2 20 rfl C X0 (hw _ (List.mem_of_getElem? (i := 59) rfl)) d9_17 ?_
  refine g_callS 23 rfl C X0 (argsL := [(.long ((2 : Int64) * ((p0).toInt64))), (.long (2147483639 : Int64))]) (hw _ (List.mem_of_getElem? (i := 60) rfl)) (hw _ (List.mem_of_getElem? (i := 61) rfl)) (hw _ (List.mem_of_getElem? (i := 63) rfl)) (hw _ (List.mem_of_getElem? (i := 62) rfl)) e0 (rm10 l Z a0 hw [] ((2 : Int64) * ((p0).toInt64)) (2147483639 : Int64) h0 n0 Z0) (lenOf pd_4058490 rfl) (by decide) (by decide) (by decide) (by decide) rfl (W := 0) (Nat.le_of_eq rfl) (by decide) d9_20 rfl fun r5 T6 Lc7 X8 hQ9 => ?_
  obtain ⟨r10, rfl, hs11, Nq12, eh13⟩ := hQ9
  have N14 := Fr.app N0 Nq12
  show Goes _ _ _ _ _ _ 23 _ [(.long r10)]
  refine g_l2i 24 rfl C X8 d9_23 ?_
  have hq15 : ((r10).toInt32).toInt = 2 * p0.toInt := by
    have fc16 : (2 : Int64).toInt = 2 := rfl
    have fr17 := rng32 p0
    have fo18 := c_i2l p0
    have fo19 := own_lmulc' (2 : Int64) ((p0).toInt64) 2 rfl
    have fr20 := rng64 ((2 : Int64) * ((p0).toInt64))
    have fc21 : (2147483639 : Int64).toInt = 2147483639 := rfl
    have fr22 := rng64 r10
    have fo23 := c_l2i r10
    have fr24 := rng32 ((r10).toInt32)
    omega
  exact g_retI C X8 rfl d9_24 eh13 (by decide) (by decide) ⟨_, rfl, hq15, N14, rfl⟩
theorem d5_0 : decode jdk_65_method_103_code 0 = .ok (.iconst 0, 1) := by decide +kernel
theorem d5_1 : decode jdk_65_method_103_code 1 = .ok (.istore_n 2, 1) := by decide +kernel
theorem d5_2 : decode jdk_65_method_103_code 2 = .ok (.aload_n 0, 1) := by decide +kernel
theorem d5_3 : decode jdk_65_method_103_code 3 = .ok (.arraylength, 1) := by decide +kernel
theorem d5_4 : decode jdk_65_method_103_code 4 = .ok (.istore_n 3, 1) := by decide +kernel
theorem d5_5 : decode jdk_65_method_103_code 5 = .ok (.iload_n 2, 1) := by decide +kernel
theorem d5_6 : decode jdk_65_method_103_code 6 = .ok (.iload_n 3, 1) := by decide +kernel
theorem d5_7 : decode jdk_65_method_103_code 7 = .ok (.if_icmp .ge 13, 3) := by decide +kernel
theorem d5_20 : decode jdk_65_method_103_code 20 = .ok (.return_, 1) := by decide +kernel
theorem d5_10 : decode jdk_65_method_103_code 10 = .ok (.aload_n 0, 1) := by decide +kernel
theorem d5_11 : decode jdk_65_method_103_code 11 = .ok (.iload_n 2, 1) := by decide +kernel
theorem d5_12 : decode jdk_65_method_103_code 12 = .ok (.iload_n 1, 1) := by decide +kernel
theorem d5_13 : decode jdk_65_method_103_code 13 = .ok (.iastore, 1) := by decide +kernel
theorem d5_14 : decode jdk_65_method_103_code 14 = .ok (.iinc 2 1, 3) := by decide +kernel
theorem d5_17 : decode jdk_65_method_103_code 17 = .ok (.goto (-12), 3) := by decide +kernel
theorem pn_58157509 : plainName "java/util/Arrays" = true := by first | (simp [plainName, overriddenIn]; done) | decide +kernel
theorem ef_5 (m : MethodId) (b0 : Addr) (p1 : Int32) : entryFrame m #[(.ref b0), (.int p1)] 4 = mkF m 0 #[.val (.ref b0), .val (.int p1), .unset, .unset] [] := by first | (simp [entryFrame, mkF, argsToLocals, Value.category]; done) | rfl
def Q5 (Z : State) (b0 : Addr) (p1 : Int32) (f : Nat → Int32) (n : Nat) (h0 : Heap) (n0 : Nat) (v : Option Value) (h : Heap) (L : List Loc) : Prop := v = none ∧ Fr n0 L ∧ Keep h0 h [b0] ∧ Ba Z h b0 .int n (fun _ => p1)
set_option maxRecDepth 65536 in
set_option maxHeartbeats 40000000 in
theorem rm5 (l : Launch) (Z : State) (a0 : Array Value) (hw : ∀ d ∈ tables_1, d.before a0 Z = true) (ws : List Jvm.Cond) (b0 : Addr) (p1 : Int32) (f : Nat → Int32) (n : Nat) (h0 : Heap) (n0 : Nat) (Z0 : n0 ≤ h0.size) (B_b0 : Ba Z h0 b0 .int n f) (hn : n ≤ 128) (g_b0 : n0 ≤ b0) :
    MetFree l (⟨"java/util/Arrays", "fill", "([II)V"⟩ : MethodName) (head1 (Jvm.Cond.code (⟨"java/util/Arrays", "fill", "([II)V"⟩ : MethodName) jdk_65_method_103_code 4 none :: ws) ({ frames := 0, cells := 0, slots := 0, locals := 0 } : Room)) (fun a U => a = #[(.ref b0), (.int p1)] ∧ Z.Warmed39 U.vm ∧ U.heap = h0) (fun _ _ _ _ _ => True) (fun _ U o U' => ∃ v L, o = .returned v ∧ Q5 Z b0 p1 f n h0 n0 v U'.heap L ∧ FrameEnd U o U' L ({ frames := 0, cells := 0, slots := 0, locals := 0 } : Room).cells ({ frames := 0, cells := 0, slots := 0, locals := 0 } : Room).slots) := by
  refine MetFree.of_bodySF (plainFor_of_name pn_58157509) hisR ?_
  intro p e s m args below meth c s₁ Bd hml0 hP hK
  obtain ⟨rfl, hZ, hh⟩ := hP
  have C : Ctx p s m meth c Z "java/util/Arrays" "fill" jdk_65_method_103_code 4 none := Ctx.of Bd hml0 hZ
  have X0 : Stand p l e ({ frames := 0, cells := 0, slots := 0, locals := 0 } : Room) s m #[(.ref b0), (.int p1)] below meth c s₁ [] 0 0 := Stand.of_body Bd
  have e0 : s₁.heap = h0 := by rw [← hh, Bd.state]; rfl
  have N0 := Fr.nil n0
  refine Goes.enter (ef_5 m b0 p1) ?_
  clear hK hml0 hh
  obtain ⟨ln, hln⟩ : ∃ z : Int32, z.toInt = (n : Int) := ⟨n.toInt32, own_lenI (by omega)⟩
  refine g_iconst 1 rfl C X0 (0 : Int32) d5_0 rfl ?_
  refine g_istoreN 2 rfl C X0 (0 : Int32) rfl #[.val (.ref b0), .val (.int p1), .val (.int (0 : Int32)), .unset] d5_1 rfl ?_
  refine g_aloadN 3 rfl C X0 d5_2 rfl rfl ?_
  refine g_len 4 rfl C X0 e0 B_b0 ln hln d5_3 ?_
  refine g_istoreN 5 rfl C X0 ln rfl #[.val (.ref b0), .val (.int p1), .val (.int (0 : Int32)), .val (.int ln)] d5_4 rfl ?_
  have loop : ∀ (k c1 : Nat) (vi : Int32) (Tl : State) (hl : Heap) (Ll : List Loc) (fl : Nat → Int32), Stand p l e ({ frames := 0, cells := 0, slots := 0, locals := 0 } : Room) s m #[(.ref b0), (.int p1)] below meth c Tl Ll 0 0 → Tl.heap = hl → Keep h0 hl [b0] → Ba Z hl b0 .int n fl → Fr n0 Ll → n0 ≤ hl.size → vi.toInt = (c1 : Int) → c1 + k = n → (∀ x, fl x = if 0 ≤ x ∧ x < c1 then p1 else f x) → Goes p e below (EndN s (Q5 Z b0 p1 f n h0 n0) ({ frames := 0, cells := 0, slots := 0, locals := 0 } : Room).cells ({ frames := 0, cells := 0, slots := 0, locals := 0 } : Room).slots) Tl m 5 #[.val (.ref b0), .val (.int p1), .val (.int vi), .val (.int ln)] [] := by
    intro k
    induction k with
    | zero =>
      intro c1 vi Tl hl Ll fl Xl el Kl Bl Nl Zl hvi hck hfl
      refine g_iloadN 6 rfl C Xl d5_5 rfl ?_
      refine g_iloadN 7 rfl C Xl d5_6 rfl ?_
      have hq2 : ¬ (vi.toInt < ln.toInt) := by
        omega
      refine g_icmp_ge_t 20 C Xl d5_7 (by decide) (by decide) hq2 ?_
      exact g_retV C Xl rfl d5_20 el (by decide) (by decide) ⟨rfl, Nl, Kl, Bl.cong (fun x hx => by rw [hfl x, if_pos ⟨Nat.zero_le _, by omega⟩])⟩
    | succ k ih =>
      intro c1 vi Tl hl Ll fl Xl el Kl Bl Nl Zl hvi hck hfl
      refine g_iloadN 6 rfl C Xl d5_5 rfl ?_
      refine g_iloadN 7 rfl C Xl d5_6 rfl ?_
      have hq4 : vi.toInt < ln.toInt := by
        omega
      refine g_icmp_ge_f 10 rfl C Xl d5_7 hq4 ?_
      refine g_aloadN 11 rfl C Xl d5_10 rfl rfl ?_
      refine g_iloadN 12 rfl C Xl d5_11 rfl ?_
      refine g_iloadN 13 rfl C Xl d5_12 rfl ?_
      refine g_iastore 14 rfl C Xl el Bl (c1) hvi (by omega) p1 rfl d5_13 Nl g_b0 fun T5 h6 ls7 X8 e9 W10 B11 N12 => ?_
      have Zs13 := Nat.le_trans Zl (Nat.le_of_eq W10.size.symm)
      have Kp14 : Keep h0 h6 [b0] := Kl.wr W10 (Or.inl (List.mem_of_getElem? (i := 0) rfl))
      obtain ⟨v15, hv15⟩ : ∃ z : Int32, (vi + (1 : Int32)) = z := ⟨_, rfl⟩
      refine g_iinc 17 rfl C X8 (1 : Int32) v15 #[.val (.ref b0), .val (.int p1), .val (.int v15), .val (.int ln)] d5_14 rfl rfl hv15 rfl ?_
      refine g_goto 5 C X8 d5_17 (by decide) (by decide) ?_
      have hq16 : v15.toInt = ((c1 + 1 : Nat) : Int) := by
        have fr17 := rng32 v15
        have fr18 := rng32 vi
        have fc19 : (1 : Int32).toInt = 1 := rfl
        have fo20 := c_iadd vi (1 : Int32)
        have fr21 := rng32 (vi + (1 : Int32))
        have fe22 : (vi + (1 : Int32)).toInt = v15.toInt := congrArg Int32.toInt hv15
        omega
      exact ih (c1 + 1) v15 T5 h6 _ _ X8 e9 Kp14 B11 N12 Zs13 hq16 (by omega) (own_fs hfl (Nat.zero_le _))
  exact loop n 0 0 s₁ h0 _ _ X0 e0 (Keep.refl h0 [b0]) B_b0 N0 Z0 rfl (by omega) (fun x => (if_neg (by omega)).symm)
theorem d4_0 : decode prog_17_method_17_code 0 = .ok (.iload_n 0, 1) := by decide +kernel
theorem d4_1 : decode prog_17_method_17_code 1 = .ok (.newarray .int, 2) := by decide +kernel
theorem d4_3 : decode prog_17_method_17_code 3 = .ok (.astore_n 1, 1) := by decide +kernel
theorem d4_4 : decode prog_17_method_17_code 4 = .ok (.aload_n 1, 1) := by decide +kernel
theorem d4_5 : decode prog_17_method_17_code 5 = .ok (.iconst (-1), 1) := by decide +kernel
theorem d4_6 : decode prog_17_method_17_code 6 = .ok (.invokestatic 129, 3) := by decide +kernel
theorem pd_36457671 : parseMethodDescriptor "([II)V" = some ⟨[(.array .int), .int], none⟩ := by decide +kernel
theorem d4_9 : decode prog_17_method_17_code 9 = .ok (.aload_n 1, 1) := by decide +kernel
theorem d4_10 : decode prog_17_method_17_code 10 = .ok (.areturn, 1) := by decide +kernel
theorem ef_4_16 (m : MethodId)  : entryFrame m #[(.int (16 : Int32))] 2 = mkF m 0 #[.val (.int (16 : Int32)), .unset] [] := by first | (simp [entryFrame, mkF, argsToLocals, Value.category]; done) | rfl
def Q4_16 (Z : State)  (h0 : Heap) (n0 : Nat) (v : Option Value) (h : Heap) (L : List Loc) : Prop := ∃ a, v = some (.ref a) ∧ Fr n0 L ∧ Keep h0 h [] ∧ h0.size ≤ a ∧ Ba Z h a .int 16 (fun _ => (-1 : Int32))
set_option maxRecDepth 65536 in
set_option maxHeartbeats 40000000 in
theorem rm4_16 (l : Launch) (Z : State) (a0 : Array Value) (hw : ∀ d ∈ tables_1, d.before a0 Z = true) (ws : List Jvm.Cond)  (h0 : Heap) (n0 : Nat) (Z0 : n0 ≤ h0.size) :
    MetFree l (⟨"com/example/bisimulation/bisimulation/ccs/StateTable", "filled", "(I)[I"⟩ : MethodName) (head1 (Jvm.Cond.code (⟨"com/example/bisimulation/bisimulation/ccs/StateTable", "filled", "(I)[I"⟩ : MethodName) prog_17_method_17_code 2 (some (.array .int)) :: ws) ({ frames := 1, cells := 1, slots := 16, locals := 15 } : Room)) (fun a U => a = #[(.int (16 : Int32))] ∧ Z.Warmed39 U.vm ∧ U.heap = h0) (fun _ _ _ _ _ => True) (fun _ U o U' => ∃ v L, o = .returned v ∧ Q4_16 Z  h0 n0 v U'.heap L ∧ FrameEnd U o U' L ({ frames := 1, cells := 1, slots := 16, locals := 15 } : Room).cells ({ frames := 1, cells := 1, slots := 16, locals := 15 } : Room).slots) := by
  refine MetFree.of_bodySF (plainFor_of_name pn_31168043) hisR ?_
  intro p e s m args below meth c s₁ Bd hml0 hP hK
  obtain ⟨rfl, hZ, hh⟩ := hP
  have C : Ctx p s m meth c Z "com/example/bisimulation/bisimulation/ccs/StateTable" "filled" prog_17_method_17_code 2 (some (.array .int)) := Ctx.of Bd hml0 hZ
  have X0 : Stand p l e ({ frames := 1, cells := 1, slots := 16, locals := 15 } : Room) s m #[(.int (16 : Int32))] below meth c s₁ [] 0 0 := Stand.of_body Bd
  have e0 : s₁.heap = h0 := by rw [← hh, Bd.state]; rfl
  have N0 := Fr.nil n0
  refine Goes.enter (ef_4_16 m ) ?_
  clear hK hml0 hh
  refine g_iloadN 1 rfl C X0 d4_0 rfl ?_
  refine g_newP 3 rfl C X0 16 (by decide) 16 (by decide) (by decide) rfl (hw _ (List.mem_of_getElem? (i := 22) rfl)) e0 d4_1 (by decide) (by decide) fun T1 h2 o3 g4 X5 e6 E7 B8 => ?_
  have gn9 : n0 ≤ o3 := by rw [g4]; exact Z0
  have sz10 : h0.size ≤ o3 := by rw [g4]; exact (Keep.refl h0 []).1
  have Zs11 := Nat.le_trans Z0 E7.1
  have Kp12 : Keep h0 h2 [] := (Keep.refl h0 []).ext E7
  refine g_astoreN 4 rfl C X5 #[.val (.int (16 : Int32)), .val (.ref o3)] d4_3 rfl rfl ?_
  refine g_aloadN 5 rfl C X5 d4_4 rfl rfl ?_
  refine g_iconst 6 rfl C X5 (-1 : Int32) d4_5 rfl ?_
  refine g_callS 9 rfl C X5 (argsL := [(.ref o3), (.int (-1 : Int32))]) (hw _ (List.mem_of_getElem? (i := 23) rfl)) (hw _ (List.mem_of_getElem? (i := 24) rfl)) (hw _ (List.mem_of_getElem? (i := 26) rfl)) (hw _ (List.mem_of_getElem? (i := 25) rfl)) e6 (rm5 l Z a0 hw [] o3 (-1 : Int32) (fun _ => 0) 16 h2 n0 Zs11 B8 (by decide) gn9) (lenOf pd_36457671 rfl) (by decide) (by decide) (by decide) (by decide) rfl (W := 0) (Nat.le_of_eq rfl) (by decide) d4_6 rfl fun r13 T14 Lc15 X16 hQ17 => ?_
  obtain ⟨rfl, Nq18, Kc19, F20⟩ := hQ17
  have Zs21 := Nat.le_trans Zs11 Kc19.1
  have Kp22 : Keep h0 T14.heap [] := Keep.trans Kp12 Kc19 (allS (Or.inr sz10) all0)
  have N23 := Fr.app N0 Nq18
  show Goes _ _ _ _ _ _ 9 _ []
  refine g_aloadN 10 rfl C X16 d4_9 rfl rfl ?_
  exact g_retA C X16 rfl rfl rfl rfl d4_10 rfl (by decide) (by decide) ⟨o3, rfl, N23, Kp22, sz10, F20⟩
theorem ef_4_32 (m : MethodId)  : entryFrame m #[(.int (32 : Int32))] 2 = mkF m 0 #[.val (.int (32 : Int32)), .unset] [] := by first | (simp [entryFrame, mkF, argsToLocals, Value.category]; done) | rfl
def Q4_32 (Z : State)  (h0 : Heap) (n0 : Nat) (v : Option Value) (h : Heap) (L : List Loc) : Prop := ∃ a, v = some (.ref a) ∧ Fr n0 L ∧ Keep h0 h [] ∧ h0.size ≤ a ∧ Ba Z h a .int 32 (fun _ => (-1 : Int32))
set_option maxRecDepth 65536 in
set_option maxHeartbeats 40000000 in
theorem rm4_32 (l : Launch) (Z : State) (a0 : Array Value) (hw : ∀ d ∈ tables_1, d.before a0 Z = true) (ws : List Jvm.Cond)  (h0 : Heap) (n0 : Nat) (Z0 : n0 ≤ h0.size) :
    MetFree l (⟨"com/example/bisimulation/bisimulation/ccs/StateTable", "filled", "(I)[I"⟩ : MethodName) (head1 (Jvm.Cond.code (⟨"com/example/bisimulation/bisimulation/ccs/StateTable", "filled", "(I)[I"⟩ : MethodName) prog_17_method_17_code 2 (some (.array .int)) :: ws) ({ frames := 1, cells := 1, slots := 32, locals := 15 } : Room)) (fun a U => a = #[(.int (32 : Int32))] ∧ Z.Warmed39 U.vm ∧ U.heap = h0) (fun _ _ _ _ _ => True) (fun _ U o U' => ∃ v L, o = .returned v ∧ Q4_32 Z  h0 n0 v U'.heap L ∧ FrameEnd U o U' L ({ frames := 1, cells := 1, slots := 32, locals := 15 } : Room).cells ({ frames := 1, cells := 1, slots := 32, locals := 15 } : Room).slots) := by
  refine MetFree.of_bodySF (plainFor_of_name pn_31168043) hisR ?_
  intro p e s m args below meth c s₁ Bd hml0 hP hK
  obtain ⟨rfl, hZ, hh⟩ := hP
  have C : Ctx p s m meth c Z "com/example/bisimulation/bisimulation/ccs/StateTable" "filled" prog_17_method_17_code 2 (some (.array .int)) := Ctx.of Bd hml0 hZ
  have X0 : Stand p l e ({ frames := 1, cells := 1, slots := 32, locals := 15 } : Room) s m #[(.int (32 : Int32))] below meth c s₁ [] 0 0 := Stand.of_body Bd
  have e0 : s₁.heap = h0 := by rw [← hh, Bd.state]; rfl
  have N0 := Fr.nil n0
  refine Goes.enter (ef_4_32 m ) ?_
  clear hK hml0 hh
  refine g_iloadN 1 rfl C X0 d4_0 rfl ?_
  refine g_newP 3 rfl C X0 32 (by decide) 32 (by decide) (by decide) rfl (hw _ (List.mem_of_getElem? (i := 22) rfl)) e0 d4_1 (by decide) (by decide) fun T1 h2 o3 g4 X5 e6 E7 B8 => ?_
  have gn9 : n0 ≤ o3 := by rw [g4]; exact Z0
  have sz10 : h0.size ≤ o3 := by rw [g4]; exact (Keep.refl h0 []).1
  have Zs11 := Nat.le_trans Z0 E7.1
  have Kp12 : Keep h0 h2 [] := (Keep.refl h0 []).ext E7
  refine g_astoreN 4 rfl C X5 #[.val (.int (32 : Int32)), .val (.ref o3)] d4_3 rfl rfl ?_
  refine g_aloadN 5 rfl C X5 d4_4 rfl rfl ?_
  refine g_iconst 6 rfl C X5 (-1 : Int32) d4_5 rfl ?_
  refine g_callS 9 rfl C X5 (argsL := [(.ref o3), (.int (-1 : Int32))]) (hw _ (List.mem_of_getElem? (i := 23) rfl)) (hw _ (List.mem_of_getElem? (i := 24) rfl)) (hw _ (List.mem_of_getElem? (i := 26) rfl)) (hw _ (List.mem_of_getElem? (i := 25) rfl)) e6 (rm5 l Z a0 hw [] o3 (-1 : Int32) (fun _ => 0) 32 h2 n0 Zs11 B8 (by decide) gn9) (lenOf pd_36457671 rfl) (by decide) (by decide) (by decide) (by decide) rfl (W := 0) (Nat.le_of_eq rfl) (by decide) d4_6 rfl fun r13 T14 Lc15 X16 hQ17 => ?_
  obtain ⟨rfl, Nq18, Kc19, F20⟩ := hQ17
  have Zs21 := Nat.le_trans Zs11 Kc19.1
  have Kp22 : Keep h0 T14.heap [] := Keep.trans Kp12 Kc19 (allS (Or.inr sz10) all0)
  have N23 := Fr.app N0 Nq18
  show Goes _ _ _ _ _ _ 9 _ []
  refine g_aloadN 10 rfl C X16 d4_9 rfl rfl ?_
  exact g_retA C X16 rfl rfl rfl rfl d4_10 rfl (by decide) (by decide) ⟨o3, rfl, N23, Kp22, sz10, F20⟩
theorem d3_0 : decode prog_18_method_1_code 0 = .ok (.aload_n 0, 1) := by decide +kernel
theorem d3_1 : decode prog_18_method_1_code 1 = .ok (.invokespecial 3, 3) := by decide +kernel
theorem d3_4 : decode prog_18_method_1_code 4 = .ok (.aload_n 0, 1) := by decide +kernel
theorem d3_5 : decode prog_18_method_1_code 5 = .ok (.bipush 16, 2) := by decide +kernel
theorem d3_7 : decode prog_18_method_1_code 7 = .ok (.newarray .long, 2) := by decide +kernel
theorem d3_9 : decode prog_18_method_1_code 9 = .ok (.putfield 9, 3) := by decide +kernel
theorem d3_12 : decode prog_18_method_1_code 12 = .ok (.aload_n 0, 1) := by decide +kernel
theorem d3_13 : decode prog_18_method_1_code 13 = .ok (.bipush 32, 2) := by decide +kernel
theorem d3_15 : decode prog_18_method_1_code 15 = .ok (.invokestatic 15, 3) := by decide +kernel
theorem pd_1250635 : parseMethodDescriptor "(I)[I" = some ⟨[.int], some (.array .int)⟩ := by decide +kernel
theorem d3_18 : decode prog_18_method_1_code 18 = .ok (.putfield 19, 3) := by decide +kernel
theorem d3_21 : decode prog_18_method_1_code 21 = .ok (.return_, 1) := by decide +kernel
theorem pn_69499436 : plainName "com/example/bisimulation/bisimulation/ccs/StateTable$Numbering" = true := by first | (simp [plainName, overriddenIn]; done) | decide +kernel
theorem ef_3 (m : MethodId) (b0 : Addr) : entryFrame m #[(.ref b0)] 1 = mkF m 0 #[.val (.ref b0)] [] := by first | (simp [entryFrame, mkF, argsToLocals, Value.category]; done) | rfl
def Q3 (Z : State) (b0 : Addr) (h0 : Heap) (n0 : Nat) (v : Option Value) (h : Heap) (L : List Loc) : Prop := v = none ∧ Fr n0 L ∧ Keep h0 h [b0]
set_option maxRecDepth 65536 in
set_option maxHeartbeats 40000000 in
theorem rm3 (l : Launch) (Z : State) (a0 : Array Value) (hw : ∀ d ∈ tables_1, d.before a0 Z = true) (ws : List Jvm.Cond) (b0 : Addr) (h0 : Heap) (n0 : Nat) (Z0 : n0 ≤ h0.size) (E_b0 : Exa Z h0 b0 "com/example/bisimulation/bisimulation/ccs/StateTable$Numbering") (F_b0_keys : Fld Z h0 b0 "com/example/bisimulation/bisimulation/ccs/StateTable$Numbering" "keys" "[J" .null) (F_b0_slots : Fld Z h0 b0 "com/example/bisimulation/bisimulation/ccs/StateTable$Numbering" "slots" "[I" .null) (g_b0 : n0 ≤ b0) :
    MetFree l (⟨"com/example/bisimulation/bisimulation/ccs/StateTable$Numbering", "<init>", "()V"⟩ : MethodName) (head1 (Jvm.Cond.code (⟨"com/example/bisimulation/bisimulation/ccs/StateTable$Numbering", "<init>", "()V"⟩ : MethodName) prog_18_method_1_code 1 none :: ws) ({ frames := 2, cells := 2, slots := 48, locals := 29 } : Room)) (fun a U => a = #[(.ref b0)] ∧ Z.Warmed39 U.vm ∧ U.heap = h0) (fun _ _ _ _ _ => True) (fun _ U o U' => ∃ v L, o = .returned v ∧ Q3 Z b0 h0 n0 v U'.heap L ∧ FrameEnd U o U' L ({ frames := 2, cells := 2, slots := 48, locals := 29 } : Room).cells ({ frames := 2, cells := 2, slots := 48, locals := 29 } : Room).slots) := by
  refine MetFree.of_bodySF (plainFor_of_name pn_69499436) hisR ?_
  intro p e s m args below meth c s₁ Bd hml0 hP hK
  obtain ⟨rfl, hZ, hh⟩ := hP
  have C : Ctx p s m meth c Z "com/example/bisimulation/bisimulation/ccs/StateTable$Numbering" "<init>" prog_18_method_1_code 1 none := Ctx.of Bd hml0 hZ
  have X0 : Stand p l e ({ frames := 2, cells := 2, slots := 48, locals := 29 } : Room) s m #[(.ref b0)] below meth c s₁ [] 0 0 := Stand.of_body Bd
  have e0 : s₁.heap = h0 := by rw [← hh, Bd.state]; rfl
  have N0 := Fr.nil n0
  refine Goes.enter (ef_3 m b0) ?_
  clear hK hml0 hh
  refine g_aloadN 1 rfl C X0 d3_0 rfl rfl ?_
  refine g_initO 4 rfl C X0 (hw _ (List.mem_of_getElem? (i := 15) rfl)) (hw _ (List.mem_of_getElem? (i := 7) rfl)) (hw _ (List.mem_of_getElem? (i := 8) rfl)) e0 d3_1 rfl (by decide) (W := 0) (Nat.le_of_eq rfl) (by decide) fun T1 X2 e3 => ?_
  refine g_aloadN 5 rfl C X2 d3_4 rfl rfl ?_
  refine g_bipush 7 rfl C X2 (16 : Int32) d3_5 rfl ?_
  refine g_newL 9 rfl C X2 16 (by decide) 16 (by decide) (by decide) (hw _ (List.mem_of_getElem? (i := 16) rfl)) e3 d3_7 (by decide) (by decide) fun T4 h5 o6 g7 X8 e9 E10 => ?_
  have ne12 : b0 ≠ o6 := by rw [g7]; exact Nat.ne_of_lt E_b0.lt
  have gn13 : n0 ≤ o6 := by rw [g7]; exact Z0
  have sz14 : h0.size ≤ o6 := by rw [g7]; exact (Keep.refl h0 [b0]).1
  have F15 := E_b0.ext E10
  have F16 := F_b0_keys.ext E10
  have F17 := F_b0_slots.ext E10
  have Zs18 := Nat.le_trans Z0 E10.1
  have Kp19 : Keep h0 h5 [b0] := (Keep.refl h0 [b0]).ext E10
  refine g_putF 12 rfl C X8 (host := "") (Or.inl (hw _ (List.mem_of_getElem? (i := 17) rfl))) Via.refl e9 F16 F15 (Or.inl (hw _ (List.mem_of_getElem? (i := 18) rfl))) (hw _ (List.mem_of_getElem? (i := 10) rfl)) (ty := (.array .long)) (by decide) rfl rfl d3_9 N0 g_b0 fun T20 h21 ls22 X23 e24 W25 N26 => ?_
  have F27 : Fld Z h21 b0 "com/example/bisimulation/bisimulation/ccs/StateTable$Numbering" "keys" "[J" (.ref o6) := F16.same W25
  have F28 := F15.wr W25
  have F29 := F17.other W25 (Or.inr (slot_ne (Or.inl (hw _ (List.mem_of_getElem? (i := 28) rfl))) (Or.inl (hw _ (List.mem_of_getElem? (i := 18) rfl))) (by decide) (t := (.array .int)) (t' := (.array .long)) (by decide) (by decide)))
  have Zs30 := Nat.le_trans Zs18 (Nat.le_of_eq W25.size.symm)
  have Kp31 : Keep h0 h21 [b0] := Kp19.wr W25 (Or.inl (List.mem_of_getElem? (i := 0) rfl))
  refine g_aloadN 13 rfl C X23 d3_12 rfl rfl ?_
  refine g_bipush 15 rfl C X23 (32 : Int32) d3_13 rfl ?_
  refine g_callSN 18 rfl C X23 (argsL := [(.int (32 : Int32))]) (hw _ (List.mem_of_getElem? (i := 19) rfl)) (hw _ (List.mem_of_getElem? (i := 20) rfl)) (hw _ (List.mem_of_getElem? (i := 21) rfl)) (hw _ (List.mem_of_getElem? (i := 2) rfl)) e24 (rm4_32 l Z a0 hw []  h21 n0 Zs30) (lenOf pd_1250635 rfl) (by decide) (by decide) (by decide) (by decide) rfl (W := 1) (Nat.le_of_eq rfl) (by decide) d3_15 rfl fun r32 T33 Lc34 X35 hQ36 => ?_
  obtain ⟨o37, rfl, Nq38, Kc39, sz40, B41⟩ := hQ36
  have lf42 : b0 < o37 := Nat.lt_of_lt_of_le F28.lt sz40
  have ne43 : b0 ≠ o37 := Nat.ne_of_lt (Nat.lt_of_lt_of_le F28.lt sz40)
  have gn44 : n0 ≤ o37 := Nat.le_trans Zs30 sz40
  have sz45 : h0.size ≤ o37 := Nat.le_trans Kp31.1 sz40
  have F46 := F28.keep Kc39
  have F47 := F27.keep Kc39 nin0
  have F48 := F29.keep Kc39 nin0
  have Zs49 := Nat.le_trans Zs30 Kc39.1
  have Kp50 : Keep h0 T33.heap [b0] := Keep.trans Kp31 Kc39 all0
  have N51 := Fr.app N26 Nq38
  show Goes _ _ _ _ _ _ 18 _ [(.ref o37), (.ref b0)]
  refine g_putF 21 rfl C X35 (host := "") (Or.inl (hw _ (List.mem_of_getElem? (i := 27) rfl))) Via.refl rfl F48 F46 (Or.inl (hw _ (List.mem_of_getElem? (i := 28) rfl))) (hw _ (List.mem_of_getElem? (i := 10) rfl)) (ty := (.array .int)) (by decide) rfl rfl d3_18 N51 g_b0 fun T52 h53 ls54 X55 e56 W57 N58 => ?_
  have F59 : Fld Z h53 b0 "com/example/bisimulation/bisimulation/ccs/StateTable$Numbering" "slots" "[I" (.ref o37) := F48.same W57
  have F60 := F46.wr W57
  have F61 := F47.other W57 (Or.inr (slot_ne (Or.inl (hw _ (List.mem_of_getElem? (i := 18) rfl))) (Or.inl (hw _ (List.mem_of_getElem? (i := 28) rfl))) (by decide) (t := (.array .long)) (t' := (.array .int)) (by decide) (by decide)))
  have F62 := B41.other W57 (Ne.symm ne43)
  have Zs63 := Nat.le_trans Zs49 (Nat.le_of_eq W57.size.symm)
  have Kp64 : Keep h0 h53 [b0] := Kp50.wr W57 (Or.inl (List.mem_of_getElem? (i := 0) rfl))
  exact g_retV C X55 rfl d3_21 e56 (by decide) (by decide) ⟨rfl, N58, Kp64⟩
theorem d1_0 : decode prog_17_method_1_code 0 = .ok (.aload_n 0, 1) := by decide +kernel
theorem d1_1 : decode prog_17_method_1_code 1 = .ok (.invokespecial 3, 3) := by decide +kernel
theorem d1_4 : decode prog_17_method_1_code 4 = .ok (.aload_n 0, 1) := by decide +kernel
theorem d1_5 : decode prog_17_method_1_code 5 = .ok (.new 9, 3) := by decide +kernel
theorem d1_8 : decode prog_17_method_1_code 8 = .ok (.dup, 1) := by decide +kernel
theorem d1_9 : decode prog_17_method_1_code 9 = .ok (.invokespecial 11, 3) := by decide +kernel
theorem pd_16428534 : parseMethodDescriptor "()V" = some ⟨[], none⟩ := by decide +kernel
theorem d1_12 : decode prog_17_method_1_code 12 = .ok (.putfield 12, 3) := by decide +kernel
theorem d1_15 : decode prog_17_method_1_code 15 = .ok (.aload_n 0, 1) := by decide +kernel
theorem d1_16 : decode prog_17_method_1_code 16 = .ok (.bipush 16, 2) := by decide +kernel
theorem d1_18 : decode prog_17_method_1_code 18 = .ok (.newarray .int, 2) := by decide +kernel
theorem d1_20 : decode prog_17_method_1_code 20 = .ok (.putfield 18, 3) := by decide +kernel
theorem d1_23 : decode prog_17_method_1_code 23 = .ok (.aload_n 0, 1) := by decide +kernel
theorem d1_24 : decode prog_17_method_1_code 24 = .ok (.bipush 16, 2) := by decide +kernel
theorem d1_26 : decode prog_17_method_1_code 26 = .ok (.invokestatic 22, 3) := by decide +kernel
theorem d1_29 : decode prog_17_method_1_code 29 = .ok (.putfield 26, 3) := by decide +kernel
theorem d1_32 : decode prog_17_method_1_code 32 = .ok (.aload_n 0, 1) := by decide +kernel
theorem d1_33 : decode prog_17_method_1_code 33 = .ok (.iload_n 1, 1) := by decide +kernel
theorem d1_34 : decode prog_17_method_1_code 34 = .ok (.putfield 29, 3) := by decide +kernel
theorem d1_37 : decode prog_17_method_1_code 37 = .ok (.return_, 1) := by decide +kernel
theorem ef_1 (m : MethodId) (b0 : Addr) (p1 : Int32) : entryFrame m #[(.ref b0), (.int p1)] 2 = mkF m 0 #[.val (.ref b0), .val (.int p1)] [] := by first | (simp [entryFrame, mkF, argsToLocals, Value.category]; done) | rfl
def Q1 (Z : State) (b0 : Addr) (p1 : Int32) (h0 : Heap) (n0 : Nat) (v : Option Value) (h : Heap) (L : List Loc) : Prop := ∃ k t, v = none ∧ Fr n0 L ∧ Keep h0 h [b0] ∧ Exa Z h b0 "com/example/bisimulation/bisimulation/ccs/StateTable" ∧ Fld Z h b0 "com/example/bisimulation/bisimulation/ccs/StateTable" "size" "I" (.int (0 : Int32)) ∧ Fld Z h b0 "com/example/bisimulation/bisimulation/ccs/StateTable" "keys" "[I" (.ref k) ∧ Fld Z h b0 "com/example/bisimulation/bisimulation/ccs/StateTable" "stateOfKey" "[I" (.ref t) ∧ Ba Z h k .int 16 (fun _ => 0) ∧ Ba Z h t .int 16 (fun _ => (-1 : Int32)) ∧ h0.size ≤ k ∧ k < t
set_option maxRecDepth 65536 in
set_option maxHeartbeats 40000000 in
theorem rm1 (l : Launch) (Z : State) (a0 : Array Value) (hw : ∀ d ∈ tables_1, d.before a0 Z = true) (ws : List Jvm.Cond) (b0 : Addr) (p1 : Int32) (h0 : Heap) (n0 : Nat) (Z0 : n0 ≤ h0.size) (E_b0 : Exa Z h0 b0 "com/example/bisimulation/bisimulation/ccs/StateTable") (F_b0_nodes : Fld Z h0 b0 "com/example/bisimulation/bisimulation/ccs/StateTable" "nodes" "Lcom/example/bisimulation/bisimulation/ccs/StateTable$Numbering;" .null) (F_b0_keys : Fld Z h0 b0 "com/example/bisimulation/bisimulation/ccs/StateTable" "keys" "[I" .null) (F_b0_stateOfKey : Fld Z h0 b0 "com/example/bisimulation/bisimulation/ccs/StateTable" "stateOfKey" "[I" .null) (F_b0_width : Fld Z h0 b0 "com/example/bisimulation/bisimulation/ccs/StateTable" "width" "I" (.int (0 : Int32))) (F_b0_size : Fld Z h0 b0 "com/example/bisimulation/bisimulation/ccs/StateTable" "size" "I" (.int (0 : Int32))) (g_b0 : n0 ≤ b0) :
    MetFree l (⟨"com/example/bisimulation/bisimulation/ccs/StateTable", "<init>", "(I)V"⟩ : MethodName) (head1 (Jvm.Cond.code (⟨"com/example/bisimulation/bisimulation/ccs/StateTable", "<init>", "(I)V"⟩ : MethodName) prog_17_method_1_code 2 none :: ws) ({ frames := 3, cells := 5, slots := 83, locals := 43 } : Room)) (fun a U => a = #[(.ref b0), (.int p1)] ∧ Z.Warmed39 U.vm ∧ U.heap = h0) (fun _ _ _ _ _ => True) (fun _ U o U' => ∃ v L, o = .returned v ∧ Q1 Z b0 p1 h0 n0 v U'.heap L ∧ FrameEnd U o U' L ({ frames := 3, cells := 5, slots := 83, locals := 43 } : Room).cells ({ frames := 3, cells := 5, slots := 83, locals := 43 } : Room).slots) := by
  refine MetFree.of_bodySF (plainFor_of_name pn_31168043) hisR ?_
  intro p e s m args below meth c s₁ Bd hml0 hP hK
  obtain ⟨rfl, hZ, hh⟩ := hP
  have C : Ctx p s m meth c Z "com/example/bisimulation/bisimulation/ccs/StateTable" "<init>" prog_17_method_1_code 2 none := Ctx.of Bd hml0 hZ
  have X0 : Stand p l e ({ frames := 3, cells := 5, slots := 83, locals := 43 } : Room) s m #[(.ref b0), (.int p1)] below meth c s₁ [] 0 0 := Stand.of_body Bd
  have e0 : s₁.heap = h0 := by rw [← hh, Bd.state]; rfl
  have N0 := Fr.nil n0
  refine Goes.enter (ef_1 m b0 p1) ?_
  clear hK hml0 hh
  refine g_aloadN 1 rfl C X0 d1_0 rfl rfl ?_
  refine g_initO 4 rfl C X0 (hw _ (List.mem_of_getElem? (i := 6) rfl)) (hw _ (List.mem_of_getElem? (i := 7) rfl)) (hw _ (List.mem_of_getElem? (i := 8) rfl)) e0 d1_1 rfl (by decide) (W := 0) (Nat.le_of_eq rfl) (by decide) fun T1 X2 e3 => ?_
  refine g_aloadN 5 rfl C X2 d1_4 rfl rfl ?_
  refine g_new 8 rfl C X2 (hw _ (List.mem_of_getElem? (i := 9) rfl)) (hw _ (List.mem_of_getElem? (i := 10) rfl)) (hw _ (List.mem_of_getElem? (i := 11) rfl)) e3 d1_5 (by decide) (by decide) fun T4 h5 o6 g7 X8 e9 E10 A11 D12 => ?_
  have ne13 : b0 ≠ o6 := by rw [g7]; exact Nat.ne_of_lt E_b0.lt
  have gn14 : n0 ≤ o6 := by rw [g7]; exact Z0
  have sz15 : h0.size ≤ o6 := by rw [g7]; exact (Keep.refl h0 [b0]).1
  have F16 := E_b0.ext E10
  have F17 := F_b0_nodes.ext E10
  have F18 := F_b0_keys.ext E10
  have F19 := F_b0_stateOfKey.ext E10
  have F20 := F_b0_width.ext E10
  have F21 := F_b0_size.ext E10
  have Zs22 := Nat.le_trans Z0 E10.1
  have Kp23 : Keep h0 h5 [b0] := (Keep.refl h0 [b0]).ext E10
  have F24 : Fld Z h5 o6 "com/example/bisimulation/bisimulation/ccs/StateTable$Numbering" "keys" "[J" .null := D12 (Or.inl (hw _ (List.mem_of_getElem? (i := 18) rfl))) (ty := (.array .long)) (by decide)
  have F25 : Fld Z h5 o6 "com/example/bisimulation/bisimulation/ccs/StateTable$Numbering" "slots" "[I" .null := D12 (Or.inl (hw _ (List.mem_of_getElem? (i := 28) rfl))) (ty := (.array .int)) (by decide)
  refine g_dup 9 rfl C X8 d1_8 rfl ?_
  refine g_callNR 12 rfl C X8 (argsL := []) rfl rfl (hw _ (List.mem_of_getElem? (i := 12) rfl)) (hw _ (List.mem_of_getElem? (i := 13) rfl)) (hw _ (List.mem_of_getElem? (i := 14) rfl)) (hw _ (List.mem_of_getElem? (i := 11) rfl)) e9 (rm3 l Z a0 hw [] o6 h5 n0 Zs22 A11 F24 F25 gn14) (lenOf pd_16428534 rfl) (by decide) (by decide) (by decide) (by decide) rfl (W := 2) (Nat.le_of_eq rfl) (by decide) d1_9 rfl fun r26 T27 Lc28 X29 hQ30 => ?_
  obtain ⟨rfl, Nq31, Kc32⟩ := hQ30
  have F33 := F16.keep Kc32
  have F34 := F17.keep Kc32 (ninS ne13 nin0)
  have F35 := F18.keep Kc32 (ninS ne13 nin0)
  have F36 := F19.keep Kc32 (ninS ne13 nin0)
  have F37 := F20.keep Kc32 (ninS ne13 nin0)
  have F38 := F21.keep Kc32 (ninS ne13 nin0)
  have F39 := A11.keep Kc32
  have Zs40 := Nat.le_trans Zs22 Kc32.1
  have Kp41 : Keep h0 T27.heap [b0] := Keep.trans Kp23 Kc32 (allS (Or.inr sz15) all0)
  have N42 := Fr.app N0 Nq31
  show Goes _ _ _ _ _ _ 12 _ [(.ref o6), (.ref b0)]
  refine g_putF 15 rfl C X29 (host := "") (Or.inl (hw _ (List.mem_of_getElem? (i := 29) rfl))) Via.refl rfl F34 F33 (Or.inr ⟨(hw _ (List.mem_of_getElem? (i := 30) rfl)), rfl, rfl⟩) (hw _ (List.mem_of_getElem? (i := 1) rfl)) (ty := (.object "com/example/bisimulation/bisimulation/ccs/StateTable$Numbering")) (by decide) rfl rfl d1_12 N42 g_b0 fun T43 h44 ls45 X46 e47 W48 N49 => ?_
  have F50 : Fld Z h44 b0 "com/example/bisimulation/bisimulation/ccs/StateTable" "nodes" "Lcom/example/bisimulation/bisimulation/ccs/StateTable$Numbering;" (.ref o6) := F34.same W48
  have F51 := F33.wr W48
  have F52 := F35.other W48 (Or.inr (slot_ne (Or.inl (hw _ (List.mem_of_getElem? (i := 32) rfl))) (Or.inr (hw _ (List.mem_of_getElem? (i := 30) rfl))) (by decide) (t := (.array .int)) (t' := (.object "com/example/bisimulation/bisimulation/ccs/StateTable$Numbering")) (by decide) (by decide)))
  have F53 := F36.other W48 (Or.inr (slot_ne (Or.inl (hw _ (List.mem_of_getElem? (i := 35) rfl))) (Or.inr (hw _ (List.mem_of_getElem? (i := 30) rfl))) (by decide) (t := (.array .int)) (t' := (.object "com/example/bisimulation/bisimulation/ccs/StateTable$Numbering")) (by decide) (by decide)))
  have F54 := F37.other W48 (Or.inr (slot_ne (Or.inr (hw _ (List.mem_of_getElem? (i := 37) rfl))) (Or.inr (hw _ (List.mem_of_getElem? (i := 30) rfl))) (by decide) (t := .int) (t' := (.object "com/example/bisimulation/bisimulation/ccs/StateTable$Numbering")) (by decide) (by decide)))
  have F55 := F38.other W48 (Or.inr (slot_ne (Or.inl (hw _ (List.mem_of_getElem? (i := 44) rfl))) (Or.inr (hw _ (List.mem_of_getElem? (i := 30) rfl))) (by decide) (t := .int) (t' := (.object "com/example/bisimulation/bisimulation/ccs/StateTable$Numbering")) (by decide) (by decide)))
  have F56 := F39.wr W48
  have Zs57 := Nat.le_trans Zs40 (Nat.le_of_eq W48.size.symm)
  have Kp58 : Keep h0 h44 [b0] := Kp41.wr W48 (Or.inl (List.mem_of_getElem? (i := 0) rfl))
  refine g_aloadN 16 rfl C X46 d1_15 rfl rfl ?_
  refine g_bipush 18 rfl C X46 (16 : Int32) d1_16 rfl ?_
  refine g_newP 20 rfl C X46 16 (by decide) 16 (by decide) (by decide) rfl (hw _ (List.mem_of_getElem? (i := 22) rfl)) e47 d1_18 (by decide) (by decide) fun T59 h60 o61 g62 X63 e64 E65 B66 => ?_
  have ne67 : b0 ≠ o61 := by rw [g62]; exact Nat.ne_of_lt F51.lt
  have ne68 : o6 ≠ o61 := by rw [g62]; exact Nat.ne_of_lt F56.lt
  have gn69 : n0 ≤ o61 := by rw [g62]; exact Zs57
  have sz70 : h0.size ≤ o61 := by rw [g62]; exact Kp58.1
  have F71 := F51.ext E65
  have F72 := F50.ext E65
  have F73 := F52.ext E65
  have F74 := F53.ext E65
  have F75 := F54.ext E65
  have F76 := F55.ext E65
  have F77 := F56.ext E65
  have Zs78 := Nat.le_trans Zs57 E65.1
  have Kp79 : Keep h0 h60 [b0] := Kp58.ext E65
  refine g_putF 23 rfl C X63 (host := "") (Or.inl (hw _ (List.mem_of_getElem? (i := 31) rfl))) Via.refl e64 F73 F71 (Or.inl (hw _ (List.mem_of_getElem? (i := 32) rfl))) (hw _ (List.mem_of_getElem? (i := 1) rfl)) (ty := (.array .int)) (by decide) rfl rfl d1_20 N49 g_b0 fun T80 h81 ls82 X83 e84 W85 N86 => ?_
  have F87 : Fld Z h81 b0 "com/example/bisimulation/bisimulation/ccs/StateTable" "keys" "[I" (.ref o61) := F73.same W85
  have F88 := F71.wr W85
  have F89 := F72.other W85 (Or.inr (slot_ne (Or.inr (hw _ (List.mem_of_getElem? (i := 30) rfl))) (Or.inl (hw _ (List.mem_of_getElem? (i := 32) rfl))) (by decide) (t := (.object "com/example/bisimulation/bisimulation/ccs/StateTable$Numbering")) (t' := (.array .int)) (by decide) (by decide)))
  have F90 := F74.other W85 (Or.inr (slot_ne (Or.inl (hw _ (List.mem_of_getElem? (i := 35) rfl))) (Or.inl (hw _ (List.mem_of_getElem? (i := 32) rfl))) (by decide) (t := (.array .int)) (t' := (.array .int)) (by decide) (by decide)))
  have F91 := F75.other W85 (Or.inr (slot_ne (Or.inr (hw _ (List.mem_of_getElem? (i := 37) rfl))) (Or.inl (hw _ (List.mem_of_getElem? (i := 32) rfl))) (by decide) (t := .int) (t' := (.array .int)) (by decide) (by decide)))
  have F92 := F76.other W85 (Or.inr (slot_ne (Or.inl (hw _ (List.mem_of_getElem? (i := 44) rfl))) (Or.inl (hw _ (List.mem_of_getElem? (i := 32) rfl))) (by decide) (t := .int) (t' := (.array .int)) (by decide) (by decide)))
  have F93 := F77.wr W85
  have F94 := B66.other W85 (Ne.symm ne67)
  have Zs95 := Nat.le_trans Zs78 (Nat.le_of_eq W85.size.symm)
  have Kp96 : Keep h0 h81 [b0] := Kp79.wr W85 (Or.inl (List.mem_of_getElem? (i := 0) rfl))
  refine g_aloadN 24 rfl C X83 d1_23 rfl rfl ?_
  refine g_bipush 26 rfl C X83 (16 : Int32) d1_24 rfl ?_
  refine g_callS 29 rfl C X83 (argsL := [(.int (16 : Int32))]) (hw _ (List.mem_of_getElem? (i := 33) rfl)) (hw _ (List.mem_of_getElem? (i := 20) rfl)) (hw _ (List.mem_of_getElem? (i := 21) rfl)) (hw _ (List.mem_of_getElem? (i := 2) rfl)) e84 (rm4_16 l Z a0 hw []  h81 n0 Zs95) (lenOf pd_1250635 rfl) (by decide) (by decide) (by decide) (by decide) rfl (W := 1) (Nat.le_of_eq rfl) (by decide) d1_26 rfl fun r97 T98 Lc99 X100 hQ101 => ?_
  obtain ⟨o102, rfl, Nq103, Kc104, sz105, B106⟩ := hQ101
  have lf107 : b0 < o102 := Nat.lt_of_lt_of_le F88.lt sz105
  have lf108 : o6 < o102 := Nat.lt_of_lt_of_le F93.lt sz105
  have lf109 : o61 < o102 := Nat.lt_of_lt_of_le F94.lt sz105
  have ne110 : b0 ≠ o102 := Nat.ne_of_lt (Nat.lt_of_lt_of_le F88.lt sz105)
  have ne111 : o6 ≠ o102 := Nat.ne_of_lt (Nat.lt_of_lt_of_le F93.lt sz105)
  have ne112 : o61 ≠ o102 := Nat.ne_of_lt (Nat.lt_of_lt_of_le F94.lt sz105)
  have gn113 : n0 ≤ o102 := Nat.le_trans Zs95 sz105
  have sz114 : h0.size ≤ o102 := Nat.le_trans Kp96.1 sz105
  have F115 := F88.keep Kc104
  have F116 := F89.keep Kc104 nin0
  have F117 := F87.keep Kc104 nin0
  have F118 := F90.keep Kc104 nin0
  have F119 := F91.keep Kc104 nin0
  have F120 := F92.keep Kc104 nin0
  have F121 := F93.keep Kc104
  have F122 := F94.keep Kc104 nin0
  have Zs123 := Nat.le_trans Zs95 Kc104.1
  have Kp124 : Keep h0 T98.heap [b0] := Keep.trans Kp96 Kc104 all0
  have N125 := Fr.app N86 Nq103
  show Goes _ _ _ _ _ _ 29 _ [(.ref o102), (.ref b0)]
  refine g_putF 32 rfl C X100 (host := "") (Or.inl (hw _ (List.mem_of_getElem? (i := 34) rfl))) Via.refl rfl F118 F115 (Or.inl (hw _ (List.mem_of_getElem? (i := 35) rfl))) (hw _ (List.mem_of_getElem? (i := 1) rfl)) (ty := (.array .int)) (by decide) rfl rfl d1_29 N125 g_b0 fun T126 h127 ls128 X129 e130 W131 N132 => ?_
  have F133 : Fld Z h127 b0 "com/example/bisimulation/bisimulation/ccs/StateTable" "stateOfKey" "[I" (.ref o102) := F118.same W131
  have F134 := F115.wr W131
  have F135 := F116.other W131 (Or.inr (slot_ne (Or.inr (hw _ (List.mem_of_getElem? (i := 30) rfl))) (Or.inl (hw _ (List.mem_of_getElem? (i := 35) rfl))) (by decide) (t := (.object "com/example/bisimulation/bisimulation/ccs/StateTable$Numbering")) (t' := (.array .int)) (by decide) (by decide)))
  have F136 := F117.other W131 (Or.inr (slot_ne (Or.inl (hw _ (List.mem_of_getElem? (i := 32) rfl))) (Or.inl (hw _ (List.mem_of_getElem? (i := 35) rfl))) (by decide) (t := (.array .int)) (t' := (.array .int)) (by decide) (by decide)))
  have F137 := F119.other W131 (Or.inr (slot_ne (Or.inr (hw _ (List.mem_of_getElem? (i := 37) rfl))) (Or.inl (hw _ (List.mem_of_getElem? (i := 35) rfl))) (by decide) (t := .int) (t' := (.array .int)) (by decide) (by decide)))
  have F138 := F120.other W131 (Or.inr (slot_ne (Or.inl (hw _ (List.mem_of_getElem? (i := 44) rfl))) (Or.inl (hw _ (List.mem_of_getElem? (i := 35) rfl))) (by decide) (t := .int) (t' := (.array .int)) (by decide) (by decide)))
  have F139 := F121.wr W131
  have F140 := F122.other W131 (Ne.symm ne67)
  have F141 := B106.other W131 (Ne.symm ne110)
  have Zs142 := Nat.le_trans Zs123 (Nat.le_of_eq W131.size.symm)
  have Kp143 : Keep h0 h127 [b0] := Kp124.wr W131 (Or.inl (List.mem_of_getElem? (i := 0) rfl))
  refine g_aloadN 33 rfl C X129 d1_32 rfl rfl ?_
  refine g_iloadN 34 rfl C X129 d1_33 rfl ?_
  refine g_putF 37 rfl C X129 (host := "") (Or.inl (hw _ (List.mem_of_getElem? (i := 36) rfl))) Via.refl e130 F137 F134 (Or.inr ⟨(hw _ (List.mem_of_getElem? (i := 37) rfl)), rfl, rfl⟩) (hw _ (List.mem_of_getElem? (i := 1) rfl)) (ty := .int) (by decide) rfl rfl d1_34 N132 g_b0 fun T144 h145 ls146 X147 e148 W149 N150 => ?_
  have F151 : Fld Z h145 b0 "com/example/bisimulation/bisimulation/ccs/StateTable" "width" "I" (.int p1) := F137.same W149
  have F152 := F134.wr W149
  have F153 := F135.other W149 (Or.inr (slot_ne (Or.inr (hw _ (List.mem_of_getElem? (i := 30) rfl))) (Or.inr (hw _ (List.mem_of_getElem? (i := 37) rfl))) (by decide) (t := (.object "com/example/bisimulation/bisimulation/ccs/StateTable$Numbering")) (t' := .int) (by decide) (by decide)))
  have F154 := F136.other W149 (Or.inr (slot_ne (Or.inl (hw _ (List.mem_of_getElem? (i := 32) rfl))) (Or.inr (hw _ (List.mem_of_getElem? (i := 37) rfl))) (by decide) (t := (.array .int)) (t' := .int) (by decide) (by decide)))
  have F155 := F133.other W149 (Or.inr (slot_ne (Or.inl (hw _ (List.mem_of_getElem? (i := 35) rfl))) (Or.inr (hw _ (List.mem_of_getElem? (i := 37) rfl))) (by decide) (t := (.array .int)) (t' := .int) (by decide) (by decide)))
  have F156 := F138.other W149 (Or.inr (slot_ne (Or.inl (hw _ (List.mem_of_getElem? (i := 44) rfl))) (Or.inr (hw _ (List.mem_of_getElem? (i := 37) rfl))) (by decide) (t := .int) (t' := .int) (by decide) (by decide)))
  have F157 := F139.wr W149
  have F158 := F140.other W149 (Ne.symm ne67)
  have F159 := F141.other W149 (Ne.symm ne110)
  have Zs160 := Nat.le_trans Zs142 (Nat.le_of_eq W149.size.symm)
  have Kp161 : Keep h0 h145 [b0] := Kp143.wr W149 (Or.inl (List.mem_of_getElem? (i := 0) rfl))
  exact g_retV C X147 rfl d1_37 e148 (by decide) (by decide) ⟨o61, o102, rfl, N150, Kp161, F152, F156, F154, F155, F158, F159, sz70, lf109⟩
theorem d15_0 : decode jdk_65_method_30_code 0 = .ok (.iload_n 1, 1) := by decide +kernel
theorem d15_1 : decode jdk_65_method_30_code 1 = .ok (.iload_n 2, 1) := by decide +kernel
theorem d15_2 : decode jdk_65_method_30_code 2 = .ok (.if_icmp .le 44, 3) := by decide +kernel
theorem d15_46 : decode jdk_65_method_30_code 46 = .ok (.iload_n 1, 1) := by decide +kernel
theorem d15_47 : decode jdk_65_method_30_code 47 = .ok (.ifCond .ge 12, 3) := by decide +kernel
theorem d15_59 : decode jdk_65_method_30_code 59 = .ok (.iload_n 2, 1) := by decide +kernel
theorem d15_60 : decode jdk_65_method_30_code 60 = .ok (.iload_n 0, 1) := by decide +kernel
theorem d15_61 : decode jdk_65_method_30_code 61 = .ok (.if_icmp .le 12, 3) := by decide +kernel
theorem d15_73 : decode jdk_65_method_30_code 73 = .ok (.return_, 1) := by decide +kernel
theorem ef_15 (m : MethodId) (p0 : Int32) (p1 : Int32) (p2 : Int32) : entryFrame m #[(.int p0), (.int p1), (.int p2)] 3 = mkF m 0 #[.val (.int p0), .val (.int p1), .val (.int p2)] [] := by first | (simp [entryFrame, mkF, argsToLocals, Value.category]; done) | rfl
def Q15 (Z : State) (p0 : Int32) (p1 : Int32) (p2 : Int32) (h0 : Heap) (n0 : Nat) (v : Option Value) (h : Heap) (L : List Loc) : Prop := v = none ∧ Fr n0 L ∧ h = h0
set_option maxRecDepth 65536 in
set_option maxHeartbeats 40000000 in
theorem rm15 (l : Launch) (Z : State) (a0 : Array Value) (hw : ∀ d ∈ tables_1, d.before a0 Z = true) (ws : List Jvm.Cond) (p0 : Int32) (p1 : Int32) (p2 : Int32) (h0 : Heap) (n0 : Nat) (Z0 : n0 ≤ h0.size) (hr : 0 ≤ p1.toInt ∧ p1.toInt ≤ p2.toInt ∧ p2.toInt ≤ p0.toInt) :
    MetFree l (⟨"java/util/Arrays", "rangeCheck", "(III)V"⟩ : MethodName) (head1 (Jvm.Cond.code (⟨"java/util/Arrays", "rangeCheck", "(III)V"⟩ : MethodName) jdk_65_method_30_code 3 none :: ws) ({ frames := 0, cells := 0, slots := 0, locals := 0 } : Room)) (fun a U => a = #[(.int p0), (.int p1), (.int p2)] ∧ Z.Warmed39 U.vm ∧ U.heap = h0) (fun _ _ _ _ _ => True) (fun _ U o U' => ∃ v L, o = .returned v ∧ Q15 Z p0 p1 p2 h0 n0 v U'.heap L ∧ FrameEnd U o U' L ({ frames := 0, cells := 0, slots := 0, locals := 0 } : Room).cells ({ frames := 0, cells := 0, slots := 0, locals := 0 } : Room).slots) := by
  refine MetFree.of_bodySF (plainFor_of_name pn_58157509) hisR ?_
  intro p e s m args below meth c s₁ Bd hml0 hP hK
  obtain ⟨rfl, hZ, hh⟩ := hP
  have C : Ctx p s m meth c Z "java/util/Arrays" "rangeCheck" jdk_65_method_30_code 3 none := Ctx.of Bd hml0 hZ
  have X0 : Stand p l e ({ frames := 0, cells := 0, slots := 0, locals := 0 } : Room) s m #[(.int p0), (.int p1), (.int p2)] below meth c s₁ [] 0 0 := Stand.of_body Bd
  have e0 : s₁.heap = h0 := by rw [← hh, Bd.state]; rfl
  have N0 := Fr.nil n0
  refine Goes.enter (ef_15 m p0 p1 p2) ?_
  clear hK hml0 hh
  refine g_iloadN 1 rfl C X0 d15_0 rfl ?_
  refine g_iloadN 2 rfl C X0 d15_1 rfl ?_
  have hq2 : ¬ (p2.toInt < p1.toInt) := by
    omega
  refine g_icmp_le_t 46 C X0 d15_2 (by decide) (by decide) hq2 ?_
  refine g_iloadN 47 rfl C X0 d15_46 rfl ?_
  have hq4 : ¬ (p1.toInt < 0) := by
    omega
  refine g_if_ge_t 59 C X0 d15_47 (by decide) (by decide) hq4 ?_
  refine g_iloadN 60 rfl C X0 d15_59 rfl ?_
  refine g_iloadN 61 rfl C X0 d15_60 rfl ?_
  have hq6 : ¬ (p0.toInt < p2.toInt) := by
    omega
  refine g_icmp_le_t 73 C X0 d15_61 (by decide) (by decide) hq6 ?_
  exact g_retV C X0 rfl d15_73 e0 (by decide) (by decide) ⟨rfl, N0, rfl⟩
theorem d14_0 : decode jdk_65_method_104_code 0 = .ok (.aload_n 0, 1) := by decide +kernel
theorem d14_1 : decode jdk_65_method_104_code 1 = .ok (.arraylength, 1) := by decide +kernel
theorem d14_2 : decode jdk_65_method_104_code 2 = .ok (.iload_n 1, 1) := by decide +kernel
theorem d14_3 : decode jdk_65_method_104_code 3 = .ok (.iload_n 2, 1) := by decide +kernel
theorem d14_4 : decode jdk_65_method_104_code 4 = .ok (.invokestatic 13, 3) := by decide +kernel
theorem pd_35459093 : parseMethodDescriptor "(III)V" = some ⟨[.int, .int, .int], none⟩ := by decide +kernel
theorem d14_7 : decode jdk_65_method_104_code 7 = .ok (.iload_n 1, 1) := by decide +kernel
theorem d14_8 : decode jdk_65_method_104_code 8 = .ok (.istore 4, 2) := by decide +kernel
theorem d14_10 : decode jdk_65_method_104_code 10 = .ok (.iload 4, 2) := by decide +kernel
theorem d14_12 : decode jdk_65_method_104_code 12 = .ok (.iload_n 2, 1) := by decide +kernel
theorem d14_13 : decode jdk_65_method_104_code 13 = .ok (.if_icmp .ge 14, 3) := by decide +kernel
theorem d14_27 : decode jdk_65_method_104_code 27 = .ok (.return_, 1) := by decide +kernel
theorem d14_16 : decode jdk_65_method_104_code 16 = .ok (.aload_n 0, 1) := by decide +kernel
theorem d14_17 : decode jdk_65_method_104_code 17 = .ok (.iload 4, 2) := by decide +kernel
theorem d14_19 : decode jdk_65_method_104_code 19 = .ok (.iload_n 3, 1) := by decide +kernel
theorem d14_20 : decode jdk_65_method_104_code 20 = .ok (.iastore, 1) := by decide +kernel
theorem d14_21 : decode jdk_65_method_104_code 21 = .ok (.iinc 4 1, 3) := by decide +kernel
theorem d14_24 : decode jdk_65_method_104_code 24 = .ok (.goto (-14), 3) := by decide +kernel
theorem ef_14 (m : MethodId) (b0 : Addr) (p1 : Int32) (p2 : Int32) (p3 : Int32) : entryFrame m #[(.ref b0), (.int p1), (.int p2), (.int p3)] 5 = mkF m 0 #[.val (.ref b0), .val (.int p1), .val (.int p2), .val (.int p3), .unset] [] := by first | (simp [entryFrame, mkF, argsToLocals, Value.category]; done) | rfl
def Q14 (Z : State) (b0 : Addr) (p1 : Int32) (p2 : Int32) (p3 : Int32) (f : Nat → Int32) (n : Nat) (i : Nat) (j : Nat) (h0 : Heap) (n0 : Nat) (v : Option Value) (h : Heap) (L : List Loc) : Prop := v = none ∧ ∃ f', (∀ x, x < n → f' x = if i ≤ x ∧ x < j then p3 else f x) ∧ Fr n0 L ∧ Keep h0 h [b0] ∧ Ba Z h b0 .int n f'
set_option maxRecDepth 65536 in
set_option maxHeartbeats 40000000 in
theorem rm14 (l : Launch) (Z : State) (a0 : Array Value) (hw : ∀ d ∈ tables_1, d.before a0 Z = true) (ws : List Jvm.Cond) (b0 : Addr) (p1 : Int32) (p2 : Int32) (p3 : Int32) (f : Nat → Int32) (n : Nat) (i : Nat) (j : Nat) (h0 : Heap) (n0 : Nat) (Z0 : n0 ≤ h0.size) (B_b0 : Ba Z h0 b0 .int n f) (hi : p1.toInt = (i : Int)) (hj : p2.toInt = (j : Int)) (hij : i ≤ j) (hjn : j ≤ n) (hn : n ≤ 128) (g_b0 : n0 ≤ b0) :
    MetFree l (⟨"java/util/Arrays", "fill", "([IIII)V"⟩ : MethodName) (head1 (Jvm.Cond.code (⟨"java/util/Arrays", "fill", "([IIII)V"⟩ : MethodName) jdk_65_method_104_code 5 none :: ws) ({ frames := 1, cells := 0, slots := 0, locals := 14 } : Room)) (fun a U => a = #[(.ref b0), (.int p1), (.int p2), (.int p3)] ∧ Z.Warmed39 U.vm ∧ U.heap = h0) (fun _ _ _ _ _ => True) (fun _ U o U' => ∃ v L, o = .returned v ∧ Q14 Z b0 p1 p2 p3 f n i j h0 n0 v U'.heap L ∧ FrameEnd U o U' L ({ frames := 1, cells := 0, slots := 0, locals := 14 } : Room).cells ({ frames := 1, cells := 0, slots := 0, locals := 14 } : Room).slots) := by
  refine MetFree.of_bodySF (plainFor_of_name pn_58157509) hisR ?_
  intro p e s m args below meth c s₁ Bd hml0 hP hK
  obtain ⟨rfl, hZ, hh⟩ := hP
  have C : Ctx p s m meth c Z "java/util/Arrays" "fill" jdk_65_method_104_code 5 none := Ctx.of Bd hml0 hZ
  have X0 : Stand p l e ({ frames := 1, cells := 0, slots := 0, locals := 14 } : Room) s m #[(.ref b0), (.int p1), (.int p2), (.int p3)] below meth c s₁ [] 0 0 := Stand.of_body Bd
  have e0 : s₁.heap = h0 := by rw [← hh, Bd.state]; rfl
  have N0 := Fr.nil n0
  refine Goes.enter (ef_14 m b0 p1 p2 p3) ?_
  clear hK hml0 hh
  obtain ⟨ln, hln⟩ : ∃ z : Int32, z.toInt = (n : Int) := ⟨n.toInt32, own_lenI (by omega)⟩
  refine g_aloadN 1 rfl C X0 d14_0 rfl rfl ?_
  refine g_len 2 rfl C X0 e0 B_b0 ln hln d14_1 ?_
  refine g_iloadN 3 rfl C X0 d14_2 rfl ?_
  refine g_iloadN 4 rfl C X0 d14_3 rfl ?_
  refine g_callS 7 rfl C X0 (argsL := [(.int ln), (.int p1), (.int p2)]) (hw _ (List.mem_of_getElem? (i := 80) rfl)) (hw _ (List.mem_of_getElem? (i := 81) rfl)) (hw _ (List.mem_of_getElem? (i := 82) rfl)) (hw _ (List.mem_of_getElem? (i := 25) rfl)) e0 (rm15 l Z a0 hw [] ln p1 p2 h0 n0 Z0 (by omega)) (lenOf pd_35459093 rfl) (by decide) (by decide) (by decide) (by decide) rfl (W := 0) (Nat.le_of_eq rfl) (by decide) d14_4 rfl fun r1 T2 Lc3 X4 hQ5 => ?_
  obtain ⟨rfl, Nq6, eh7⟩ := hQ5
  have N8 := Fr.app N0 Nq6
  show Goes _ _ _ _ _ _ 7 _ []
  refine g_iloadN 8 rfl C X4 d14_7 rfl ?_
  refine g_istore 10 rfl C X4 p1 rfl #[.val (.ref b0), .val (.int p1), .val (.int p2), .val (.int p3), .val (.int p1)] d14_8 rfl ?_
  have loop : ∀ (k c1 : Nat) (vi : Int32) (Tl : State) (hl : Heap) (Ll : List Loc) (fl : Nat → Int32), Stand p l e ({ frames := 1, cells := 0, slots := 0, locals := 14 } : Room) s m #[(.ref b0), (.int p1), (.int p2), (.int p3)] below meth c Tl Ll 0 0 → Tl.heap = hl → Keep h0 hl [b0] → Ba Z hl b0 .int n fl → Fr n0 Ll → n0 ≤ hl.size → vi.toInt = (c1 : Int) → c1 + k = j → i ≤ c1 → (∀ x, fl x = if i ≤ x ∧ x < c1 then p3 else f x) → Goes p e below (EndN s (Q14 Z b0 p1 p2 p3 f n i j h0 n0) ({ frames := 1, cells := 0, slots := 0, locals := 14 } : Room).cells ({ frames := 1, cells := 0, slots := 0, locals := 14 } : Room).slots) Tl m 10 #[.val (.ref b0), .val (.int p1), .val (.int p2), .val (.int p3), .val (.int vi)] [] := by
    intro k
    induction k with
    | zero =>
      intro c1 vi Tl hl Ll fl Xl el Kl Bl Nl Zl hvi hck hic hfl
      refine g_iload 12 rfl C Xl d14_10 rfl ?_
      refine g_iloadN 13 rfl C Xl d14_12 rfl ?_
      have hq10 : ¬ (vi.toInt < p2.toInt) := by
        omega
      refine g_icmp_ge_t 27 C Xl d14_13 (by decide) (by decide) hq10 ?_
      exact g_retV C Xl rfl d14_27 el (by decide) (by decide) ⟨rfl, fl, (fun x hx => by rw [hfl x]; rw [show c1 = j by omega]), Nl, Kl, Bl⟩
    | succ k ih =>
      intro c1 vi Tl hl Ll fl Xl el Kl Bl Nl Zl hvi hck hic hfl
      refine g_iload 12 rfl C Xl d14_10 rfl ?_
      refine g_iloadN 13 rfl C Xl d14_12 rfl ?_
      have hq12 : vi.toInt < p2.toInt := by
        omega
      refine g_icmp_ge_f 16 rfl C Xl d14_13 hq12 ?_
      refine g_aloadN 17 rfl C Xl d14_16 rfl rfl ?_
      refine g_iload 19 rfl C Xl d14_17 rfl ?_
      refine g_iloadN 20 rfl C Xl d14_19 rfl ?_
      refine g_iastore 21 rfl C Xl el Bl (c1) hvi (by omega) p3 rfl d14_20 Nl g_b0 fun T13 h14 ls15 X16 e17 W18 B19 N20 => ?_
      have Zs21 := Nat.le_trans Zl (Nat.le_of_eq W18.size.symm)
      have Kp22 : Keep h0 h14 [b0] := Kl.wr W18 (Or.inl (List.mem_of_getElem? (i := 0) rfl))
      obtain ⟨v23, hv23⟩ : ∃ z : Int32, (vi + (1 : Int32)) = z := ⟨_, rfl⟩
      refine g_iinc 24 rfl C X16 (1 : Int32) v23 #[.val (.ref b0), .val (.int p1), .val (.int p2), .val (.int p3), .val (.int v23)] d14_21 rfl rfl hv23 rfl ?_
      refine g_goto 10 C X16 d14_24 (by decide) (by decide) ?_
      have hq24 : v23.toInt = ((c1 + 1 : Nat) : Int) := by
        have fr25 := rng32 v23
        have fr26 := rng32 vi
        have fc27 : (1 : Int32).toInt = 1 := rfl
        have fo28 := c_iadd vi (1 : Int32)
        have fr29 := rng32 (vi + (1 : Int32))
        have fe30 : (vi + (1 : Int32)).toInt = v23.toInt := congrArg Int32.toInt hv23
        omega
      exact ih (c1 + 1) v23 T13 h14 _ _ X16 e17 Kp22 B19 N20 Zs21 hq24 (by omega) (by omega) (own_fs hfl hic)
  exact loop (j - i) i p1 T2 h0 _ _ X4 eh7 (Keep.refl h0 [b0]) B_b0 N8 Z0 hi (by omega) (Nat.le_refl _) (fun x => (if_neg (by omega)).symm)
theorem d12_0 : decode jdk_65_method_123_code 0 = .ok (.iload_n 1, 1) := by decide +kernel
theorem d12_1 : decode jdk_65_method_123_code 1 = .ok (.aload_n 0, 1) := by decide +kernel
theorem d12_2 : decode jdk_65_method_123_code 2 = .ok (.arraylength, 1) := by decide +kernel
theorem d12_3 : decode jdk_65_method_123_code 3 = .ok (.if_icmp .ne 11, 3) := by decide +kernel
theorem d12_14 : decode jdk_65_method_123_code 14 = .ok (.iload_n 1, 1) := by decide +kernel
theorem d12_15 : decode jdk_65_method_123_code 15 = .ok (.newarray .int, 2) := by decide +kernel
theorem d12_17 : decode jdk_65_method_123_code 17 = .ok (.astore_n 2, 1) := by decide +kernel
theorem d12_18 : decode jdk_65_method_123_code 18 = .ok (.aload_n 0, 1) := by decide +kernel
theorem d12_19 : decode jdk_65_method_123_code 19 = .ok (.iconst 0, 1) := by decide +kernel
theorem d12_20 : decode jdk_65_method_123_code 20 = .ok (.aload_n 2, 1) := by decide +kernel
theorem d12_21 : decode jdk_65_method_123_code 21 = .ok (.iconst 0, 1) := by decide +kernel
theorem d12_22 : decode jdk_65_method_123_code 22 = .ok (.aload_n 0, 1) := by decide +kernel
theorem d12_23 : decode jdk_65_method_123_code 23 = .ok (.arraylength, 1) := by decide +kernel
theorem d12_24 : decode jdk_65_method_123_code 24 = .ok (.iload_n 1, 1) := by decide +kernel
theorem d12_25 : decode jdk_65_method_123_code 25 = .ok (.invokestatic 304, 3) := by decide +kernel
theorem pd_1793237 : parseMethodDescriptor "(II)I" = some ⟨[.int, .int], some .int⟩ := by decide +kernel
theorem d12_28 : decode jdk_65_method_123_code 28 = .ok (.invokestatic 150, 3) := by decide +kernel
theorem d12_31 : decode jdk_65_method_123_code 31 = .ok (.aload_n 2, 1) := by decide +kernel
theorem d12_32 : decode jdk_65_method_123_code 32 = .ok (.areturn, 1) := by decide +kernel
theorem ef_12 (m : MethodId) (b0 : Addr) (p1 : Int32) : entryFrame m #[(.ref b0), (.int p1)] 3 = mkF m 0 #[.val (.ref b0), .val (.int p1), .unset] [] := by first | (simp [entryFrame, mkF, argsToLocals, Value.category]; done) | rfl
def Q12 (Z : State) (b0 : Addr) (p1 : Int32) (f : Nat → Int32) (n : Nat) (nn : Nat) (h0 : Heap) (n0 : Nat) (v : Option Value) (h : Heap) (L : List Loc) : Prop := ∃ a, v = some (.ref a) ∧ Fr n0 L ∧ Keep h0 h [] ∧ h0.size ≤ a ∧ Ba Z h a .int nn (cpy (fun _ => 0) f 0 0 n)
set_option maxRecDepth 65536 in
set_option maxHeartbeats 40000000 in
theorem rm12 (l : Launch) (Z : State) (a0 : Array Value) (hw : ∀ d ∈ tables_1, d.before a0 Z = true) (ws : List Jvm.Cond) (b0 : Addr) (p1 : Int32) (f : Nat → Int32) (n : Nat) (nn : Nat) (h0 : Heap) (n0 : Nat) (Z0 : n0 ≤ h0.size) (B_b0 : Ba Z h0 b0 .int n f) (h1 : p1.toInt = (nn : Int)) (hlt : n < nn) (h128 : nn ≤ 128) :
    MetFree l (⟨"java/util/Arrays", "copyOf", "([II)[I"⟩ : MethodName) (head1 (Jvm.Cond.code (⟨"java/util/Arrays", "copyOf", "([II)[I"⟩ : MethodName) jdk_65_method_123_code 3 (some (.array .int)) :: ws) ({ frames := 1, cells := 1, slots := 128, locals := 18 } : Room)) (fun a U => a = #[(.ref b0), (.int p1)] ∧ Z.Warmed39 U.vm ∧ U.heap = h0) (fun _ _ _ _ _ => True) (fun _ U o U' => ∃ v L, o = .returned v ∧ Q12 Z b0 p1 f n nn h0 n0 v U'.heap L ∧ FrameEnd U o U' L ({ frames := 1, cells := 1, slots := 128, locals := 18 } : Room).cells ({ frames := 1, cells := 1, slots := 128, locals := 18 } : Room).slots) := by
  refine MetFree.of_bodySF (plainFor_of_name pn_58157509) hisR ?_
  intro p e s m args below meth c s₁ Bd hml0 hP hK
  obtain ⟨rfl, hZ, hh⟩ := hP
  have C : Ctx p s m meth c Z "java/util/Arrays" "copyOf" jdk_65_method_123_code 3 (some (.array .int)) := Ctx.of Bd hml0 hZ
  have X0 : Stand p l e ({ frames := 1, cells := 1, slots := 128, locals := 18 } : Room) s m #[(.ref b0), (.int p1)] below meth c s₁ [] 0 0 := Stand.of_body Bd
  have e0 : s₁.heap = h0 := by rw [← hh, Bd.state]; rfl
  have N0 := Fr.nil n0
  refine Goes.enter (ef_12 m b0 p1) ?_
  clear hK hml0 hh
  obtain ⟨ln, hln⟩ : ∃ z : Int32, z.toInt = (n : Int) := ⟨n.toInt32, own_lenI (by omega)⟩
  refine g_iloadN 1 rfl C X0 d12_0 rfl ?_
  refine g_aloadN 2 rfl C X0 d12_1 rfl rfl ?_
  refine g_len 3 rfl C X0 e0 B_b0 ln hln d12_2 ?_
  have hq2 : ¬ (p1.toInt = ln.toInt) := by
    omega
  refine g_icmp_ne_t 14 C X0 d12_3 (by decide) (by decide) hq2 ?_
  refine g_iloadN 15 rfl C X0 d12_14 rfl ?_
  refine g_newP 17 rfl C X0 nn h1 128 (by omega) (by decide) rfl (hw _ (List.mem_of_getElem? (i := 22) rfl)) e0 d12_15 (by decide) (by decide) fun T3 h4 o5 g6 X7 e8 E9 B10 => ?_
  have ne11 : b0 ≠ o5 := by rw [g6]; exact Nat.ne_of_lt B_b0.lt
  have gn12 : n0 ≤ o5 := by rw [g6]; exact Z0
  have sz13 : h0.size ≤ o5 := by rw [g6]; exact (Keep.refl h0 []).1
  have F14 := B_b0.ext E9
  have Zs15 := Nat.le_trans Z0 E9.1
  have Kp16 : Keep h0 h4 [] := (Keep.refl h0 []).ext E9
  refine g_astoreN 18 rfl C X7 #[.val (.ref b0), .val (.int p1), .val (.ref o5)] d12_17 rfl rfl ?_
  refine g_aloadN 19 rfl C X7 d12_18 rfl rfl ?_
  refine g_iconst 20 rfl C X7 (0 : Int32) d12_19 rfl ?_
  refine g_aloadN 21 rfl C X7 d12_20 rfl rfl ?_
  refine g_iconst 22 rfl C X7 (0 : Int32) d12_21 rfl ?_
  refine g_aloadN 23 rfl C X7 d12_22 rfl rfl ?_
  refine g_len 24 rfl C X7 e8 F14 ln hln d12_23 ?_
  refine g_iloadN 25 rfl C X7 d12_24 rfl ?_
  refine g_callS 28 rfl C X7 (argsL := [(.int ln), (.int p1)]) (hw _ (List.mem_of_getElem? (i := 70) rfl)) (hw _ (List.mem_of_getElem? (i := 71) rfl)) (hw _ (List.mem_of_getElem? (i := 72) rfl)) (hw _ (List.mem_of_getElem? (i := 62) rfl)) e8 (rm13 l Z a0 hw [] ln p1 h4 n0 Zs15) (lenOf pd_1793237 rfl) (by decide) (by decide) (by decide) (by decide) rfl (W := 4) (Nat.le_of_eq rfl) (by decide) d12_25 rfl fun r17 T18 Lc19 X20 hQ21 => ?_
  obtain ⟨r22, rfl, hs23, Nq24, eh25⟩ := hQ21
  have N26 := Fr.app N0 Nq24
  show Goes _ _ _ _ _ _ 28 _ [(.int r22), (.int (0 : Int32)), (.ref o5), (.int (0 : Int32)), (.ref b0)]
  have hq27 : r22.toInt = ((n : Nat) : Int) := by
    have fr28 := rng32 r22
    omega
  refine g_copy 31 rfl C X20 (hw _ (List.mem_of_getElem? (i := 73) rfl)) (hw _ (List.mem_of_getElem? (i := 76) rfl)) (hw _ (List.mem_of_getElem? (i := 74) rfl)) (hw _ (List.mem_of_getElem? (i := 75) rfl)) eh25 F14 B10 (fun _ _ => rfl) (fun _ _ => rfl) rfl 0 0 n rfl rfl hq27 (by omega) (by omega) N26 gn12 d12_28 rfl (by decide) (W := 0) (Nat.le_of_eq rfl) (by decide) fun T29 h30 ls31 X32 e33 N34 K35 B36 => ?_
  have F37 := F14.keep K35 (ninS ne11 nin0)
  have Zs38 := Nat.le_trans Zs15 K35.1
  have Kp39 : Keep h0 h30 [] := Keep.trans Kp16 K35 (allS (Or.inr sz13) all0)
  refine g_aloadN 32 rfl C X32 d12_31 rfl rfl ?_
  exact g_retA C X32 rfl rfl rfl rfl d12_32 e33 (by decide) (by decide) ⟨o5, rfl, N34, Kp39, sz13, B36⟩
theorem d6_0 : decode prog_17_method_6_code 0 = .ok (.aload_n 0, 1) := by decide +kernel
theorem d6_1 : decode prog_17_method_6_code 1 = .ok (.getfield 33, 3) := by decide +kernel
theorem d6_4 : decode prog_17_method_6_code 4 = .ok (.aload_n 0, 1) := by decide +kernel
theorem d6_5 : decode prog_17_method_6_code 5 = .ok (.getfield 18, 3) := by decide +kernel
theorem d6_8 : decode prog_17_method_6_code 8 = .ok (.arraylength, 1) := by decide +kernel
theorem d6_9 : decode prog_17_method_6_code 9 = .ok (.if_icmp .ne 21, 3) := by decide +kernel
theorem d6_30 : decode prog_17_method_6_code 30 = .ok (.iload_n 1, 1) := by decide +kernel
theorem d6_31 : decode prog_17_method_6_code 31 = .ok (.aload_n 0, 1) := by decide +kernel
theorem d6_32 : decode prog_17_method_6_code 32 = .ok (.getfield 26, 3) := by decide +kernel
theorem d6_35 : decode prog_17_method_6_code 35 = .ok (.arraylength, 1) := by decide +kernel
theorem d6_36 : decode prog_17_method_6_code 36 = .ok (.if_icmp .lt 46, 3) := by decide +kernel
theorem d6_82 : decode prog_17_method_6_code 82 = .ok (.aload_n 0, 1) := by decide +kernel
theorem d6_83 : decode prog_17_method_6_code 83 = .ok (.dup, 1) := by decide +kernel
theorem d6_84 : decode prog_17_method_6_code 84 = .ok (.getfield 33, 3) := by decide +kernel
theorem d6_87 : decode prog_17_method_6_code 87 = .ok (.dup_x1, 1) := by decide +kernel
theorem d6_88 : decode prog_17_method_6_code 88 = .ok (.iconst 1, 1) := by decide +kernel
theorem d6_89 : decode prog_17_method_6_code 89 = .ok (.iadd, 1) := by decide +kernel
theorem d6_90 : decode prog_17_method_6_code 90 = .ok (.putfield 33, 3) := by decide +kernel
theorem d6_93 : decode prog_17_method_6_code 93 = .ok (.istore_n 2, 1) := by decide +kernel
theorem d6_94 : decode prog_17_method_6_code 94 = .ok (.aload_n 0, 1) := by decide +kernel
theorem d6_95 : decode prog_17_method_6_code 95 = .ok (.getfield 18, 3) := by decide +kernel
theorem d6_98 : decode prog_17_method_6_code 98 = .ok (.iload_n 2, 1) := by decide +kernel
theorem d6_99 : decode prog_17_method_6_code 99 = .ok (.iload_n 1, 1) := by decide +kernel
theorem d6_100 : decode prog_17_method_6_code 100 = .ok (.iastore, 1) := by decide +kernel
theorem d6_101 : decode prog_17_method_6_code 101 = .ok (.aload_n 0, 1) := by decide +kernel
theorem d6_102 : decode prog_17_method_6_code 102 = .ok (.getfield 26, 3) := by decide +kernel
theorem d6_105 : decode prog_17_method_6_code 105 = .ok (.iload_n 1, 1) := by decide +kernel
theorem d6_106 : decode prog_17_method_6_code 106 = .ok (.iload_n 2, 1) := by decide +kernel
theorem d6_107 : decode prog_17_method_6_code 107 = .ok (.iastore, 1) := by decide +kernel
theorem d6_108 : decode prog_17_method_6_code 108 = .ok (.iload_n 2, 1) := by decide +kernel
theorem d6_109 : decode prog_17_method_6_code 109 = .ok (.ireturn, 1) := by decide +kernel
theorem d6_39 : decode prog_17_method_6_code 39 = .ok (.iload_n 1, 1) := by decide +kernel
theorem d6_40 : decode prog_17_method_6_code 40 = .ok (.iconst 1, 1) := by decide +kernel
theorem d6_41 : decode prog_17_method_6_code 41 = .ok (.iadd, 1) := by decide +kernel
theorem d6_42 : decode prog_17_method_6_code 42 = .ok (.aload_n 0, 1) := by decide +kernel
theorem d6_43 : decode prog_17_method_6_code 43 = .ok (.getfield 26, 3) := by decide +kernel
theorem d6_46 : decode prog_17_method_6_code 46 = .ok (.arraylength, 1) := by decide +kernel
theorem d6_47 : decode prog_17_method_6_code 47 = .ok (.invokestatic 56, 3) := by decide +kernel
theorem pd_52681284 : parseMethodDescriptor "(I)I" = some ⟨[.int], some .int⟩ := by decide +kernel
theorem d6_50 : decode prog_17_method_6_code 50 = .ok (.invokestatic 66, 3) := by decide +kernel
theorem d6_53 : decode prog_17_method_6_code 53 = .ok (.istore_n 2, 1) := by decide +kernel
theorem d6_54 : decode prog_17_method_6_code 54 = .ok (.aload_n 0, 1) := by decide +kernel
theorem d6_55 : decode prog_17_method_6_code 55 = .ok (.getfield 26, 3) := by decide +kernel
theorem d6_58 : decode prog_17_method_6_code 58 = .ok (.arraylength, 1) := by decide +kernel
theorem d6_59 : decode prog_17_method_6_code 59 = .ok (.istore_n 3, 1) := by decide +kernel
theorem d6_60 : decode prog_17_method_6_code 60 = .ok (.aload_n 0, 1) := by decide +kernel
theorem d6_61 : decode prog_17_method_6_code 61 = .ok (.aload_n 0, 1) := by decide +kernel
theorem d6_62 : decode prog_17_method_6_code 62 = .ok (.getfield 26, 3) := by decide +kernel
theorem d6_65 : decode prog_17_method_6_code 65 = .ok (.iload_n 2, 1) := by decide +kernel
theorem d6_66 : decode prog_17_method_6_code 66 = .ok (.invokestatic 60, 3) := by decide +kernel
theorem pd_75955629 : parseMethodDescriptor "([II)[I" = some ⟨[(.array .int), .int], some (.array .int)⟩ := by decide +kernel
theorem d6_69 : decode prog_17_method_6_code 69 = .ok (.putfield 26, 3) := by decide +kernel
theorem d6_72 : decode prog_17_method_6_code 72 = .ok (.aload_n 0, 1) := by decide +kernel
theorem d6_73 : decode prog_17_method_6_code 73 = .ok (.getfield 26, 3) := by decide +kernel
theorem d6_76 : decode prog_17_method_6_code 76 = .ok (.iload_n 3, 1) := by decide +kernel
theorem d6_77 : decode prog_17_method_6_code 77 = .ok (.iload_n 2, 1) := by decide +kernel
theorem d6_78 : decode prog_17_method_6_code 78 = .ok (.iconst (-1), 1) := by decide +kernel
theorem d6_79 : decode prog_17_method_6_code 79 = .ok (.invokestatic 72, 3) := by decide +kernel
theorem pd_21813307 : parseMethodDescriptor "([IIII)V" = some ⟨[(.array .int), .int, .int, .int], none⟩ := by decide +kernel
theorem ef_6_0 (m : MethodId) (b0 : Addr) (p1 : Int32) : entryFrame m #[(.ref b0), (.int p1)] 4 = mkF m 0 #[.val (.ref b0), .val (.int p1), .unset, .unset] [] := by first | (simp [entryFrame, mkF, argsToLocals, Value.category]; done) | rfl
def Q6_0 (Z : State) (b0 : Addr) (p1 : Int32) (k : Addr) (t : Addr) (n : Nat) (f : Nat → Int32) (fk : Nat → Int32) (i : Nat) (g : Int → Int) (h0 : Heap) (n0 : Nat) (v : Option Value) (h : Heap) (L : List Loc) : Prop := ∃ t' n' f' fk', v = some (.int 0) ∧ Fr n0 L ∧ Keep h0 h [b0, k, t] ∧ Exa Z h b0 "com/example/bisimulation/bisimulation/ccs/StateTable" ∧ Fld Z h b0 "com/example/bisimulation/bisimulation/ccs/StateTable" "size" "I" (.int ((0 : Int32) + (1 : Int32))) ∧ Fld Z h b0 "com/example/bisimulation/bisimulation/ccs/StateTable" "keys" "[I" (.ref k) ∧ Fld Z h b0 "com/example/bisimulation/bisimulation/ccs/StateTable" "stateOfKey" "[I" (.ref t') ∧ Ba Z h k .int 16 fk' ∧ Ba Z h t' .int n' f' ∧ 16 ≤ n' ∧ (n' ≤ 128 ∧ (n' ≤ 64 ∨ 16 < n)) ∧ Tb n' f' (gset g p1.toInt 0) ∧ k < t'
set_option maxRecDepth 65536 in
set_option maxHeartbeats 40000000 in
theorem rm6_0 (l : Launch) (Z : State) (a0 : Array Value) (hw : ∀ d ∈ tables_1, d.before a0 Z = true) (ws : List Jvm.Cond) (b0 : Addr) (p1 : Int32) (k : Addr) (t : Addr) (n : Nat) (f : Nat → Int32) (fk : Nat → Int32) (i : Nat) (g : Int → Int) (h0 : Heap) (n0 : Nat) (Z0 : n0 ≤ h0.size) (E_b0 : Exa Z h0 b0 "com/example/bisimulation/bisimulation/ccs/StateTable") (F_size : Fld Z h0 b0 "com/example/bisimulation/bisimulation/ccs/StateTable" "size" "I" (.int (0 : Int32))) (F_keys : Fld Z h0 b0 "com/example/bisimulation/bisimulation/ccs/StateTable" "keys" "[I" (.ref k)) (F_st : Fld Z h0 b0 "com/example/bisimulation/bisimulation/ccs/StateTable" "stateOfKey" "[I" (.ref t)) (B_k : Ba Z h0 k .int 16 fk) (B_t : Ba Z h0 t .int n f) (lt_b0_k : b0 < k) (lt_k_t : k < t) (g_b0 : n0 ≤ b0) (hi : p1.toInt = (i : Int)) (hi64 : i < 64) (hn16 : 16 ≤ n) (hn64 : n ≤ 64) (hT : Tb n f g) :
    MetFree l (⟨"com/example/bisimulation/bisimulation/ccs/StateTable", "add", "(I)I"⟩ : MethodName) (head1 (Jvm.Cond.code (⟨"com/example/bisimulation/bisimulation/ccs/StateTable", "add", "(I)I"⟩ : MethodName) prog_17_method_6_code 4 (some .int) :: ws) ({ frames := 2, cells := 1, slots := 128, locals := 33 } : Room)) (fun a U => a = #[(.ref b0), (.int p1)] ∧ Z.Warmed39 U.vm ∧ U.heap = h0) (fun _ _ _ _ _ => True) (fun _ U o U' => ∃ v L, o = .returned v ∧ Q6_0 Z b0 p1 k t n f fk i g h0 n0 v U'.heap L ∧ FrameEnd U o U' L ({ frames := 2, cells := 1, slots := 128, locals := 33 } : Room).cells ({ frames := 2, cells := 1, slots := 128, locals := 33 } : Room).slots) := by
  refine MetFree.of_bodySF (plainFor_of_name pn_31168043) hisR ?_
  intro p e s m args below meth c s₁ Bd hml0 hP hK
  obtain ⟨rfl, hZ, hh⟩ := hP
  have C : Ctx p s m meth c Z "com/example/bisimulation/bisimulation/ccs/StateTable" "add" prog_17_method_6_code 4 (some .int) := Ctx.of Bd hml0 hZ
  have X0 : Stand p l e ({ frames := 2, cells := 1, slots := 128, locals := 33 } : Room) s m #[(.ref b0), (.int p1)] below meth c s₁ [] 0 0 := Stand.of_body Bd
  have e0 : s₁.heap = h0 := by rw [← hh, Bd.state]; rfl
  have N0 := Fr.nil n0
  refine Goes.enter (ef_6_0 m b0 p1) ?_
  clear hK hml0 hh
  have g_k : n0 ≤ k := Nat.le_trans g_b0 (Nat.le_of_lt lt_b0_k)
  have g_t : n0 ≤ t := Nat.le_trans g_k (Nat.le_of_lt lt_k_t)
  obtain ⟨ln, hln⟩ : ∃ z : Int32, z.toInt = (n : Int) := ⟨n.toInt32, own_lenI (by omega)⟩
  refine g_aloadN 1 rfl C X0 d6_0 rfl rfl ?_
  refine g_getF 4 rfl C X0 (host := "") (Or.inl (hw _ (List.mem_of_getElem? (i := 43) rfl))) Via.refl e0 F_size d6_1 fun T1 X2 e3 => ?_
  refine g_aloadN 5 rfl C X2 d6_4 rfl rfl ?_
  refine g_getF 8 rfl C X2 (host := "") (Or.inl (hw _ (List.mem_of_getElem? (i := 31) rfl))) Via.refl e3 F_keys d6_5 fun T4 X5 e6 => ?_
  refine g_len 9 rfl C X5 e6 B_k (16 : Int32) rfl d6_8 ?_
  refine g_icmp_ne_t 30 C X5 d6_9 (by decide) (by decide) (by decide) ?_
  refine g_iloadN 31 rfl C X5 d6_30 rfl ?_
  refine g_aloadN 32 rfl C X5 d6_31 rfl rfl ?_
  refine g_getF 35 rfl C X5 (host := "") (Or.inl (hw _ (List.mem_of_getElem? (i := 34) rfl))) Via.refl e6 F_st d6_32 fun T7 X8 e9 => ?_
  refine g_len 36 rfl C X8 e9 B_t ln hln d6_35 ?_
  by_cases hb10 : p1.toInt < ln.toInt
  · skip
    refine g_icmp_lt_t 82 C X8 d6_36 (by decide) (by decide) hb10 ?_
    refine g_aloadN 83 rfl C X8 d6_82 rfl rfl ?_
    refine g_dup 84 rfl C X8 d6_83 rfl ?_
    refine g_getF 87 rfl C X8 (host := "") (Or.inl (hw _ (List.mem_of_getElem? (i := 43) rfl))) Via.refl e9 F_size d6_84 fun T11 X12 e13 => ?_
    refine g_dupX1 88 rfl C X12 d6_87 rfl rfl ?_
    refine g_iconst 89 rfl C X12 (1 : Int32) d6_88 rfl ?_
    refine g_iadd 90 rfl C X12 d6_89 ?_
    refine g_putF 93 rfl C X12 (host := "") (Or.inl (hw _ (List.mem_of_getElem? (i := 43) rfl))) Via.refl e13 F_size E_b0 (Or.inl (hw _ (List.mem_of_getElem? (i := 44) rfl))) (hw _ (List.mem_of_getElem? (i := 1) rfl)) (ty := .int) (by decide) rfl rfl d6_90 N0 g_b0 fun T14 h15 ls16 X17 e18 W19 N20 => ?_
    have F21 : Fld Z h15 b0 "com/example/bisimulation/bisimulation/ccs/StateTable" "size" "I" (.int ((0 : Int32) + (1 : Int32))) := F_size.same W19
    have F22 := E_b0.wr W19
    have F23 := F_keys.other W19 (Or.inr (slot_ne (Or.inl (hw _ (List.mem_of_getElem? (i := 32) rfl))) (Or.inl (hw _ (List.mem_of_getElem? (i := 44) rfl))) (by decide) (t := (.array .int)) (t' := .int) (by decide) (by decide)))
    have F24 := F_st.other W19 (Or.inr (slot_ne (Or.inl (hw _ (List.mem_of_getElem? (i := 35) rfl))) (Or.inl (hw _ (List.mem_of_getElem? (i := 44) rfl))) (by decide) (t := (.array .int)) (t' := .int) (by decide) (by decide)))
    have F25 := B_k.other W19 (Nat.ne_of_gt lt_b0_k)
    have F26 := B_t.other W19 (Nat.ne_of_gt (Nat.lt_trans lt_b0_k lt_k_t))
    have Zs27 := Nat.le_trans Z0 (Nat.le_of_eq W19.size.symm)
    have Kp28 : Keep h0 h15 [b0, k, t] := (Keep.refl h0 [b0, k, t]).wr W19 (Or.inl (List.mem_of_getElem? (i := 0) rfl))
    refine g_istoreN 94 rfl C X17 (0 : Int32) rfl #[.val (.ref b0), .val (.int p1), .val (.int (0 : Int32)), .unset] d6_93 rfl ?_
    refine g_aloadN 95 rfl C X17 d6_94 rfl rfl ?_
    refine g_getF 98 rfl C X17 (host := "") (Or.inl (hw _ (List.mem_of_getElem? (i := 31) rfl))) Via.refl e18 F23 d6_95 fun T29 X30 e31 => ?_
    refine g_iloadN 99 rfl C X30 d6_98 rfl ?_
    refine g_iloadN 100 rfl C X30 d6_99 rfl ?_
    refine g_iastore 101 rfl C X30 e31 F25 0 (by decide) (by decide) p1 rfl d6_100 N20 g_k fun T32 h33 ls34 X35 e36 W37 B38 N39 => ?_
    have F40 := F22.wr W37
    have F41 := F21.other W37 (Or.inl (Nat.ne_of_lt lt_b0_k))
    have F42 := F23.other W37 (Or.inl (Nat.ne_of_lt lt_b0_k))
    have F43 := F24.other W37 (Or.inl (Nat.ne_of_lt lt_b0_k))
    have F44 := F26.other W37 (Nat.ne_of_gt lt_k_t)
    have Zs45 := Nat.le_trans Zs27 (Nat.le_of_eq W37.size.symm)
    have Kp46 : Keep h0 h33 [b0, k, t] := Kp28.wr W37 (Or.inl (List.mem_of_getElem? (i := 1) rfl))
    refine g_aloadN 102 rfl C X35 d6_101 rfl rfl ?_
    refine g_getF 105 rfl C X35 (host := "") (Or.inl (hw _ (List.mem_of_getElem? (i := 34) rfl))) Via.refl e36 F43 d6_102 fun T47 X48 e49 => ?_
    refine g_iloadN 106 rfl C X48 d6_105 rfl ?_
    refine g_iloadN 107 rfl C X48 d6_106 rfl ?_
    refine g_iastore 108 rfl C X48 e49 F44 (i) hi (by omega) (0 : Int32) rfl d6_107 N39 g_t fun T50 h51 ls52 X53 e54 W55 B56 N57 => ?_
    have F58 := F40.wr W55
    have F59 := F41.other W55 (Or.inl (Nat.ne_of_lt (Nat.lt_trans lt_b0_k lt_k_t)))
    have F60 := F42.other W55 (Or.inl (Nat.ne_of_lt (Nat.lt_trans lt_b0_k lt_k_t)))
    have F61 := F43.other W55 (Or.inl (Nat.ne_of_lt (Nat.lt_trans lt_b0_k lt_k_t)))
    have F62 := B38.other W55 (Nat.ne_of_lt lt_k_t)
    have Zs63 := Nat.le_trans Zs45 (Nat.le_of_eq W55.size.symm)
    have Kp64 : Keep h0 h51 [b0, k, t] := Kp46.wr W55 (Or.inl (List.mem_of_getElem? (i := 2) rfl))
    refine g_iloadN 109 rfl C X53 d6_108 rfl ?_
    exact g_retI C X53 rfl d6_109 e54 (by decide) (by decide) ⟨t, n, _, _, rfl, N57, Kp64, F58, F59, F60, F61, F62, B56, (by omega), (by omega), (hT.upd i (by omega) _ 0 rfl _ hi), lt_k_t⟩
  · skip
    refine g_icmp_lt_f 39 rfl C X8 d6_36 hb10 ?_
    refine g_iloadN 40 rfl C X8 d6_39 rfl ?_
    refine g_iconst 41 rfl C X8 (1 : Int32) d6_40 rfl ?_
    refine g_iadd 42 rfl C X8 d6_41 ?_
    refine g_aloadN 43 rfl C X8 d6_42 rfl rfl ?_
    refine g_getF 46 rfl C X8 (host := "") (Or.inl (hw _ (List.mem_of_getElem? (i := 34) rfl))) Via.refl e9 F_st d6_43 fun T65 X66 e67 => ?_
    refine g_len 47 rfl C X66 e67 B_t ln hln d6_46 ?_
    refine g_callS 50 rfl C X66 (argsL := [(.int ln)]) (hw _ (List.mem_of_getElem? (i := 54) rfl)) (hw _ (List.mem_of_getElem? (i := 55) rfl)) (hw _ (List.mem_of_getElem? (i := 56) rfl)) (hw _ (List.mem_of_getElem? (i := 2) rfl)) e67 (rm9 l Z a0 hw [] ln h0 n0 Z0 (by omega)) (lenOf pd_52681284 rfl) (by decide) (by decide) (by decide) (by decide) rfl (W := 1) (Nat.le_of_eq rfl) (by decide) d6_47 rfl fun r68 T69 Lc70 X71 hQ72 => ?_
    obtain ⟨r73, rfl, hs74, Nq75, eh76⟩ := hQ72
    have N77 := Fr.app N0 Nq75
    show Goes _ _ _ _ _ _ 50 _ [(.int r73), (.int (p1 + (1 : Int32)))]
    refine g_callS 53 rfl C X71 (argsL := [(.int (p1 + (1 : Int32))), (.int r73)]) (hw _ (List.mem_of_getElem? (i := 64) rfl)) (hw _ (List.mem_of_getElem? (i := 65) rfl)) (hw _ (List.mem_of_getElem? (i := 66) rfl)) (hw _ (List.mem_of_getElem? (i := 62) rfl)) eh76 (rm11 l Z a0 hw [] (p1 + (1 : Int32)) r73 h0 n0 Z0) (lenOf pd_1793237 rfl) (by decide) (by decide) (by decide) (by decide) rfl (W := 0) (Nat.le_of_eq rfl) (by decide) d6_50 rfl fun r78 T79 Lc80 X81 hQ82 => ?_
    obtain ⟨r83, rfl, hs84, Nq85, eh86⟩ := hQ82
    have N87 := Fr.app N77 Nq85
    show Goes _ _ _ _ _ _ 53 _ [(.int r83)]
    refine g_istoreN 54 rfl C X81 r83 rfl #[.val (.ref b0), .val (.int p1), .val (.int r83), .unset] d6_53 rfl ?_
    refine g_aloadN 55 rfl C X81 d6_54 rfl rfl ?_
    refine g_getF 58 rfl C X81 (host := "") (Or.inl (hw _ (List.mem_of_getElem? (i := 34) rfl))) Via.refl eh86 F_st d6_55 fun T88 X89 e90 => ?_
    refine g_len 59 rfl C X89 e90 B_t ln hln d6_58 ?_
    refine g_istoreN 60 rfl C X89 ln rfl #[.val (.ref b0), .val (.int p1), .val (.int r83), .val (.int ln)] d6_59 rfl ?_
    refine g_aloadN 61 rfl C X89 d6_60 rfl rfl ?_
    refine g_aloadN 62 rfl C X89 d6_61 rfl rfl ?_
    refine g_getF 65 rfl C X89 (host := "") (Or.inl (hw _ (List.mem_of_getElem? (i := 34) rfl))) Via.refl e90 F_st d6_62 fun T91 X92 e93 => ?_
    refine g_iloadN 66 rfl C X92 d6_65 rfl ?_
    have hq94 : (n : Int) < r83.toInt ∧ r83.toInt ≤ 128 ∧ (i : Int) < r83.toInt ∧ (r83.toInt ≤ 64 ∨ 16 < n) := by
      have fr95 := rng32 r83
      have fr96 := rng32 p1
      have fc97 : (1 : Int32).toInt = 1 := rfl
      have fo98 := c_iadd p1 (1 : Int32)
      have fr99 := rng32 (p1 + (1 : Int32))
      omega
    obtain ⟨nn, hnn⟩ : ∃ n : Nat, r83.toInt = (n : Int) := ⟨r83.toInt.toNat, by omega⟩
    refine g_callS 69 rfl C X92 (argsL := [(.ref t), (.int r83)]) (hw _ (List.mem_of_getElem? (i := 67) rfl)) (hw _ (List.mem_of_getElem? (i := 68) rfl)) (hw _ (List.mem_of_getElem? (i := 69) rfl)) (hw _ (List.mem_of_getElem? (i := 25) rfl)) e93 (rm12 l Z a0 hw [] t r83 f n nn h0 n0 Z0 B_t hnn (by omega) (by omega)) (lenOf pd_75955629 rfl) (by decide) (by decide) (by decide) (by decide) rfl (W := 1) (Nat.le_of_eq rfl) (by decide) d6_66 rfl fun r100 T101 Lc102 X103 hQ104 => ?_
    obtain ⟨o105, rfl, Nq106, Kc107, sz108, B109⟩ := hQ104
    have lt_k_a : k < o105 := Nat.lt_of_lt_of_le B_k.lt sz108
    have ne110 : b0 ≠ o105 := Nat.ne_of_lt (Nat.lt_of_lt_of_le E_b0.lt sz108)
    have ne111 : k ≠ o105 := Nat.ne_of_lt (Nat.lt_of_lt_of_le B_k.lt sz108)
    have ne112 : t ≠ o105 := Nat.ne_of_lt (Nat.lt_of_lt_of_le B_t.lt sz108)
    have gn113 : n0 ≤ o105 := Nat.le_trans Z0 sz108
    have sz114 : h0.size ≤ o105 := Nat.le_trans (Keep.refl h0 [b0, k, t]).1 sz108
    have F115 := E_b0.keep Kc107
    have F116 := F_size.keep Kc107 nin0
    have F117 := F_keys.keep Kc107 nin0
    have F118 := F_st.keep Kc107 nin0
    have F119 := B_k.keep Kc107 nin0
    have F120 := B_t.keep Kc107 nin0
    have Zs121 := Nat.le_trans Z0 Kc107.1
    have Kp122 : Keep h0 T101.heap [b0, k, t] := Keep.trans (Keep.refl h0 [b0, k, t]) Kc107 all0
    have N123 := Fr.app N87 Nq106
    show Goes _ _ _ _ _ _ 69 _ [(.ref o105), (.ref b0)]
    refine g_putF 72 rfl C X103 (host := "") (Or.inl (hw _ (List.mem_of_getElem? (i := 34) rfl))) Via.refl rfl F118 F115 (Or.inl (hw _ (List.mem_of_getElem? (i := 35) rfl))) (hw _ (List.mem_of_getElem? (i := 1) rfl)) (ty := (.array .int)) (by decide) rfl rfl d6_69 N123 g_b0 fun T124 h125 ls126 X127 e128 W129 N130 => ?_
    have F131 : Fld Z h125 b0 "com/example/bisimulation/bisimulation/ccs/StateTable" "stateOfKey" "[I" (.ref o105) := F118.same W129
    have F132 := F115.wr W129
    have F133 := F116.other W129 (Or.inr (slot_ne (Or.inl (hw _ (List.mem_of_getElem? (i := 44) rfl))) (Or.inl (hw _ (List.mem_of_getElem? (i := 35) rfl))) (by decide) (t := .int) (t' := (.array .int)) (by decide) (by decide)))
    have F134 := F117.other W129 (Or.inr (slot_ne (Or.inl (hw _ (List.mem_of_getElem? (i := 32) rfl))) (Or.inl (hw _ (List.mem_of_getElem? (i := 35) rfl))) (by decide) (t := (.array .int)) (t' := (.array .int)) (by decide) (by decide)))
    have F135 := F119.other W129 (Nat.ne_of_gt lt_b0_k)
    have F136 := F120.other W129 (Nat.ne_of_gt (Nat.lt_trans lt_b0_k lt_k_t))
    have F137 := B109.other W129 (Ne.symm ne110)
    have Zs138 := Nat.le_trans Zs121 (Nat.le_of_eq W129.size.symm)
    have Kp139 : Keep h0 h125 [b0, k, t] := Kp122.wr W129 (Or.inl (List.mem_of_getElem? (i := 0) rfl))
    refine g_aloadN 73 rfl C X127 d6_72 rfl rfl ?_
    refine g_getF 76 rfl C X127 (host := "") (Or.inl (hw _ (List.mem_of_getElem? (i := 34) rfl))) Via.refl e128 F131 d6_73 fun T140 X141 e142 => ?_
    refine g_iloadN 77 rfl C X141 d6_76 rfl ?_
    refine g_iloadN 78 rfl C X141 d6_77 rfl ?_
    refine g_iconst 79 rfl C X141 (-1 : Int32) d6_78 rfl ?_
    refine g_callS 82 rfl C X141 (argsL := [(.ref o105), (.int ln), (.int r83), (.int (-1 : Int32))]) (hw _ (List.mem_of_getElem? (i := 77) rfl)) (hw _ (List.mem_of_getElem? (i := 78) rfl)) (hw _ (List.mem_of_getElem? (i := 79) rfl)) (hw _ (List.mem_of_getElem? (i := 25) rfl)) e142 (rm14 l Z a0 hw [] o105 ln r83 (-1 : Int32) (cpy (fun _ => 0) f 0 0 n) nn n nn h125 n0 Zs138 F137 hln hnn (by omega) (Nat.le_refl _) (by omega) gn113) (lenOf pd_21813307 rfl) (by decide) (by decide) (by decide) (by decide) rfl (W := 0) (Nat.le_of_eq rfl) (by decide) d6_79 rfl fun r143 T144 Lc145 X146 hQ147 => ?_
    obtain ⟨rfl, f148, hf149, Nq150, Kc151, B152⟩ := hQ147
    have F153 := F132.keep Kc151
    have F154 := F133.keep Kc151 (ninS ne110 nin0)
    have F155 := F134.keep Kc151 (ninS ne110 nin0)
    have F156 := F131.keep Kc151 (ninS ne110 nin0)
    have F157 := F135.keep Kc151 (ninS ne111 nin0)
    have F158 := F136.keep Kc151 (ninS ne112 nin0)
    have Zs159 := Nat.le_trans Zs138 Kc151.1
    have Kp160 : Keep h0 T144.heap [b0, k, t] := Keep.trans Kp139 Kc151 (allS (Or.inr sz114) all0)
    have hT2 : Tb nn f148 g := hT.grown (by omega) hf149
    have N161 := Fr.app N130 Nq150
    show Goes _ _ _ _ _ _ 82 _ []
    refine g_aloadN 83 rfl C X146 d6_82 rfl rfl ?_
    refine g_dup 84 rfl C X146 d6_83 rfl ?_
    refine g_getF 87 rfl C X146 (host := "") (Or.inl (hw _ (List.mem_of_getElem? (i := 43) rfl))) Via.refl rfl F154 d6_84 fun T162 X163 e164 => ?_
    refine g_dupX1 88 rfl C X163 d6_87 rfl rfl ?_
    refine g_iconst 89 rfl C X163 (1 : Int32) d6_88 rfl ?_
    refine g_iadd 90 rfl C X163 d6_89 ?_
    refine g_putF 93 rfl C X163 (host := "") (Or.inl (hw _ (List.mem_of_getElem? (i := 43) rfl))) Via.refl e164 F154 F153 (Or.inl (hw _ (List.mem_of_getElem? (i := 44) rfl))) (hw _ (List.mem_of_getElem? (i := 1) rfl)) (ty := .int) (by decide) rfl rfl d6_90 N161 g_b0 fun T165 h166 ls167 X168 e169 W170 N171 => ?_
    have F172 : Fld Z h166 b0 "com/example/bisimulation/bisimulation/ccs/StateTable" "size" "I" (.int ((0 : Int32) + (1 : Int32))) := F154.same W170
    have F173 := F153.wr W170
    have F174 := F155.other W170 (Or.inr (slot_ne (Or.inl (hw _ (List.mem_of_getElem? (i := 32) rfl))) (Or.inl (hw _ (List.mem_of_getElem? (i := 44) rfl))) (by decide) (t := (.array .int)) (t' := .int) (by decide) (by decide)))
    have F175 := F156.other W170 (Or.inr (slot_ne (Or.inl (hw _ (List.mem_of_getElem? (i := 35) rfl))) (Or.inl (hw _ (List.mem_of_getElem? (i := 44) rfl))) (by decide) (t := (.array .int)) (t' := .int) (by decide) (by decide)))
    have F176 := F157.other W170 (Nat.ne_of_gt lt_b0_k)
    have F177 := F158.other W170 (Nat.ne_of_gt (Nat.lt_trans lt_b0_k lt_k_t))
    have F178 := B152.other W170 (Ne.symm ne110)
    have Zs179 := Nat.le_trans Zs159 (Nat.le_of_eq W170.size.symm)
    have Kp180 : Keep h0 h166 [b0, k, t] := Kp160.wr W170 (Or.inl (List.mem_of_getElem? (i := 0) rfl))
    refine g_istoreN 94 rfl C X168 (0 : Int32) rfl #[.val (.ref b0), .val (.int p1), .val (.int (0 : Int32)), .val (.int ln)] d6_93 rfl ?_
    refine g_aloadN 95 rfl C X168 d6_94 rfl rfl ?_
    refine g_getF 98 rfl C X168 (host := "") (Or.inl (hw _ (List.mem_of_getElem? (i := 31) rfl))) Via.refl e169 F174 d6_95 fun T181 X182 e183 => ?_
    refine g_iloadN 99 rfl C X182 d6_98 rfl ?_
    refine g_iloadN 100 rfl C X182 d6_99 rfl ?_
    refine g_iastore 101 rfl C X182 e183 F176 0 (by decide) (by decide) p1 rfl d6_100 N171 g_k fun T184 h185 ls186 X187 e188 W189 B190 N191 => ?_
    have F192 := F173.wr W189
    have F193 := F172.other W189 (Or.inl (Nat.ne_of_lt lt_b0_k))
    have F194 := F174.other W189 (Or.inl (Nat.ne_of_lt lt_b0_k))
    have F195 := F175.other W189 (Or.inl (Nat.ne_of_lt lt_b0_k))
    have F196 := F177.other W189 (Nat.ne_of_gt lt_k_t)
    have F197 := F178.other W189 (Ne.symm ne111)
    have Zs198 := Nat.le_trans Zs179 (Nat.le_of_eq W189.size.symm)
    have Kp199 : Keep h0 h185 [b0, k, t] := Kp180.wr W189 (Or.inl (List.mem_of_getElem? (i := 1) rfl))
    refine g_aloadN 102 rfl C X187 d6_101 rfl rfl ?_
    refine g_getF 105 rfl C X187 (host := "") (Or.inl (hw _ (List.mem_of_getElem? (i := 34) rfl))) Via.refl e188 F195 d6_102 fun T200 X201 e202 => ?_
    refine g_iloadN 106 rfl C X201 d6_105 rfl ?_
    refine g_iloadN 107 rfl C X201 d6_106 rfl ?_
    refine g_iastore 108 rfl C X201 e202 F197 (i) hi (by omega) (0 : Int32) rfl d6_107 N191 gn113 fun T203 h204 ls205 X206 e207 W208 B209 N210 => ?_
    have F211 := F192.wr W208
    have F212 := F193.other W208 (Or.inl ne110)
    have F213 := F194.other W208 (Or.inl ne110)
    have F214 := F195.other W208 (Or.inl ne110)
    have F215 := B190.other W208 ne111
    have F216 := F196.other W208 ne112
    have Zs217 := Nat.le_trans Zs198 (Nat.le_of_eq W208.size.symm)
    have Kp218 : Keep h0 h204 [b0, k, t] := Kp199.wr W208 (Or.inr sz114)
    refine g_iloadN 109 rfl C X206 d6_108 rfl ?_
    exact g_retI C X206 rfl d6_109 e207 (by decide) (by decide) ⟨o105, nn, _, _, rfl, N210, Kp218, F211, F212, F213, F214, F215, B209, (by omega), (by omega), (hT2.upd i (by omega) _ 0 rfl _ hi), lt_k_a⟩
theorem ef_6_1 (m : MethodId) (b0 : Addr) (p1 : Int32) : entryFrame m #[(.ref b0), (.int p1)] 4 = mkF m 0 #[.val (.ref b0), .val (.int p1), .unset, .unset] [] := by first | (simp [entryFrame, mkF, argsToLocals, Value.category]; done) | rfl
def Q6_1 (Z : State) (b0 : Addr) (p1 : Int32) (k : Addr) (t : Addr) (n : Nat) (f : Nat → Int32) (fk : Nat → Int32) (i : Nat) (g : Int → Int) (h0 : Heap) (n0 : Nat) (v : Option Value) (h : Heap) (L : List Loc) : Prop := ∃ t' n' f' fk', v = some (.int 1) ∧ Fr n0 L ∧ Keep h0 h [b0, k, t] ∧ Exa Z h b0 "com/example/bisimulation/bisimulation/ccs/StateTable" ∧ Fld Z h b0 "com/example/bisimulation/bisimulation/ccs/StateTable" "size" "I" (.int ((1 : Int32) + (1 : Int32))) ∧ Fld Z h b0 "com/example/bisimulation/bisimulation/ccs/StateTable" "keys" "[I" (.ref k) ∧ Fld Z h b0 "com/example/bisimulation/bisimulation/ccs/StateTable" "stateOfKey" "[I" (.ref t') ∧ Ba Z h k .int 16 fk' ∧ Ba Z h t' .int n' f' ∧ 16 ≤ n' ∧ (n' ≤ 128 ∧ (n' ≤ 64 ∨ 16 < n)) ∧ Tb n' f' (gset g p1.toInt 1) ∧ k < t'
set_option maxRecDepth 65536 in
set_option maxHeartbeats 40000000 in
theorem rm6_1 (l : Launch) (Z : State) (a0 : Array Value) (hw : ∀ d ∈ tables_1, d.before a0 Z = true) (ws : List Jvm.Cond) (b0 : Addr) (p1 : Int32) (k : Addr) (t : Addr) (n : Nat) (f : Nat → Int32) (fk : Nat → Int32) (i : Nat) (g : Int → Int) (h0 : Heap) (n0 : Nat) (Z0 : n0 ≤ h0.size) (E_b0 : Exa Z h0 b0 "com/example/bisimulation/bisimulation/ccs/StateTable") (F_size : Fld Z h0 b0 "com/example/bisimulation/bisimulation/ccs/StateTable" "size" "I" (.int (1 : Int32))) (F_keys : Fld Z h0 b0 "com/example/bisimulation/bisimulation/ccs/StateTable" "keys" "[I" (.ref k)) (F_st : Fld Z h0 b0 "com/example/bisimulation/bisimulation/ccs/StateTable" "stateOfKey" "[I" (.ref t)) (B_k : Ba Z h0 k .int 16 fk) (B_t : Ba Z h0 t .int n f) (lt_b0_k : b0 < k) (lt_k_t : k < t) (g_b0 : n0 ≤ b0) (hi : p1.toInt = (i : Int)) (hi64 : i < 64) (hn16 : 16 ≤ n) (hn64 : n ≤ 64) (hT : Tb n f g) :
    MetFree l (⟨"com/example/bisimulation/bisimulation/ccs/StateTable", "add", "(I)I"⟩ : MethodName) (head1 (Jvm.Cond.code (⟨"com/example/bisimulation/bisimulation/ccs/StateTable", "add", "(I)I"⟩ : MethodName) prog_17_method_6_code 4 (some .int) :: ws) ({ frames := 2, cells := 1, slots := 128, locals := 33 } : Room)) (fun a U => a = #[(.ref b0), (.int p1)] ∧ Z.Warmed39 U.vm ∧ U.heap = h0) (fun _ _ _ _ _ => True) (fun _ U o U' => ∃ v L, o = .returned v ∧ Q6_1 Z b0 p1 k t n f fk i g h0 n0 v U'.heap L ∧ FrameEnd U o U' L ({ frames := 2, cells := 1, slots := 128, locals := 33 } : Room).cells ({ frames := 2, cells := 1, slots := 128, locals := 33 } : Room).slots) := by
  refine MetFree.of_bodySF (plainFor_of_name pn_31168043) hisR ?_
  intro p e s m args below meth c s₁ Bd hml0 hP hK
  obtain ⟨rfl, hZ, hh⟩ := hP
  have C : Ctx p s m meth c Z "com/example/bisimulation/bisimulation/ccs/StateTable" "add" prog_17_method_6_code 4 (some .int) := Ctx.of Bd hml0 hZ
  have X0 : Stand p l e ({ frames := 2, cells := 1, slots := 128, locals := 33 } : Room) s m #[(.ref b0), (.int p1)] below meth c s₁ [] 0 0 := Stand.of_body Bd
  have e0 : s₁.heap = h0 := by rw [← hh, Bd.state]; rfl
  have N0 := Fr.nil n0
  refine Goes.enter (ef_6_1 m b0 p1) ?_
  clear hK hml0 hh
  have g_k : n0 ≤ k := Nat.le_trans g_b0 (Nat.le_of_lt lt_b0_k)
  have g_t : n0 ≤ t := Nat.le_trans g_k (Nat.le_of_lt lt_k_t)
  obtain ⟨ln, hln⟩ : ∃ z : Int32, z.toInt = (n : Int) := ⟨n.toInt32, own_lenI (by omega)⟩
  refine g_aloadN 1 rfl C X0 d6_0 rfl rfl ?_
  refine g_getF 4 rfl C X0 (host := "") (Or.inl (hw _ (List.mem_of_getElem? (i := 43) rfl))) Via.refl e0 F_size d6_1 fun T1 X2 e3 => ?_
  refine g_aloadN 5 rfl C X2 d6_4 rfl rfl ?_
  refine g_getF 8 rfl C X2 (host := "") (Or.inl (hw _ (List.mem_of_getElem? (i := 31) rfl))) Via.refl e3 F_keys d6_5 fun T4 X5 e6 => ?_
  refine g_len 9 rfl C X5 e6 B_k (16 : Int32) rfl d6_8 ?_
  refine g_icmp_ne_t 30 C X5 d6_9 (by decide) (by decide) (by decide) ?_
  refine g_iloadN 31 rfl C X5 d6_30 rfl ?_
  refine g_aloadN 32 rfl C X5 d6_31 rfl rfl ?_
  refine g_getF 35 rfl C X5 (host := "") (Or.inl (hw _ (List.mem_of_getElem? (i := 34) rfl))) Via.refl e6 F_st d6_32 fun T7 X8 e9 => ?_
  refine g_len 36 rfl C X8 e9 B_t ln hln d6_35 ?_
  by_cases hb10 : p1.toInt < ln.toInt
  · skip
    refine g_icmp_lt_t 82 C X8 d6_36 (by decide) (by decide) hb10 ?_
    refine g_aloadN 83 rfl C X8 d6_82 rfl rfl ?_
    refine g_dup 84 rfl C X8 d6_83 rfl ?_
    refine g_getF 87 rfl C X8 (host := "") (Or.inl (hw _ (List.mem_of_getElem? (i := 43) rfl))) Via.refl e9 F_size d6_84 fun T11 X12 e13 => ?_
    refine g_dupX1 88 rfl C X12 d6_87 rfl rfl ?_
    refine g_iconst 89 rfl C X12 (1 : Int32) d6_88 rfl ?_
    refine g_iadd 90 rfl C X12 d6_89 ?_
    refine g_putF 93 rfl C X12 (host := "") (Or.inl (hw _ (List.mem_of_getElem? (i := 43) rfl))) Via.refl e13 F_size E_b0 (Or.inl (hw _ (List.mem_of_getElem? (i := 44) rfl))) (hw _ (List.mem_of_getElem? (i := 1) rfl)) (ty := .int) (by decide) rfl rfl d6_90 N0 g_b0 fun T14 h15 ls16 X17 e18 W19 N20 => ?_
    have F21 : Fld Z h15 b0 "com/example/bisimulation/bisimulation/ccs/StateTable" "size" "I" (.int ((1 : Int32) + (1 : Int32))) := F_size.same W19
    have F22 := E_b0.wr W19
    have F23 := F_keys.other W19 (Or.inr (slot_ne (Or.inl (hw _ (List.mem_of_getElem? (i := 32) rfl))) (Or.inl (hw _ (List.mem_of_getElem? (i := 44) rfl))) (by decide) (t := (.array .int)) (t' := .int) (by decide) (by decide)))
    have F24 := F_st.other W19 (Or.inr (slot_ne (Or.inl (hw _ (List.mem_of_getElem? (i := 35) rfl))) (Or.inl (hw _ (List.mem_of_getElem? (i := 44) rfl))) (by decide) (t := (.array .int)) (t' := .int) (by decide) (by decide)))
    have F25 := B_k.other W19 (Nat.ne_of_gt lt_b0_k)
    have F26 := B_t.other W19 (Nat.ne_of_gt (Nat.lt_trans lt_b0_k lt_k_t))
    have Zs27 := Nat.le_trans Z0 (Nat.le_of_eq W19.size.symm)
    have Kp28 : Keep h0 h15 [b0, k, t] := (Keep.refl h0 [b0, k, t]).wr W19 (Or.inl (List.mem_of_getElem? (i := 0) rfl))
    refine g_istoreN 94 rfl C X17 (1 : Int32) rfl #[.val (.ref b0), .val (.int p1), .val (.int (1 : Int32)), .unset] d6_93 rfl ?_
    refine g_aloadN 95 rfl C X17 d6_94 rfl rfl ?_
    refine g_getF 98 rfl C X17 (host := "") (Or.inl (hw _ (List.mem_of_getElem? (i := 31) rfl))) Via.refl e18 F23 d6_95 fun T29 X30 e31 => ?_
    refine g_iloadN 99 rfl C X30 d6_98 rfl ?_
    refine g_iloadN 100 rfl C X30 d6_99 rfl ?_
    refine g_iastore 101 rfl C X30 e31 F25 1 (by decide) (by decide) p1 rfl d6_100 N20 g_k fun T32 h33 ls34 X35 e36 W37 B38 N39 => ?_
    have F40 := F22.wr W37
    have F41 := F21.other W37 (Or.inl (Nat.ne_of_lt lt_b0_k))
    have F42 := F23.other W37 (Or.inl (Nat.ne_of_lt lt_b0_k))
    have F43 := F24.other W37 (Or.inl (Nat.ne_of_lt lt_b0_k))
    have F44 := F26.other W37 (Nat.ne_of_gt lt_k_t)
    have Zs45 := Nat.le_trans Zs27 (Nat.le_of_eq W37.size.symm)
    have Kp46 : Keep h0 h33 [b0, k, t] := Kp28.wr W37 (Or.inl (List.mem_of_getElem? (i := 1) rfl))
    refine g_aloadN 102 rfl C X35 d6_101 rfl rfl ?_
    refine g_getF 105 rfl C X35 (host := "") (Or.inl (hw _ (List.mem_of_getElem? (i := 34) rfl))) Via.refl e36 F43 d6_102 fun T47 X48 e49 => ?_
    refine g_iloadN 106 rfl C X48 d6_105 rfl ?_
    refine g_iloadN 107 rfl C X48 d6_106 rfl ?_
    refine g_iastore 108 rfl C X48 e49 F44 (i) hi (by omega) (1 : Int32) rfl d6_107 N39 g_t fun T50 h51 ls52 X53 e54 W55 B56 N57 => ?_
    have F58 := F40.wr W55
    have F59 := F41.other W55 (Or.inl (Nat.ne_of_lt (Nat.lt_trans lt_b0_k lt_k_t)))
    have F60 := F42.other W55 (Or.inl (Nat.ne_of_lt (Nat.lt_trans lt_b0_k lt_k_t)))
    have F61 := F43.other W55 (Or.inl (Nat.ne_of_lt (Nat.lt_trans lt_b0_k lt_k_t)))
    have F62 := B38.other W55 (Nat.ne_of_lt lt_k_t)
    have Zs63 := Nat.le_trans Zs45 (Nat.le_of_eq W55.size.symm)
    have Kp64 : Keep h0 h51 [b0, k, t] := Kp46.wr W55 (Or.inl (List.mem_of_getElem? (i := 2) rfl))
    refine g_iloadN 109 rfl C X53 d6_108 rfl ?_
    exact g_retI C X53 rfl d6_109 e54 (by decide) (by decide) ⟨t, n, _, _, rfl, N57, Kp64, F58, F59, F60, F61, F62, B56, (by omega), (by omega), (hT.upd i (by omega) _ 1 rfl _ hi), lt_k_t⟩
  · skip
    refine g_icmp_lt_f 39 rfl C X8 d6_36 hb10 ?_
    refine g_iloadN 40 rfl C X8 d6_39 rfl ?_
    refine g_iconst 41 rfl C X8 (1 : Int32) d6_40 rfl ?_
    refine g_iadd 42 rfl C X8 d6_41 ?_
    refine g_aloadN 43 rfl C X8 d6_42 rfl rfl ?_
    refine g_getF 46 rfl C X8 (host := "") (Or.inl (hw _ (List.mem_of_getElem? (i := 34) rfl))) Via.refl e9 F_st d6_43 fun T65 X66 e67 => ?_
    refine g_len 47 rfl C X66 e67 B_t ln hln d6_46 ?_
    refine g_callS 50 rfl C X66 (argsL := [(.int ln)]) (hw _ (List.mem_of_getElem? (i := 54) rfl)) (hw _ (List.mem_of_getElem? (i := 55) rfl)) (hw _ (List.mem_of_getElem? (i := 56) rfl)) (hw _ (List.mem_of_getElem? (i := 2) rfl)) e67 (rm9 l Z a0 hw [] ln h0 n0 Z0 (by omega)) (lenOf pd_52681284 rfl) (by decide) (by decide) (by decide) (by decide) rfl (W := 1) (Nat.le_of_eq rfl) (by decide) d6_47 rfl fun r68 T69 Lc70 X71 hQ72 => ?_
    obtain ⟨r73, rfl, hs74, Nq75, eh76⟩ := hQ72
    have N77 := Fr.app N0 Nq75
    show Goes _ _ _ _ _ _ 50 _ [(.int r73), (.int (p1 + (1 : Int32)))]
    refine g_callS 53 rfl C X71 (argsL := [(.int (p1 + (1 : Int32))), (.int r73)]) (hw _ (List.mem_of_getElem? (i := 64) rfl)) (hw _ (List.mem_of_getElem? (i := 65) rfl)) (hw _ (List.mem_of_getElem? (i := 66) rfl)) (hw _ (List.mem_of_getElem? (i := 62) rfl)) eh76 (rm11 l Z a0 hw [] (p1 + (1 : Int32)) r73 h0 n0 Z0) (lenOf pd_1793237 rfl) (by decide) (by decide) (by decide) (by decide) rfl (W := 0) (Nat.le_of_eq rfl) (by decide) d6_50 rfl fun r78 T79 Lc80 X81 hQ82 => ?_
    obtain ⟨r83, rfl, hs84, Nq85, eh86⟩ := hQ82
    have N87 := Fr.app N77 Nq85
    show Goes _ _ _ _ _ _ 53 _ [(.int r83)]
    refine g_istoreN 54 rfl C X81 r83 rfl #[.val (.ref b0), .val (.int p1), .val (.int r83), .unset] d6_53 rfl ?_
    refine g_aloadN 55 rfl C X81 d6_54 rfl rfl ?_
    refine g_getF 58 rfl C X81 (host := "") (Or.inl (hw _ (List.mem_of_getElem? (i := 34) rfl))) Via.refl eh86 F_st d6_55 fun T88 X89 e90 => ?_
    refine g_len 59 rfl C X89 e90 B_t ln hln d6_58 ?_
    refine g_istoreN 60 rfl C X89 ln rfl #[.val (.ref b0), .val (.int p1), .val (.int r83), .val (.int ln)] d6_59 rfl ?_
    refine g_aloadN 61 rfl C X89 d6_60 rfl rfl ?_
    refine g_aloadN 62 rfl C X89 d6_61 rfl rfl ?_
    refine g_getF 65 rfl C X89 (host := "") (Or.inl (hw _ (List.mem_of_getElem? (i := 34) rfl))) Via.refl e90 F_st d6_62 fun T91 X92 e93 => ?_
    refine g_iloadN 66 rfl C X92 d6_65 rfl ?_
    have hq94 : (n : Int) < r83.toInt ∧ r83.toInt ≤ 128 ∧ (i : Int) < r83.toInt ∧ (r83.toInt ≤ 64 ∨ 16 < n) := by
      have fr95 := rng32 r83
      have fr96 := rng32 p1
      have fc97 : (1 : Int32).toInt = 1 := rfl
      have fo98 := c_iadd p1 (1 : Int32)
      have fr99 := rng32 (p1 + (1 : Int32))
      omega
    obtain ⟨nn, hnn⟩ : ∃ n : Nat, r83.toInt = (n : Int) := ⟨r83.toInt.toNat, by omega⟩
    refine g_callS 69 rfl C X92 (argsL := [(.ref t), (.int r83)]) (hw _ (List.mem_of_getElem? (i := 67) rfl)) (hw _ (List.mem_of_getElem? (i := 68) rfl)) (hw _ (List.mem_of_getElem? (i := 69) rfl)) (hw _ (List.mem_of_getElem? (i := 25) rfl)) e93 (rm12 l Z a0 hw [] t r83 f n nn h0 n0 Z0 B_t hnn (by omega) (by omega)) (lenOf pd_75955629 rfl) (by decide) (by decide) (by decide) (by decide) rfl (W := 1) (Nat.le_of_eq rfl) (by decide) d6_66 rfl fun r100 T101 Lc102 X103 hQ104 => ?_
    obtain ⟨o105, rfl, Nq106, Kc107, sz108, B109⟩ := hQ104
    have lt_k_a : k < o105 := Nat.lt_of_lt_of_le B_k.lt sz108
    have ne110 : b0 ≠ o105 := Nat.ne_of_lt (Nat.lt_of_lt_of_le E_b0.lt sz108)
    have ne111 : k ≠ o105 := Nat.ne_of_lt (Nat.lt_of_lt_of_le B_k.lt sz108)
    have ne112 : t ≠ o105 := Nat.ne_of_lt (Nat.lt_of_lt_of_le B_t.lt sz108)
    have gn113 : n0 ≤ o105 := Nat.le_trans Z0 sz108
    have sz114 : h0.size ≤ o105 := Nat.le_trans (Keep.refl h0 [b0, k, t]).1 sz108
    have F115 := E_b0.keep Kc107
    have F116 := F_size.keep Kc107 nin0
    have F117 := F_keys.keep Kc107 nin0
    have F118 := F_st.keep Kc107 nin0
    have F119 := B_k.keep Kc107 nin0
    have F120 := B_t.keep Kc107 nin0
    have Zs121 := Nat.le_trans Z0 Kc107.1
    have Kp122 : Keep h0 T101.heap [b0, k, t] := Keep.trans (Keep.refl h0 [b0, k, t]) Kc107 all0
    have N123 := Fr.app N87 Nq106
    show Goes _ _ _ _ _ _ 69 _ [(.ref o105), (.ref b0)]
    refine g_putF 72 rfl C X103 (host := "") (Or.inl (hw _ (List.mem_of_getElem? (i := 34) rfl))) Via.refl rfl F118 F115 (Or.inl (hw _ (List.mem_of_getElem? (i := 35) rfl))) (hw _ (List.mem_of_getElem? (i := 1) rfl)) (ty := (.array .int)) (by decide) rfl rfl d6_69 N123 g_b0 fun T124 h125 ls126 X127 e128 W129 N130 => ?_
    have F131 : Fld Z h125 b0 "com/example/bisimulation/bisimulation/ccs/StateTable" "stateOfKey" "[I" (.ref o105) := F118.same W129
    have F132 := F115.wr W129
    have F133 := F116.other W129 (Or.inr (slot_ne (Or.inl (hw _ (List.mem_of_getElem? (i := 44) rfl))) (Or.inl (hw _ (List.mem_of_getElem? (i := 35) rfl))) (by decide) (t := .int) (t' := (.array .int)) (by decide) (by decide)))
    have F134 := F117.other W129 (Or.inr (slot_ne (Or.inl (hw _ (List.mem_of_getElem? (i := 32) rfl))) (Or.inl (hw _ (List.mem_of_getElem? (i := 35) rfl))) (by decide) (t := (.array .int)) (t' := (.array .int)) (by decide) (by decide)))
    have F135 := F119.other W129 (Nat.ne_of_gt lt_b0_k)
    have F136 := F120.other W129 (Nat.ne_of_gt (Nat.lt_trans lt_b0_k lt_k_t))
    have F137 := B109.other W129 (Ne.symm ne110)
    have Zs138 := Nat.le_trans Zs121 (Nat.le_of_eq W129.size.symm)
    have Kp139 : Keep h0 h125 [b0, k, t] := Kp122.wr W129 (Or.inl (List.mem_of_getElem? (i := 0) rfl))
    refine g_aloadN 73 rfl C X127 d6_72 rfl rfl ?_
    refine g_getF 76 rfl C X127 (host := "") (Or.inl (hw _ (List.mem_of_getElem? (i := 34) rfl))) Via.refl e128 F131 d6_73 fun T140 X141 e142 => ?_
    refine g_iloadN 77 rfl C X141 d6_76 rfl ?_
    refine g_iloadN 78 rfl C X141 d6_77 rfl ?_
    refine g_iconst 79 rfl C X141 (-1 : Int32) d6_78 rfl ?_
    refine g_callS 82 rfl C X141 (argsL := [(.ref o105), (.int ln), (.int r83), (.int (-1 : Int32))]) (hw _ (List.mem_of_getElem? (i := 77) rfl)) (hw _ (List.mem_of_getElem? (i := 78) rfl)) (hw _ (List.mem_of_getElem? (i := 79) rfl)) (hw _ (List.mem_of_getElem? (i := 25) rfl)) e142 (rm14 l Z a0 hw [] o105 ln r83 (-1 : Int32) (cpy (fun _ => 0) f 0 0 n) nn n nn h125 n0 Zs138 F137 hln hnn (by omega) (Nat.le_refl _) (by omega) gn113) (lenOf pd_21813307 rfl) (by decide) (by decide) (by decide) (by decide) rfl (W := 0) (Nat.le_of_eq rfl) (by decide) d6_79 rfl fun r143 T144 Lc145 X146 hQ147 => ?_
    obtain ⟨rfl, f148, hf149, Nq150, Kc151, B152⟩ := hQ147
    have F153 := F132.keep Kc151
    have F154 := F133.keep Kc151 (ninS ne110 nin0)
    have F155 := F134.keep Kc151 (ninS ne110 nin0)
    have F156 := F131.keep Kc151 (ninS ne110 nin0)
    have F157 := F135.keep Kc151 (ninS ne111 nin0)
    have F158 := F136.keep Kc151 (ninS ne112 nin0)
    have Zs159 := Nat.le_trans Zs138 Kc151.1
    have Kp160 : Keep h0 T144.heap [b0, k, t] := Keep.trans Kp139 Kc151 (allS (Or.inr sz114) all0)
    have hT2 : Tb nn f148 g := hT.grown (by omega) hf149
    have N161 := Fr.app N130 Nq150
    show Goes _ _ _ _ _ _ 82 _ []
    refine g_aloadN 83 rfl C X146 d6_82 rfl rfl ?_
    refine g_dup 84 rfl C X146 d6_83 rfl ?_
    refine g_getF 87 rfl C X146 (host := "") (Or.inl (hw _ (List.mem_of_getElem? (i := 43) rfl))) Via.refl rfl F154 d6_84 fun T162 X163 e164 => ?_
    refine g_dupX1 88 rfl C X163 d6_87 rfl rfl ?_
    refine g_iconst 89 rfl C X163 (1 : Int32) d6_88 rfl ?_
    refine g_iadd 90 rfl C X163 d6_89 ?_
    refine g_putF 93 rfl C X163 (host := "") (Or.inl (hw _ (List.mem_of_getElem? (i := 43) rfl))) Via.refl e164 F154 F153 (Or.inl (hw _ (List.mem_of_getElem? (i := 44) rfl))) (hw _ (List.mem_of_getElem? (i := 1) rfl)) (ty := .int) (by decide) rfl rfl d6_90 N161 g_b0 fun T165 h166 ls167 X168 e169 W170 N171 => ?_
    have F172 : Fld Z h166 b0 "com/example/bisimulation/bisimulation/ccs/StateTable" "size" "I" (.int ((1 : Int32) + (1 : Int32))) := F154.same W170
    have F173 := F153.wr W170
    have F174 := F155.other W170 (Or.inr (slot_ne (Or.inl (hw _ (List.mem_of_getElem? (i := 32) rfl))) (Or.inl (hw _ (List.mem_of_getElem? (i := 44) rfl))) (by decide) (t := (.array .int)) (t' := .int) (by decide) (by decide)))
    have F175 := F156.other W170 (Or.inr (slot_ne (Or.inl (hw _ (List.mem_of_getElem? (i := 35) rfl))) (Or.inl (hw _ (List.mem_of_getElem? (i := 44) rfl))) (by decide) (t := (.array .int)) (t' := .int) (by decide) (by decide)))
    have F176 := F157.other W170 (Nat.ne_of_gt lt_b0_k)
    have F177 := F158.other W170 (Nat.ne_of_gt (Nat.lt_trans lt_b0_k lt_k_t))
    have F178 := B152.other W170 (Ne.symm ne110)
    have Zs179 := Nat.le_trans Zs159 (Nat.le_of_eq W170.size.symm)
    have Kp180 : Keep h0 h166 [b0, k, t] := Kp160.wr W170 (Or.inl (List.mem_of_getElem? (i := 0) rfl))
    refine g_istoreN 94 rfl C X168 (1 : Int32) rfl #[.val (.ref b0), .val (.int p1), .val (.int (1 : Int32)), .val (.int ln)] d6_93 rfl ?_
    refine g_aloadN 95 rfl C X168 d6_94 rfl rfl ?_
    refine g_getF 98 rfl C X168 (host := "") (Or.inl (hw _ (List.mem_of_getElem? (i := 31) rfl))) Via.refl e169 F174 d6_95 fun T181 X182 e183 => ?_
    refine g_iloadN 99 rfl C X182 d6_98 rfl ?_
    refine g_iloadN 100 rfl C X182 d6_99 rfl ?_
    refine g_iastore 101 rfl C X182 e183 F176 1 (by decide) (by decide) p1 rfl d6_100 N171 g_k fun T184 h185 ls186 X187 e188 W189 B190 N191 => ?_
    have F192 := F173.wr W189
    have F193 := F172.other W189 (Or.inl (Nat.ne_of_lt lt_b0_k))
    have F194 := F174.other W189 (Or.inl (Nat.ne_of_lt lt_b0_k))
    have F195 := F175.other W189 (Or.inl (Nat.ne_of_lt lt_b0_k))
    have F196 := F177.other W189 (Nat.ne_of_gt lt_k_t)
    have F197 := F178.other W189 (Ne.symm ne111)
    have Zs198 := Nat.le_trans Zs179 (Nat.le_of_eq W189.size.symm)
    have Kp199 : Keep h0 h185 [b0, k, t] := Kp180.wr W189 (Or.inl (List.mem_of_getElem? (i := 1) rfl))
    refine g_aloadN 102 rfl C X187 d6_101 rfl rfl ?_
    refine g_getF 105 rfl C X187 (host := "") (Or.inl (hw _ (List.mem_of_getElem? (i := 34) rfl))) Via.refl e188 F195 d6_102 fun T200 X201 e202 => ?_
    refine g_iloadN 106 rfl C X201 d6_105 rfl ?_
    refine g_iloadN 107 rfl C X201 d6_106 rfl ?_
    refine g_iastore 108 rfl C X201 e202 F197 (i) hi (by omega) (1 : Int32) rfl d6_107 N191 gn113 fun T203 h204 ls205 X206 e207 W208 B209 N210 => ?_
    have F211 := F192.wr W208
    have F212 := F193.other W208 (Or.inl ne110)
    have F213 := F194.other W208 (Or.inl ne110)
    have F214 := F195.other W208 (Or.inl ne110)
    have F215 := B190.other W208 ne111
    have F216 := F196.other W208 ne112
    have Zs217 := Nat.le_trans Zs198 (Nat.le_of_eq W208.size.symm)
    have Kp218 : Keep h0 h204 [b0, k, t] := Kp199.wr W208 (Or.inr sz114)
    refine g_iloadN 109 rfl C X206 d6_108 rfl ?_
    exact g_retI C X206 rfl d6_109 e207 (by decide) (by decide) ⟨o105, nn, _, _, rfl, N210, Kp218, F211, F212, F213, F214, F215, B209, (by omega), (by omega), (hT2.upd i (by omega) _ 1 rfl _ hi), lt_k_a⟩
theorem d7_0 : decode prog_17_method_5_code 0 = .ok (.iload_n 1, 1) := by decide +kernel
theorem d7_1 : decode prog_17_method_5_code 1 = .ok (.aload_n 0, 1) := by decide +kernel
theorem d7_2 : decode prog_17_method_5_code 2 = .ok (.getfield 26, 3) := by decide +kernel
theorem d7_5 : decode prog_17_method_5_code 5 = .ok (.arraylength, 1) := by decide +kernel
theorem d7_6 : decode prog_17_method_5_code 6 = .ok (.if_icmp .ge 12, 3) := by decide +kernel
theorem d7_9 : decode prog_17_method_5_code 9 = .ok (.aload_n 0, 1) := by decide +kernel
theorem d7_10 : decode prog_17_method_5_code 10 = .ok (.getfield 26, 3) := by decide +kernel
theorem d7_13 : decode prog_17_method_5_code 13 = .ok (.iload_n 1, 1) := by decide +kernel
theorem d7_14 : decode prog_17_method_5_code 14 = .ok (.iaload, 1) := by decide +kernel
theorem d7_15 : decode prog_17_method_5_code 15 = .ok (.goto 4, 3) := by decide +kernel
theorem d7_19 : decode prog_17_method_5_code 19 = .ok (.ireturn, 1) := by decide +kernel
theorem d7_18 : decode prog_17_method_5_code 18 = .ok (.iconst (-1), 1) := by decide +kernel
theorem ef_7 (m : MethodId) (b0 : Addr) (p1 : Int32) : entryFrame m #[(.ref b0), (.int p1)] 2 = mkF m 0 #[.val (.ref b0), .val (.int p1)] [] := by first | (simp [entryFrame, mkF, argsToLocals, Value.category]; done) | rfl
def Q7 (Z : State) (b0 : Addr) (p1 : Int32) (t : Addr) (n : Nat) (f : Nat → Int32) (g : Int → Int) (h0 : Heap) (n0 : Nat) (v : Option Value) (h : Heap) (L : List Loc) : Prop := ∃ r : Int32, v = some (.int r) ∧ (r.toInt = g p1.toInt) ∧ Fr n0 L ∧ h = h0
set_option maxRecDepth 65536 in
set_option maxHeartbeats 40000000 in
theorem rm7 (l : Launch) (Z : State) (a0 : Array Value) (hw : ∀ d ∈ tables_1, d.before a0 Z = true) (ws : List Jvm.Cond) (b0 : Addr) (p1 : Int32) (t : Addr) (n : Nat) (f : Nat → Int32) (g : Int → Int) (h0 : Heap) (n0 : Nat) (Z0 : n0 ≤ h0.size) (F_st : Fld Z h0 b0 "com/example/bisimulation/bisimulation/ccs/StateTable" "stateOfKey" "[I" (.ref t)) (B_t : Ba Z h0 t .int n f) (hn : n ≤ 128) (hp : 0 ≤ p1.toInt) (hT : Tb n f g) :
    MetFree l (⟨"com/example/bisimulation/bisimulation/ccs/StateTable", "find", "(I)I"⟩ : MethodName) (head1 (Jvm.Cond.code (⟨"com/example/bisimulation/bisimulation/ccs/StateTable", "find", "(I)I"⟩ : MethodName) prog_17_method_5_code 2 (some .int) :: ws) ({ frames := 0, cells := 0, slots := 0, locals := 0 } : Room)) (fun a U => a = #[(.ref b0), (.int p1)] ∧ Z.Warmed39 U.vm ∧ U.heap = h0) (fun _ _ _ _ _ => True) (fun _ U o U' => ∃ v L, o = .returned v ∧ Q7 Z b0 p1 t n f g h0 n0 v U'.heap L ∧ FrameEnd U o U' L ({ frames := 0, cells := 0, slots := 0, locals := 0 } : Room).cells ({ frames := 0, cells := 0, slots := 0, locals := 0 } : Room).slots) := by
  refine MetFree.of_bodySF (plainFor_of_name pn_31168043) hisR ?_
  intro p e s m args below meth c s₁ Bd hml0 hP hK
  obtain ⟨rfl, hZ, hh⟩ := hP
  have C : Ctx p s m meth c Z "com/example/bisimulation/bisimulation/ccs/StateTable" "find" prog_17_method_5_code 2 (some .int) := Ctx.of Bd hml0 hZ
  have X0 : Stand p l e ({ frames := 0, cells := 0, slots := 0, locals := 0 } : Room) s m #[(.ref b0), (.int p1)] below meth c s₁ [] 0 0 := Stand.of_body Bd
  have e0 : s₁.heap = h0 := by rw [← hh, Bd.state]; rfl
  have N0 := Fr.nil n0
  refine Goes.enter (ef_7 m b0 p1) ?_
  clear hK hml0 hh
  obtain ⟨ln, hln⟩ : ∃ z : Int32, z.toInt = (n : Int) := ⟨n.toInt32, own_lenI (by omega)⟩
  obtain ⟨i, hi⟩ : ∃ n : Nat, p1.toInt = (n : Int) := ⟨p1.toInt.toNat, by omega⟩
  refine g_iloadN 1 rfl C X0 d7_0 rfl ?_
  refine g_aloadN 2 rfl C X0 d7_1 rfl rfl ?_
  refine g_getF 5 rfl C X0 (host := "") (Or.inl (hw _ (List.mem_of_getElem? (i := 34) rfl))) Via.refl e0 F_st d7_2 fun T1 X2 e3 => ?_
  refine g_len 6 rfl C X2 e3 B_t ln hln d7_5 ?_
  by_cases hb4 : p1.toInt < ln.toInt
  · skip
    refine g_icmp_ge_f 9 rfl C X2 d7_6 hb4 ?_
    refine g_aloadN 10 rfl C X2 d7_9 rfl rfl ?_
    refine g_getF 13 rfl C X2 (host := "") (Or.inl (hw _ (List.mem_of_getElem? (i := 34) rfl))) Via.refl e3 F_st d7_10 fun T5 X6 e7 => ?_
    refine g_iloadN 14 rfl C X6 d7_13 rfl ?_
    refine g_iaload 15 rfl C X6 e7 B_t (i) hi (by omega) (f i) rfl d7_14 ?_
    refine g_goto 19 C X6 d7_15 (by decide) (by decide) ?_
    have hl8 : (f i).toInt = g p1.toInt := by rw [hi]; exact hT.1 i (by omega)
    exact g_retI C X6 rfl d7_19 e7 (by decide) (by decide) ⟨_, rfl, hl8, N0, rfl⟩
  · skip
    refine g_icmp_ge_t 18 C X2 d7_6 (by decide) (by decide) hb4 ?_
    refine g_iconst 19 rfl C X2 (-1 : Int32) d7_18 rfl ?_
    have hl9 : (-1 : Int32).toInt = g p1.toInt := (hT.2 _ (by omega)).symm
    exact g_retI C X2 rfl d7_19 e3 (by decide) (by decide) ⟨_, rfl, hl9, N0, rfl⟩
theorem d8_0 : decode method_2_code 0 = .ok (.iload_n 0, 1) := by decide +kernel
theorem d8_1 : decode method_2_code 1 = .ok (.iconst 1, 1) := by decide +kernel
theorem d8_2 : decode method_2_code 2 = .ok (.if_icmp .lt 10, 3) := by decide +kernel
theorem d8_12 : decode method_2_code 12 = .ok (.iload_n 0, 1) := by decide +kernel
theorem d8_13 : decode method_2_code 13 = .ok (.iconst 2, 1) := by decide +kernel
theorem d8_14 : decode method_2_code 14 = .ok (.if_icmp .lt 10, 3) := by decide +kernel
theorem d8_24 : decode method_2_code 24 = .ok (.iconst (-1), 1) := by decide +kernel
theorem d8_25 : decode method_2_code 25 = .ok (.ireturn, 1) := by decide +kernel
theorem d8_17 : decode method_2_code 17 = .ok (.iload_n 3, 1) := by decide +kernel
theorem d8_18 : decode method_2_code 18 = .ok (.iload_n 2, 1) := by decide +kernel
theorem d8_19 : decode method_2_code 19 = .ok (.if_icmp .ne 5, 3) := by decide +kernel
theorem d8_22 : decode method_2_code 22 = .ok (.iconst 1, 1) := by decide +kernel
theorem d8_23 : decode method_2_code 23 = .ok (.ireturn, 1) := by decide +kernel
theorem d8_5 : decode method_2_code 5 = .ok (.iload_n 3, 1) := by decide +kernel
theorem d8_6 : decode method_2_code 6 = .ok (.iload_n 1, 1) := by decide +kernel
theorem d8_7 : decode method_2_code 7 = .ok (.if_icmp .ne 5, 3) := by decide +kernel
theorem d8_10 : decode method_2_code 10 = .ok (.iconst 0, 1) := by decide +kernel
theorem d8_11 : decode method_2_code 11 = .ok (.ireturn, 1) := by decide +kernel
theorem pn_51971461 : plainName "com/example/bisimulation/bisimulation/ccs/StateTableFindPinLaw" = true := by first | (simp [plainName, overriddenIn]; done) | decide +kernel
theorem ef_8 (m : MethodId) (p0 : Int32) (p1 : Int32) (p2 : Int32) (p3 : Int32) : entryFrame m #[(.int p0), (.int p1), (.int p2), (.int p3)] 4 = mkF m 0 #[.val (.int p0), .val (.int p1), .val (.int p2), .val (.int p3)] [] := by first | (simp [entryFrame, mkF, argsToLocals, Value.category]; done) | rfl
def Q8 (Z : State) (p0 : Int32) (p1 : Int32) (p2 : Int32) (p3 : Int32) (h0 : Heap) (n0 : Nat) (v : Option Value) (h : Heap) (L : List Loc) : Prop := ∃ r : Int32, v = some (.int r) ∧ (r.toInt = own_tab p0.toInt p1.toInt p2.toInt p3.toInt) ∧ Fr n0 L ∧ h = h0
set_option maxRecDepth 65536 in
set_option maxHeartbeats 40000000 in
theorem rm8 (l : Launch) (Z : State) (a0 : Array Value) (hw : ∀ d ∈ tables_1, d.before a0 Z = true) (ws : List Jvm.Cond) (p0 : Int32) (p1 : Int32) (p2 : Int32) (p3 : Int32) (h0 : Heap) (n0 : Nat) (Z0 : n0 ≤ h0.size) :
    MetFree l (⟨"com/example/bisimulation/bisimulation/ccs/StateTableFindPinLaw", "expected", "(IIII)I"⟩ : MethodName) (head1 (Jvm.Cond.code (⟨"com/example/bisimulation/bisimulation/ccs/StateTableFindPinLaw", "expected", "(IIII)I"⟩ : MethodName) method_2_code 4 (some .int) :: ws) ({ frames := 0, cells := 0, slots := 0, locals := 0 } : Room)) (fun a U => a = #[(.int p0), (.int p1), (.int p2), (.int p3)] ∧ Z.Warmed39 U.vm ∧ U.heap = h0) (fun _ _ _ _ _ => True) (fun _ U o U' => ∃ v L, o = .returned v ∧ Q8 Z p0 p1 p2 p3 h0 n0 v U'.heap L ∧ FrameEnd U o U' L ({ frames := 0, cells := 0, slots := 0, locals := 0 } : Room).cells ({ frames := 0, cells := 0, slots := 0, locals := 0 } : Room).slots) := by
  refine MetFree.of_bodySF (plainFor_of_name pn_51971461) hisR ?_
  intro p e s m args below meth c s₁ Bd hml0 hP hK
  obtain ⟨rfl, hZ, hh⟩ := hP
  have C : Ctx p s m meth c Z "com/example/bisimulation/bisimulation/ccs/StateTableFindPinLaw" "expected" method_2_code 4 (some .int) := Ctx.of Bd hml0 hZ
  have X0 : Stand p l e ({ frames := 0, cells := 0, slots := 0, locals := 0 } : Room) s m #[(.int p0), (.int p1), (.int p2), (.int p3)] below meth c s₁ [] 0 0 := Stand.of_body Bd
  have e0 : s₁.heap = h0 := by rw [← hh, Bd.state]; rfl
  have N0 := Fr.nil n0
  refine Goes.enter (ef_8 m p0 p1 p2 p3) ?_
  clear hK hml0 hh
  refine g_iloadN 1 rfl C X0 d8_0 rfl ?_
  refine g_iconst 2 rfl C X0 (1 : Int32) d8_1 rfl ?_
  by_cases hb1 : p0.toInt < (1 : Int32).toInt
  · skip
    refine g_icmp_lt_t 12 C X0 d8_2 (by decide) (by decide) hb1 ?_
    refine g_iloadN 13 rfl C X0 d8_12 rfl ?_
    refine g_iconst 14 rfl C X0 (2 : Int32) d8_13 rfl ?_
    by_cases hb2 : p0.toInt < (2 : Int32).toInt
    · skip
      refine g_icmp_lt_t 24 C X0 d8_14 (by decide) (by decide) hb2 ?_
      refine g_iconst 25 rfl C X0 (-1 : Int32) d8_24 rfl ?_
      have hq3 : (-1 : Int32).toInt = own_tab p0.toInt p1.toInt p2.toInt p3.toInt := by
        have fr4 := rng32 p0
        have fc5 : (1 : Int32).toInt = 1 := rfl
        have fc6 : (2 : Int32).toInt = 2 := rfl
        have fc7 : (-1 : Int32).toInt = -1 := rfl
        simp only [own_tab]; (repeat' split) <;> omega
      exact g_retI C X0 rfl d8_25 e0 (by decide) (by decide) ⟨_, rfl, hq3, N0, rfl⟩
    · skip
      refine g_icmp_lt_f 17 rfl C X0 d8_14 hb2 ?_
      refine g_iloadN 18 rfl C X0 d8_17 rfl ?_
      refine g_iloadN 19 rfl C X0 d8_18 rfl ?_
      by_cases hb8 : p3.toInt = p2.toInt
      · skip
        refine g_icmp_ne_f 22 rfl C X0 d8_19 hb8 ?_
        refine g_iconst 23 rfl C X0 (1 : Int32) d8_22 rfl ?_
        have hq9 : (1 : Int32).toInt = own_tab p0.toInt p1.toInt p2.toInt p3.toInt := by
          have fr10 := rng32 p0
          have fc11 : (1 : Int32).toInt = 1 := rfl
          have fc12 : (2 : Int32).toInt = 2 := rfl
          have fr13 := rng32 p3
          have fr14 := rng32 p2
          simp only [own_tab]; (repeat' split) <;> omega
        exact g_retI C X0 rfl d8_23 e0 (by decide) (by decide) ⟨_, rfl, hq9, N0, rfl⟩
      · skip
        refine g_icmp_ne_t 24 C X0 d8_19 (by decide) (by decide) hb8 ?_
        refine g_iconst 25 rfl C X0 (-1 : Int32) d8_24 rfl ?_
        have hq15 : (-1 : Int32).toInt = own_tab p0.toInt p1.toInt p2.toInt p3.toInt := by
          have fr16 := rng32 p0
          have fc17 : (1 : Int32).toInt = 1 := rfl
          have fc18 : (2 : Int32).toInt = 2 := rfl
          have fr19 := rng32 p3
          have fr20 := rng32 p2
          have fc21 : (-1 : Int32).toInt = -1 := rfl
          simp only [own_tab]; (repeat' split) <;> omega
        exact g_retI C X0 rfl d8_25 e0 (by decide) (by decide) ⟨_, rfl, hq15, N0, rfl⟩
  · skip
    refine g_icmp_lt_f 5 rfl C X0 d8_2 hb1 ?_
    refine g_iloadN 6 rfl C X0 d8_5 rfl ?_
    refine g_iloadN 7 rfl C X0 d8_6 rfl ?_
    by_cases hb22 : p3.toInt = p1.toInt
    · skip
      refine g_icmp_ne_f 10 rfl C X0 d8_7 hb22 ?_
      refine g_iconst 11 rfl C X0 (0 : Int32) d8_10 rfl ?_
      have hq23 : (0 : Int32).toInt = own_tab p0.toInt p1.toInt p2.toInt p3.toInt := by
        have fr24 := rng32 p0
        have fc25 : (1 : Int32).toInt = 1 := rfl
        have fr26 := rng32 p3
        have fr27 := rng32 p1
        have fc28 : (0 : Int32).toInt = 0 := rfl
        simp only [own_tab]; (repeat' split) <;> omega
      exact g_retI C X0 rfl d8_11 e0 (by decide) (by decide) ⟨_, rfl, hq23, N0, rfl⟩
    · skip
      refine g_icmp_ne_t 12 C X0 d8_7 (by decide) (by decide) hb22 ?_
      refine g_iloadN 13 rfl C X0 d8_12 rfl ?_
      refine g_iconst 14 rfl C X0 (2 : Int32) d8_13 rfl ?_
      by_cases hb29 : p0.toInt < (2 : Int32).toInt
      · skip
        refine g_icmp_lt_t 24 C X0 d8_14 (by decide) (by decide) hb29 ?_
        refine g_iconst 25 rfl C X0 (-1 : Int32) d8_24 rfl ?_
        have hq30 : (-1 : Int32).toInt = own_tab p0.toInt p1.toInt p2.toInt p3.toInt := by
          have fr31 := rng32 p0
          have fc32 : (1 : Int32).toInt = 1 := rfl
          have fr33 := rng32 p3
          have fr34 := rng32 p1
          have fc35 : (2 : Int32).toInt = 2 := rfl
          have fc36 : (-1 : Int32).toInt = -1 := rfl
          simp only [own_tab]; (repeat' split) <;> omega
        exact g_retI C X0 rfl d8_25 e0 (by decide) (by decide) ⟨_, rfl, hq30, N0, rfl⟩
      · skip
        refine g_icmp_lt_f 17 rfl C X0 d8_14 hb29 ?_
        refine g_iloadN 18 rfl C X0 d8_17 rfl ?_
        refine g_iloadN 19 rfl C X0 d8_18 rfl ?_
        by_cases hb37 : p3.toInt = p2.toInt
        · skip
          refine g_icmp_ne_f 22 rfl C X0 d8_19 hb37 ?_
          refine g_iconst 23 rfl C X0 (1 : Int32) d8_22 rfl ?_
          have hq38 : (1 : Int32).toInt = own_tab p0.toInt p1.toInt p2.toInt p3.toInt := by
            have fr39 := rng32 p0
            have fc40 : (1 : Int32).toInt = 1 := rfl
            have fr41 := rng32 p3
            have fr42 := rng32 p1
            have fc43 : (2 : Int32).toInt = 2 := rfl
            have fr44 := rng32 p2
            simp only [own_tab]; (repeat' split) <;> omega
          exact g_retI C X0 rfl d8_23 e0 (by decide) (by decide) ⟨_, rfl, hq38, N0, rfl⟩
        · skip
          refine g_icmp_ne_t 24 C X0 d8_19 (by decide) (by decide) hb37 ?_
          refine g_iconst 25 rfl C X0 (-1 : Int32) d8_24 rfl ?_
          have hq45 : (-1 : Int32).toInt = own_tab p0.toInt p1.toInt p2.toInt p3.toInt := by
            have fr46 := rng32 p0
            have fc47 : (1 : Int32).toInt = 1 := rfl
            have fr48 := rng32 p3
            have fr49 := rng32 p1
            have fc50 : (2 : Int32).toInt = 2 := rfl
            have fr51 := rng32 p2
            have fc52 : (-1 : Int32).toInt = -1 := rfl
            simp only [own_tab]; (repeat' split) <;> omega
          exact g_retI C X0 rfl d8_25 e0 (by decide) (by decide) ⟨_, rfl, hq45, N0, rfl⟩
theorem pd_52681297 : parseMethodDescriptor "(I)V" = some ⟨[.int], none⟩ := by decide +kernel
theorem pd_45684513 : parseMethodDescriptor "(IIII)I" = some ⟨[.int, .int, .int, .int], some .int⟩ := by decide +kernel
theorem ef_0 (m : MethodId) (p0 : Int32) (p1 : Int32) (p2 : Int32) (p3 : Int32) : entryFrame m #[(.int p0), (.int p1), (.int p2), (.int p3)] maxLocals = mkF m 0 #[.val (.int p0), .val (.int p1), .val (.int p2), .val (.int p3), .unset, .unset, .unset, .unset, .unset, .unset, .unset, .unset] [] := by first | (simp [entryFrame, mkF, argsToLocals, Value.category, maxLocals]; done) | rfl
def Q0 (Z : State) (p0 : Int32) (p1 : Int32) (p2 : Int32) (p3 : Int32) (h0 : Heap) (n0 : Nat) (v : Option Value) (h : Heap) (L : List Loc) : Prop := v = some (.int 1) ∧ Fr n0 L
set_option maxRecDepth 65536 in
set_option maxHeartbeats 40000000 in
theorem rm0 (l : Launch) (Z : State) (a0 : Array Value) (hw : ∀ d ∈ tables_1, d.before a0 Z = true) (ws : List Jvm.Cond) (p0 : Int32) (p1 : Int32) (p2 : Int32) (p3 : Int32) (h0 : Heap) (n0 : Nat) (Z0 : n0 ≤ h0.size) :
    MetFree l x (head1 (Jvm.Cond.code x code maxLocals ret :: ws) room_1) (fun a U => a = #[(.int p0), (.int p1), (.int p2), (.int p3)] ∧ Z.Warmed39 U.vm ∧ U.heap = h0) (fun _ _ _ _ _ => True) (fun _ U o U' => ∃ v L, o = .returned v ∧ Q0 Z p0 p1 p2 p3 h0 n0 v U'.heap L ∧ FrameEnd U o U' L 24 640) := by
  refine MetFree.of_bodySF (plainFor_of_name pn_51971461) hisR ?_
  intro p e s m args below meth c s₁ Bd hml0 hP hK
  obtain ⟨rfl, hZ, hh⟩ := hP
  have C : Ctx p s m meth c Z "com/example/bisimulation/bisimulation/ccs/StateTableFindPinLaw" "law" code maxLocals ret := Ctx.of Bd hml0 hZ
  have X0 : Stand p l e room_1 s m #[(.int p0), (.int p1), (.int p2), (.int p3)] below meth c s₁ [] 0 0 := Stand.of_body Bd
  have e0 : s₁.heap = h0 := by rw [← hh, Bd.state]; rfl
  have N0 := Fr.nil n0
  refine Goes.enter (ef_0 m p0 p1 p2 p3) ?_
  clear hK hml0 hh
  refine g_iloadN 1 rfl C X0 at_0 rfl ?_
  refine g_bipush 3 rfl C X0 (63 : Int32) at_1 rfl ?_
  refine g_iand 4 rfl C X0 at_3 ?_
  obtain ⟨v1, hv1⟩ : ∃ z : Int32, (p0 &&& (63 : Int32)) = z := ⟨_, rfl⟩
  refine g_istore 6 rfl C X0 v1 hv1 #[.val (.int p0), .val (.int p1), .val (.int p2), .val (.int p3), .val (.int v1), .unset, .unset, .unset, .unset, .unset, .unset, .unset] at_4 rfl ?_
  refine g_iload 8 rfl C X0 at_6 rfl ?_
  refine g_iconst 9 rfl C X0 (1 : Int32) at_8 rfl ?_
  refine g_iadd 10 rfl C X0 at_9 ?_
  refine g_iloadN 11 rfl C X0 at_10 rfl ?_
  refine g_bipush 13 rfl C X0 (31 : Int32) at_11 rfl ?_
  refine g_iand 14 rfl C X0 at_13 ?_
  refine g_iadd 15 rfl C X0 at_14 ?_
  refine g_bipush 17 rfl C X0 (63 : Int32) at_15 rfl ?_
  refine g_iand 18 rfl C X0 at_17 ?_
  obtain ⟨v2, hv2⟩ : ∃ z : Int32, (((v1 + (1 : Int32)) + (p1 &&& (31 : Int32))) &&& (63 : Int32)) = z := ⟨_, rfl⟩
  refine g_istore 20 rfl C X0 v2 hv2 #[.val (.int p0), .val (.int p1), .val (.int p2), .val (.int p3), .val (.int v1), .val (.int v2), .unset, .unset, .unset, .unset, .unset, .unset] at_18 rfl ?_
  refine g_iloadN 21 rfl C X0 at_20 rfl ?_
  refine g_iconst 22 rfl C X0 (3 : Int32) at_21 rfl ?_
  refine g_iand 23 rfl C X0 at_22 ?_
  obtain ⟨v3, hv3⟩ : ∃ z : Int32, (p3 &&& (3 : Int32)) = z := ⟨_, rfl⟩
  refine g_istore 25 rfl C X0 v3 hv3 #[.val (.int p0), .val (.int p1), .val (.int p2), .val (.int p3), .val (.int v1), .val (.int v2), .val (.int v3), .unset, .unset, .unset, .unset, .unset] at_23 rfl ?_
  refine g_iloadN 26 rfl C X0 at_25 rfl ?_
  refine g_iconst 27 rfl C X0 (2 : Int32) at_26 rfl ?_
  refine g_iushr 28 rfl C X0 at_27 ?_
  refine g_iconst 29 rfl C X0 (3 : Int32) at_28 rfl ?_
  refine g_iand 30 rfl C X0 at_29 ?_
  obtain ⟨v4, hv4⟩ : ∃ z : Int32, ((((p3).toUInt32 >>> ((2 : Int32) &&& 31).toUInt32).toInt32) &&& (3 : Int32)) = z := ⟨_, rfl⟩
  refine g_istore 32 rfl C X0 v4 hv4 #[.val (.int p0), .val (.int p1), .val (.int p2), .val (.int p3), .val (.int v1), .val (.int v2), .val (.int v3), .val (.int v4), .unset, .unset, .unset, .unset] at_30 rfl ?_
  have hq5 : v1.toInt ≠ v2.toInt := by
    have fr6 := rng32 v1
    have fr7 := rng32 p0
    have fc8 : (63 : Int32).toInt = 63 := rfl
    have fo9 : (p0 &&& (63 : Int32)).toInt = p0.toInt % 64 := c_mask p0 (63 : Int32) 6 (by decide) (by decide)
    have fe10 : (p0 &&& (63 : Int32)).toInt = v1.toInt := congrArg Int32.toInt hv1
    have fr11 := rng32 v2
    have fc12 : (1 : Int32).toInt = 1 := rfl
    have fo13 := c_iadd v1 (1 : Int32)
    have fr14 := rng32 (v1 + (1 : Int32))
    have fr15 := rng32 p1
    have fc16 : (31 : Int32).toInt = 31 := rfl
    have fo17 : (p1 &&& (31 : Int32)).toInt = p1.toInt % 32 := c_mask p1 (31 : Int32) 5 (by decide) (by decide)
    have fo18 := c_iadd (v1 + (1 : Int32)) (p1 &&& (31 : Int32))
    have fr19 := rng32 ((v1 + (1 : Int32)) + (p1 &&& (31 : Int32)))
    have fo20 : (((v1 + (1 : Int32)) + (p1 &&& (31 : Int32))) &&& (63 : Int32)).toInt = ((v1 + (1 : Int32)) + (p1 &&& (31 : Int32))).toInt % 64 := c_mask ((v1 + (1 : Int32)) + (p1 &&& (31 : Int32))) (63 : Int32) 6 (by decide) (by decide)
    have fe21 : (((v1 + (1 : Int32)) + (p1 &&& (31 : Int32))) &&& (63 : Int32)).toInt = v2.toInt := congrArg Int32.toInt hv2
    omega
  have hab := hq5
  have rest : ∀ kv : Int32, 0 ≤ kv.toInt → Goes p e below (EndN s (Q0 Z p0 p1 p2 p3 h0 n0) 24 640) s₁ m 78 #[.val (.int p0), .val (.int p1), .val (.int p2), .val (.int p3), .val (.int v1), .val (.int v2), .val (.int v3), .val (.int v4), .val (.int kv), .unset, .unset, .unset] [] := by
    intro kv hkv
    refine g_new 81 rfl C X0 (hw _ (List.mem_of_getElem? (i := 0) rfl)) (hw _ (List.mem_of_getElem? (i := 1) rfl)) (hw _ (List.mem_of_getElem? (i := 2) rfl)) e0 at_78 (by decide) (by decide) fun T22 h23 o24 g25 X26 e27 E28 A29 D30 => ?_
    have gn31 : n0 ≤ o24 := by rw [g25]; exact Z0
    have Zs32 := Nat.le_trans Z0 E28.1
    have F33 : Fld Z h23 o24 "com/example/bisimulation/bisimulation/ccs/StateTable" "nodes" "Lcom/example/bisimulation/bisimulation/ccs/StateTable$Numbering;" .null := D30 (Or.inr (hw _ (List.mem_of_getElem? (i := 30) rfl))) (ty := (.object "com/example/bisimulation/bisimulation/ccs/StateTable$Numbering")) (by decide)
    have F34 : Fld Z h23 o24 "com/example/bisimulation/bisimulation/ccs/StateTable" "keys" "[I" .null := D30 (Or.inl (hw _ (List.mem_of_getElem? (i := 32) rfl))) (ty := (.array .int)) (by decide)
    have F35 : Fld Z h23 o24 "com/example/bisimulation/bisimulation/ccs/StateTable" "stateOfKey" "[I" .null := D30 (Or.inl (hw _ (List.mem_of_getElem? (i := 35) rfl))) (ty := (.array .int)) (by decide)
    have F36 : Fld Z h23 o24 "com/example/bisimulation/bisimulation/ccs/StateTable" "width" "I" (.int (0 : Int32)) := D30 (Or.inr (hw _ (List.mem_of_getElem? (i := 37) rfl))) (ty := .int) (by decide)
    have F37 : Fld Z h23 o24 "com/example/bisimulation/bisimulation/ccs/StateTable" "size" "I" (.int (0 : Int32)) := D30 (Or.inl (hw _ (List.mem_of_getElem? (i := 44) rfl))) (ty := .int) (by decide)
    refine g_dup 82 rfl C X26 at_81 rfl ?_
    refine g_iconst 83 rfl C X26 (1 : Int32) at_82 rfl ?_
    refine g_callN 86 rfl C X26 (argsL := [(.int (1 : Int32))]) rfl rfl (hw _ (List.mem_of_getElem? (i := 3) rfl)) (hw _ (List.mem_of_getElem? (i := 4) rfl)) (hw _ (List.mem_of_getElem? (i := 5) rfl)) (hw _ (List.mem_of_getElem? (i := 2) rfl)) e27 (rm1 l Z a0 hw [] o24 (1 : Int32) h23 n0 Zs32 A29 F33 F34 F35 F36 F37 gn31) (lenOf pd_52681297 rfl) (by decide) (by decide) (by decide) (by decide) rfl (W := 1) (Nat.le_of_eq rfl) (by decide) at_83 rfl fun r38 T39 Lc40 X41 hQ42 => ?_
    have lt55 := A29.lt
    obtain ⟨y43, y44, rfl, Nq45, Kc46, F47, F48, F49, F50, B51, B52, sz53, lt54⟩ := hQ42
    have F56 := A29.keep Kc46
    have Zs57 := Nat.le_trans Zs32 Kc46.1
    have lt58 : o24 < y43 := Nat.lt_of_lt_of_le lt55 sz53
    have N59 := Fr.app N0 Nq45
    show Goes _ _ _ _ _ _ 86 _ [(.ref o24)]
    refine g_astore 88 rfl C X41 #[.val (.int p0), .val (.int p1), .val (.int p2), .val (.int p3), .val (.int v1), .val (.int v2), .val (.int v3), .val (.int v4), .val (.int kv), .val (.ref o24), .unset, .unset] at_86 rfl rfl ?_
    refine g_iload 90 rfl C X41 at_88 rfl ?_
    refine g_iconst 91 rfl C X41 (1 : Int32) at_90 rfl ?_
    by_cases hb60 : v3.toInt < (1 : Int32).toInt
    · skip
      refine g_icmp_lt_t 102 C X41 at_91 (by decide) (by decide) hb60 ?_
      refine g_iload 104 rfl C X41 at_102 rfl ?_
      refine g_iconst 105 rfl C X41 (2 : Int32) at_104 rfl ?_
      have hq62 : v3.toInt < (2 : Int32).toInt := by
        have fr63 := rng32 v3
        have fr64 := rng32 p3
        have fc65 : (3 : Int32).toInt = 3 := rfl
        have fo66 : (p3 &&& (3 : Int32)).toInt = p3.toInt % 4 := c_mask p3 (3 : Int32) 2 (by decide) (by decide)
        have fe67 : (p3 &&& (3 : Int32)).toInt = v3.toInt := congrArg Int32.toInt hv3
        have fc68 : (2 : Int32).toInt = 2 := rfl
        have fc69 : (1 : Int32).toInt = 1 := rfl
        omega
      refine g_icmp_lt_t 116 C X41 at_105 (by decide) (by decide) hq62 ?_
      refine g_aload 118 rfl C X41 at_116 rfl rfl ?_
      refine g_iload 120 rfl C X41 at_118 rfl ?_
      refine g_callV 123 rfl C X41 (argsL := [(.int kv)]) (hw _ (List.mem_of_getElem? (i := 45) rfl)) (hw _ (List.mem_of_getElem? (i := 46) rfl)) (hw _ (List.mem_of_getElem? (i := 48) rfl)) (hw _ (List.mem_of_getElem? (i := 47) rfl)) (hw _ (List.mem_of_getElem? (i := 49) rfl)) (hw _ (List.mem_of_getElem? (i := 2) rfl)) rfl F47 (rm7 l Z a0 hw [] o24 kv y44 16 (fun _ => (-1 : Int32)) (fun _ => -1) (T39.heap) n0 Zs57 F50 B52 (by omega) hkv Tb.start) (lenOf pd_52681284 rfl) (by decide) (by decide) (by decide) (by decide) rfl (W := 0) (Nat.le_of_eq rfl) (by decide) at_120 rfl fun r70 T71 Lc72 X73 hQ74 => ?_
      obtain ⟨r75, rfl, hs76, Nq77, eh78⟩ := hQ74
      have N79 := Fr.app N59 Nq77
      show Goes _ _ _ _ _ _ 123 _ [(.int r75)]
      refine g_istore 125 rfl C X73 r75 rfl #[.val (.int p0), .val (.int p1), .val (.int p2), .val (.int p3), .val (.int v1), .val (.int v2), .val (.int v3), .val (.int v4), .val (.int kv), .val (.ref o24), .val (.int r75), .unset] at_123 rfl ?_
      refine g_aload 127 rfl C X73 at_125 rfl rfl ?_
      refine g_iload 129 rfl C X73 at_127 rfl ?_
      have hq80 : 0 ≤ v1.toInt := by
        have fr81 := rng32 v1
        have fr82 := rng32 p0
        have fc83 : (63 : Int32).toInt = 63 := rfl
        have fo84 : (p0 &&& (63 : Int32)).toInt = p0.toInt % 64 := c_mask p0 (63 : Int32) 6 (by decide) (by decide)
        have fe85 : (p0 &&& (63 : Int32)).toInt = v1.toInt := congrArg Int32.toInt hv1
        omega
      refine g_callV 132 rfl C X73 (argsL := [(.int v1)]) (hw _ (List.mem_of_getElem? (i := 45) rfl)) (hw _ (List.mem_of_getElem? (i := 46) rfl)) (hw _ (List.mem_of_getElem? (i := 48) rfl)) (hw _ (List.mem_of_getElem? (i := 47) rfl)) (hw _ (List.mem_of_getElem? (i := 49) rfl)) (hw _ (List.mem_of_getElem? (i := 2) rfl)) eh78 F47 (rm7 l Z a0 hw [] o24 v1 y44 16 (fun _ => (-1 : Int32)) (fun _ => -1) (T39.heap) n0 Zs57 F50 B52 (by omega) hq80 Tb.start) (lenOf pd_52681284 rfl) (by decide) (by decide) (by decide) (by decide) rfl (W := 0) (Nat.le_of_eq rfl) (by decide) at_129 rfl fun r86 T87 Lc88 X89 hQ90 => ?_
      obtain ⟨r91, rfl, hs92, Nq93, eh94⟩ := hQ90
      have N95 := Fr.app N79 Nq93
      show Goes _ _ _ _ _ _ 132 _ [(.int r91)]
      refine g_istore 134 rfl C X89 r91 rfl #[.val (.int p0), .val (.int p1), .val (.int p2), .val (.int p3), .val (.int v1), .val (.int v2), .val (.int v3), .val (.int v4), .val (.int kv), .val (.ref o24), .val (.int r75), .val (.int r91)] at_132 rfl ?_
      refine g_iload 136 rfl C X89 at_134 rfl ?_
      refine g_iload 138 rfl C X89 at_136 rfl ?_
      refine g_iload 140 rfl C X89 at_138 rfl ?_
      refine g_iload 142 rfl C X89 at_140 rfl ?_
      refine g_iload 144 rfl C X89 at_142 rfl ?_
      refine g_callS 147 rfl C X89 (argsL := [(.int v3), (.int v1), (.int v2), (.int kv)]) (hw _ (List.mem_of_getElem? (i := 50) rfl)) (hw _ (List.mem_of_getElem? (i := 51) rfl)) (hw _ (List.mem_of_getElem? (i := 53) rfl)) (hw _ (List.mem_of_getElem? (i := 52) rfl)) eh94 (rm8 l Z a0 hw [] v3 v1 v2 kv (T39.heap) n0 Zs57) (lenOf pd_45684513 rfl) (by decide) (by decide) (by decide) (by decide) rfl (W := 1) (Nat.le_of_eq rfl) (by decide) at_144 rfl fun r96 T97 Lc98 X99 hQ100 => ?_
      obtain ⟨r101, rfl, hs102, Nq103, eh104⟩ := hQ100
      have N105 := Fr.app N95 Nq103
      show Goes _ _ _ _ _ _ 147 _ [(.int r101), (.int r75)]
      have hq107 : r75.toInt = r101.toInt := by
        exact hs76.trans ((own_t0 (m := v3.toInt) (a := v1.toInt) (b := v2.toInt) (k := kv.toInt) hb60).symm.trans hs102.symm)
      refine g_icmp_ne_f 150 rfl C X99 at_147 hq107 ?_
      refine g_iload 152 rfl C X99 at_150 rfl ?_
      refine g_iload 154 rfl C X99 at_152 rfl ?_
      refine g_iload 156 rfl C X99 at_154 rfl ?_
      refine g_iload 158 rfl C X99 at_156 rfl ?_
      refine g_iload 160 rfl C X99 at_158 rfl ?_
      refine g_callS 163 rfl C X99 (argsL := [(.int v3), (.int v1), (.int v2), (.int v1)]) (hw _ (List.mem_of_getElem? (i := 50) rfl)) (hw _ (List.mem_of_getElem? (i := 51) rfl)) (hw _ (List.mem_of_getElem? (i := 53) rfl)) (hw _ (List.mem_of_getElem? (i := 52) rfl)) eh104 (rm8 l Z a0 hw [] v3 v1 v2 v1 (T39.heap) n0 Zs57) (lenOf pd_45684513 rfl) (by decide) (by decide) (by decide) (by decide) rfl (W := 1) (Nat.le_of_eq rfl) (by decide) at_160 rfl fun r108 T109 Lc110 X111 hQ112 => ?_
      obtain ⟨r113, rfl, hs114, Nq115, eh116⟩ := hQ112
      have N117 := Fr.app N105 Nq115
      show Goes _ _ _ _ _ _ 163 _ [(.int r113), (.int r91)]
      have hq119 : r91.toInt = r113.toInt := by
        exact hs92.trans ((own_t0 (m := v3.toInt) (a := v1.toInt) (b := v2.toInt) (k := v1.toInt) hb60).symm.trans hs114.symm)
      refine g_icmp_ne_f 166 rfl C X111 at_163 hq119 ?_
      refine g_iconst 167 rfl C X111 (1 : Int32) at_166 rfl ?_
      refine g_goto 171 C X111 at_167 (by decide) (by decide) ?_
      exact g_retN C X111 (z' := (1 : Int32)) rfl (Or.inl rfl) at_171 eh116 (by decide) (by decide) rfl ⟨rfl, N117⟩
    · skip
      refine g_icmp_lt_f 94 rfl C X41 at_91 hb60 ?_
      refine g_aload 96 rfl C X41 at_94 rfl rfl ?_
      refine g_iload 98 rfl C X41 at_96 rfl ?_
      have hq121 : 0 ≤ v1.toInt ∧ v1.toInt < 64 := by
        have fr122 := rng32 v1
        have fr123 := rng32 p0
        have fc124 : (63 : Int32).toInt = 63 := rfl
        have fo125 : (p0 &&& (63 : Int32)).toInt = p0.toInt % 64 := c_mask p0 (63 : Int32) 6 (by decide) (by decide)
        have fe126 : (p0 &&& (63 : Int32)).toInt = v1.toInt := congrArg Int32.toInt hv1
        omega
      obtain ⟨i120, hi120⟩ : ∃ n : Nat, v1.toInt = (n : Int) := ⟨v1.toInt.toNat, by omega⟩
      refine g_callV 101 rfl C X41 (argsL := [(.int v1)]) (hw _ (List.mem_of_getElem? (i := 38) rfl)) (hw _ (List.mem_of_getElem? (i := 39) rfl)) (hw _ (List.mem_of_getElem? (i := 41) rfl)) (hw _ (List.mem_of_getElem? (i := 40) rfl)) (hw _ (List.mem_of_getElem? (i := 42) rfl)) (hw _ (List.mem_of_getElem? (i := 2) rfl)) rfl F47 (rm6_0 l Z a0 hw [] o24 v1 y43 y44 16 (fun _ => (-1 : Int32)) (fun _ => 0) i120 (fun _ => -1) (T39.heap) n0 Zs57 F47 F48 F49 F50 B51 B52 lt58 lt54 gn31 hi120 (by omega) (by omega) (by omega) Tb.start) (lenOf pd_52681284 rfl) (by decide) (by decide) (by decide) (by decide) rfl (W := 0) (Nat.le_of_eq rfl) (by decide) at_98 rfl fun r127 T128 Lc129 X130 hQ131 => ?_
      obtain ⟨y132, n133, f134, fk135, rfl, Nq136, Kc137, F138, F139, F140, F141, B142, B143, hn144, hn145, hT146, lt147⟩ := hQ131
      have F148 := F47.keep Kc137
      have Zs149 := Nat.le_trans Zs57 Kc137.1
      have F150 : Fld Z T128.heap o24 "com/example/bisimulation/bisimulation/ccs/StateTable" "size" "I" (.int (1 : Int32)) := by rw [show ((0 : Int32) + (1 : Int32)) = (1 : Int32) by decide] at F139; exact F139
      have N151 := Fr.app N59 Nq136
      show Goes _ _ _ _ _ _ 101 _ [(.int (0 : Int32))]
      refine g_pop 102 rfl C X130 at_101 rfl ?_
      refine g_iload 104 rfl C X130 at_102 rfl ?_
      refine g_iconst 105 rfl C X130 (2 : Int32) at_104 rfl ?_
      by_cases hb152 : v3.toInt < (2 : Int32).toInt
      · skip
        refine g_icmp_lt_t 116 C X130 at_105 (by decide) (by decide) hb152 ?_
        refine g_aload 118 rfl C X130 at_116 rfl rfl ?_
        refine g_iload 120 rfl C X130 at_118 rfl ?_
        refine g_callV 123 rfl C X130 (argsL := [(.int kv)]) (hw _ (List.mem_of_getElem? (i := 45) rfl)) (hw _ (List.mem_of_getElem? (i := 46) rfl)) (hw _ (List.mem_of_getElem? (i := 48) rfl)) (hw _ (List.mem_of_getElem? (i := 47) rfl)) (hw _ (List.mem_of_getElem? (i := 49) rfl)) (hw _ (List.mem_of_getElem? (i := 2) rfl)) rfl F138 (rm7 l Z a0 hw [] o24 kv y132 n133 f134 (gset (fun _ => -1) v1.toInt 0) (T128.heap) n0 Zs149 F141 B143 (by omega) hkv hT146) (lenOf pd_52681284 rfl) (by decide) (by decide) (by decide) (by decide) rfl (W := 0) (Nat.le_of_eq rfl) (by decide) at_120 rfl fun r153 T154 Lc155 X156 hQ157 => ?_
        obtain ⟨r158, rfl, hs159, Nq160, eh161⟩ := hQ157
        have N162 := Fr.app N151 Nq160
        show Goes _ _ _ _ _ _ 123 _ [(.int r158)]
        refine g_istore 125 rfl C X156 r158 rfl #[.val (.int p0), .val (.int p1), .val (.int p2), .val (.int p3), .val (.int v1), .val (.int v2), .val (.int v3), .val (.int v4), .val (.int kv), .val (.ref o24), .val (.int r158), .unset] at_123 rfl ?_
        refine g_aload 127 rfl C X156 at_125 rfl rfl ?_
        refine g_iload 129 rfl C X156 at_127 rfl ?_
        have hq163 : 0 ≤ v1.toInt := by
          have fr164 := rng32 v1
          have fr165 := rng32 p0
          have fc166 : (63 : Int32).toInt = 63 := rfl
          have fo167 : (p0 &&& (63 : Int32)).toInt = p0.toInt % 64 := c_mask p0 (63 : Int32) 6 (by decide) (by decide)
          have fe168 : (p0 &&& (63 : Int32)).toInt = v1.toInt := congrArg Int32.toInt hv1
          omega
        refine g_callV 132 rfl C X156 (argsL := [(.int v1)]) (hw _ (List.mem_of_getElem? (i := 45) rfl)) (hw _ (List.mem_of_getElem? (i := 46) rfl)) (hw _ (List.mem_of_getElem? (i := 48) rfl)) (hw _ (List.mem_of_getElem? (i := 47) rfl)) (hw _ (List.mem_of_getElem? (i := 49) rfl)) (hw _ (List.mem_of_getElem? (i := 2) rfl)) eh161 F138 (rm7 l Z a0 hw [] o24 v1 y132 n133 f134 (gset (fun _ => -1) v1.toInt 0) (T128.heap) n0 Zs149 F141 B143 (by omega) hq163 hT146) (lenOf pd_52681284 rfl) (by decide) (by decide) (by decide) (by decide) rfl (W := 0) (Nat.le_of_eq rfl) (by decide) at_129 rfl fun r169 T170 Lc171 X172 hQ173 => ?_
        obtain ⟨r174, rfl, hs175, Nq176, eh177⟩ := hQ173
        have N178 := Fr.app N162 Nq176
        show Goes _ _ _ _ _ _ 132 _ [(.int r174)]
        refine g_istore 134 rfl C X172 r174 rfl #[.val (.int p0), .val (.int p1), .val (.int p2), .val (.int p3), .val (.int v1), .val (.int v2), .val (.int v3), .val (.int v4), .val (.int kv), .val (.ref o24), .val (.int r158), .val (.int r174)] at_132 rfl ?_
        refine g_iload 136 rfl C X172 at_134 rfl ?_
        refine g_iload 138 rfl C X172 at_136 rfl ?_
        refine g_iload 140 rfl C X172 at_138 rfl ?_
        refine g_iload 142 rfl C X172 at_140 rfl ?_
        refine g_iload 144 rfl C X172 at_142 rfl ?_
        refine g_callS 147 rfl C X172 (argsL := [(.int v3), (.int v1), (.int v2), (.int kv)]) (hw _ (List.mem_of_getElem? (i := 50) rfl)) (hw _ (List.mem_of_getElem? (i := 51) rfl)) (hw _ (List.mem_of_getElem? (i := 53) rfl)) (hw _ (List.mem_of_getElem? (i := 52) rfl)) eh177 (rm8 l Z a0 hw [] v3 v1 v2 kv (T128.heap) n0 Zs149) (lenOf pd_45684513 rfl) (by decide) (by decide) (by decide) (by decide) rfl (W := 1) (Nat.le_of_eq rfl) (by decide) at_144 rfl fun r179 T180 Lc181 X182 hQ183 => ?_
        obtain ⟨r184, rfl, hs185, Nq186, eh187⟩ := hQ183
        have N188 := Fr.app N178 Nq186
        show Goes _ _ _ _ _ _ 147 _ [(.int r184), (.int r158)]
        have hq190 : r158.toInt = r184.toInt := by
          exact hs159.trans ((own_t1 (m := v3.toInt) (a := v1.toInt) (b := v2.toInt) (k := kv.toInt) hb60 hb152).symm.trans hs185.symm)
        refine g_icmp_ne_f 150 rfl C X182 at_147 hq190 ?_
        refine g_iload 152 rfl C X182 at_150 rfl ?_
        refine g_iload 154 rfl C X182 at_152 rfl ?_
        refine g_iload 156 rfl C X182 at_154 rfl ?_
        refine g_iload 158 rfl C X182 at_156 rfl ?_
        refine g_iload 160 rfl C X182 at_158 rfl ?_
        refine g_callS 163 rfl C X182 (argsL := [(.int v3), (.int v1), (.int v2), (.int v1)]) (hw _ (List.mem_of_getElem? (i := 50) rfl)) (hw _ (List.mem_of_getElem? (i := 51) rfl)) (hw _ (List.mem_of_getElem? (i := 53) rfl)) (hw _ (List.mem_of_getElem? (i := 52) rfl)) eh187 (rm8 l Z a0 hw [] v3 v1 v2 v1 (T128.heap) n0 Zs149) (lenOf pd_45684513 rfl) (by decide) (by decide) (by decide) (by decide) rfl (W := 1) (Nat.le_of_eq rfl) (by decide) at_160 rfl fun r191 T192 Lc193 X194 hQ195 => ?_
        obtain ⟨r196, rfl, hs197, Nq198, eh199⟩ := hQ195
        have N200 := Fr.app N188 Nq198
        show Goes _ _ _ _ _ _ 163 _ [(.int r196), (.int r174)]
        have hq202 : r174.toInt = r196.toInt := by
          exact hs175.trans ((own_t1 (m := v3.toInt) (a := v1.toInt) (b := v2.toInt) (k := v1.toInt) hb60 hb152).symm.trans hs197.symm)
        refine g_icmp_ne_f 166 rfl C X194 at_163 hq202 ?_
        refine g_iconst 167 rfl C X194 (1 : Int32) at_166 rfl ?_
        refine g_goto 171 C X194 at_167 (by decide) (by decide) ?_
        exact g_retN C X194 (z' := (1 : Int32)) rfl (Or.inl rfl) at_171 eh199 (by decide) (by decide) rfl ⟨rfl, N200⟩
      · skip
        refine g_icmp_lt_f 108 rfl C X130 at_105 hb152 ?_
        refine g_aload 110 rfl C X130 at_108 rfl rfl ?_
        refine g_iload 112 rfl C X130 at_110 rfl ?_
        have hq204 : 0 ≤ v2.toInt ∧ v2.toInt < 64 := by
          have fr205 := rng32 v2
          have fr206 := rng32 v1
          have fr207 := rng32 p0
          have fc208 : (63 : Int32).toInt = 63 := rfl
          have fo209 : (p0 &&& (63 : Int32)).toInt = p0.toInt % 64 := c_mask p0 (63 : Int32) 6 (by decide) (by decide)
          have fe210 : (p0 &&& (63 : Int32)).toInt = v1.toInt := congrArg Int32.toInt hv1
          have fc211 : (1 : Int32).toInt = 1 := rfl
          have fo212 := c_iadd v1 (1 : Int32)
          have fr213 := rng32 (v1 + (1 : Int32))
          have fr214 := rng32 p1
          have fc215 : (31 : Int32).toInt = 31 := rfl
          have fo216 : (p1 &&& (31 : Int32)).toInt = p1.toInt % 32 := c_mask p1 (31 : Int32) 5 (by decide) (by decide)
          have fo217 := c_iadd (v1 + (1 : Int32)) (p1 &&& (31 : Int32))
          have fr218 := rng32 ((v1 + (1 : Int32)) + (p1 &&& (31 : Int32)))
          have fo219 : (((v1 + (1 : Int32)) + (p1 &&& (31 : Int32))) &&& (63 : Int32)).toInt = ((v1 + (1 : Int32)) + (p1 &&& (31 : Int32))).toInt % 64 := c_mask ((v1 + (1 : Int32)) + (p1 &&& (31 : Int32))) (63 : Int32) 6 (by decide) (by decide)
          have fe220 : (((v1 + (1 : Int32)) + (p1 &&& (31 : Int32))) &&& (63 : Int32)).toInt = v2.toInt := congrArg Int32.toInt hv2
          omega
        obtain ⟨i203, hi203⟩ : ∃ n : Nat, v2.toInt = (n : Int) := ⟨v2.toInt.toNat, by omega⟩
        refine g_callV 115 rfl C X130 (argsL := [(.int v2)]) (hw _ (List.mem_of_getElem? (i := 38) rfl)) (hw _ (List.mem_of_getElem? (i := 39) rfl)) (hw _ (List.mem_of_getElem? (i := 41) rfl)) (hw _ (List.mem_of_getElem? (i := 40) rfl)) (hw _ (List.mem_of_getElem? (i := 42) rfl)) (hw _ (List.mem_of_getElem? (i := 2) rfl)) rfl F138 (rm6_1 l Z a0 hw [] o24 v2 y43 y132 n133 f134 fk135 i203 (gset (fun _ => -1) v1.toInt 0) (T128.heap) n0 Zs149 F138 F150 F140 F141 B142 B143 lt58 lt147 gn31 hi203 (by omega) (by omega) (by omega) hT146) (lenOf pd_52681284 rfl) (by decide) (by decide) (by decide) (by decide) rfl (W := 0) (Nat.le_of_eq rfl) (by decide) at_112 rfl fun r221 T222 Lc223 X224 hQ225 => ?_
        obtain ⟨y226, n227, f228, fk229, rfl, Nq230, Kc231, F232, F233, F234, F235, B236, B237, hn238, hn239, hT240, lt241⟩ := hQ225
        have F242 := F138.keep Kc231
        have Zs243 := Nat.le_trans Zs149 Kc231.1
        have F244 : Fld Z T222.heap o24 "com/example/bisimulation/bisimulation/ccs/StateTable" "size" "I" (.int (2 : Int32)) := by rw [show ((1 : Int32) + (1 : Int32)) = (2 : Int32) by decide] at F233; exact F233
        have N245 := Fr.app N151 Nq230
        show Goes _ _ _ _ _ _ 115 _ [(.int (1 : Int32))]
        refine g_pop 116 rfl C X224 at_115 rfl ?_
        refine g_aload 118 rfl C X224 at_116 rfl rfl ?_
        refine g_iload 120 rfl C X224 at_118 rfl ?_
        refine g_callV 123 rfl C X224 (argsL := [(.int kv)]) (hw _ (List.mem_of_getElem? (i := 45) rfl)) (hw _ (List.mem_of_getElem? (i := 46) rfl)) (hw _ (List.mem_of_getElem? (i := 48) rfl)) (hw _ (List.mem_of_getElem? (i := 47) rfl)) (hw _ (List.mem_of_getElem? (i := 49) rfl)) (hw _ (List.mem_of_getElem? (i := 2) rfl)) rfl F232 (rm7 l Z a0 hw [] o24 kv y226 n227 f228 (gset (gset (fun _ => -1) v1.toInt 0) v2.toInt 1) (T222.heap) n0 Zs243 F235 B237 (by omega) hkv hT240) (lenOf pd_52681284 rfl) (by decide) (by decide) (by decide) (by decide) rfl (W := 0) (Nat.le_of_eq rfl) (by decide) at_120 rfl fun r246 T247 Lc248 X249 hQ250 => ?_
        obtain ⟨r251, rfl, hs252, Nq253, eh254⟩ := hQ250
        have N255 := Fr.app N245 Nq253
        show Goes _ _ _ _ _ _ 123 _ [(.int r251)]
        refine g_istore 125 rfl C X249 r251 rfl #[.val (.int p0), .val (.int p1), .val (.int p2), .val (.int p3), .val (.int v1), .val (.int v2), .val (.int v3), .val (.int v4), .val (.int kv), .val (.ref o24), .val (.int r251), .unset] at_123 rfl ?_
        refine g_aload 127 rfl C X249 at_125 rfl rfl ?_
        refine g_iload 129 rfl C X249 at_127 rfl ?_
        have hq256 : 0 ≤ v1.toInt := by
          have fr257 := rng32 v1
          have fr258 := rng32 p0
          have fc259 : (63 : Int32).toInt = 63 := rfl
          have fo260 : (p0 &&& (63 : Int32)).toInt = p0.toInt % 64 := c_mask p0 (63 : Int32) 6 (by decide) (by decide)
          have fe261 : (p0 &&& (63 : Int32)).toInt = v1.toInt := congrArg Int32.toInt hv1
          omega
        refine g_callV 132 rfl C X249 (argsL := [(.int v1)]) (hw _ (List.mem_of_getElem? (i := 45) rfl)) (hw _ (List.mem_of_getElem? (i := 46) rfl)) (hw _ (List.mem_of_getElem? (i := 48) rfl)) (hw _ (List.mem_of_getElem? (i := 47) rfl)) (hw _ (List.mem_of_getElem? (i := 49) rfl)) (hw _ (List.mem_of_getElem? (i := 2) rfl)) eh254 F232 (rm7 l Z a0 hw [] o24 v1 y226 n227 f228 (gset (gset (fun _ => -1) v1.toInt 0) v2.toInt 1) (T222.heap) n0 Zs243 F235 B237 (by omega) hq256 hT240) (lenOf pd_52681284 rfl) (by decide) (by decide) (by decide) (by decide) rfl (W := 0) (Nat.le_of_eq rfl) (by decide) at_129 rfl fun r262 T263 Lc264 X265 hQ266 => ?_
        obtain ⟨r267, rfl, hs268, Nq269, eh270⟩ := hQ266
        have N271 := Fr.app N255 Nq269
        show Goes _ _ _ _ _ _ 132 _ [(.int r267)]
        refine g_istore 134 rfl C X265 r267 rfl #[.val (.int p0), .val (.int p1), .val (.int p2), .val (.int p3), .val (.int v1), .val (.int v2), .val (.int v3), .val (.int v4), .val (.int kv), .val (.ref o24), .val (.int r251), .val (.int r267)] at_132 rfl ?_
        refine g_iload 136 rfl C X265 at_134 rfl ?_
        refine g_iload 138 rfl C X265 at_136 rfl ?_
        refine g_iload 140 rfl C X265 at_138 rfl ?_
        refine g_iload 142 rfl C X265 at_140 rfl ?_
        refine g_iload 144 rfl C X265 at_142 rfl ?_
        refine g_callS 147 rfl C X265 (argsL := [(.int v3), (.int v1), (.int v2), (.int kv)]) (hw _ (List.mem_of_getElem? (i := 50) rfl)) (hw _ (List.mem_of_getElem? (i := 51) rfl)) (hw _ (List.mem_of_getElem? (i := 53) rfl)) (hw _ (List.mem_of_getElem? (i := 52) rfl)) eh270 (rm8 l Z a0 hw [] v3 v1 v2 kv (T222.heap) n0 Zs243) (lenOf pd_45684513 rfl) (by decide) (by decide) (by decide) (by decide) rfl (W := 1) (Nat.le_of_eq rfl) (by decide) at_144 rfl fun r272 T273 Lc274 X275 hQ276 => ?_
        obtain ⟨r277, rfl, hs278, Nq279, eh280⟩ := hQ276
        have N281 := Fr.app N271 Nq279
        show Goes _ _ _ _ _ _ 147 _ [(.int r277), (.int r251)]
        have hq283 : r251.toInt = r277.toInt := by
          exact hs252.trans ((own_t2 (m := v3.toInt) (a := v1.toInt) (b := v2.toInt) (k := kv.toInt) hb152 hab).symm.trans hs278.symm)
        refine g_icmp_ne_f 150 rfl C X275 at_147 hq283 ?_
        refine g_iload 152 rfl C X275 at_150 rfl ?_
        refine g_iload 154 rfl C X275 at_152 rfl ?_
        refine g_iload 156 rfl C X275 at_154 rfl ?_
        refine g_iload 158 rfl C X275 at_156 rfl ?_
        refine g_iload 160 rfl C X275 at_158 rfl ?_
        refine g_callS 163 rfl C X275 (argsL := [(.int v3), (.int v1), (.int v2), (.int v1)]) (hw _ (List.mem_of_getElem? (i := 50) rfl)) (hw _ (List.mem_of_getElem? (i := 51) rfl)) (hw _ (List.mem_of_getElem? (i := 53) rfl)) (hw _ (List.mem_of_getElem? (i := 52) rfl)) eh280 (rm8 l Z a0 hw [] v3 v1 v2 v1 (T222.heap) n0 Zs243) (lenOf pd_45684513 rfl) (by decide) (by decide) (by decide) (by decide) rfl (W := 1) (Nat.le_of_eq rfl) (by decide) at_160 rfl fun r284 T285 Lc286 X287 hQ288 => ?_
        obtain ⟨r289, rfl, hs290, Nq291, eh292⟩ := hQ288
        have N293 := Fr.app N281 Nq291
        show Goes _ _ _ _ _ _ 163 _ [(.int r289), (.int r267)]
        have hq295 : r267.toInt = r289.toInt := by
          exact hs268.trans ((own_t2 (m := v3.toInt) (a := v1.toInt) (b := v2.toInt) (k := v1.toInt) hb152 hab).symm.trans hs290.symm)
        refine g_icmp_ne_f 166 rfl C X287 at_163 hq295 ?_
        refine g_iconst 167 rfl C X287 (1 : Int32) at_166 rfl ?_
        refine g_goto 171 C X287 at_167 (by decide) (by decide) ?_
        exact g_retN C X287 (z' := (1 : Int32)) rfl (Or.inl rfl) at_171 eh292 (by decide) (by decide) rfl ⟨rfl, N293⟩
  refine g_iload 34 rfl C X0 at_32 rfl ?_
  by_cases hb296 : v4.toInt = 0
  · skip
    refine g_if_ne_f 37 rfl C X0 at_34 hb296 ?_
    refine g_iload 39 rfl C X0 at_37 rfl ?_
    refine g_istore 41 rfl C X0 v1 rfl #[.val (.int p0), .val (.int p1), .val (.int p2), .val (.int p3), .val (.int v1), .val (.int v2), .val (.int v3), .val (.int v4), .val (.int v1), .unset, .unset, .unset] at_39 rfl ?_
    refine g_goto 78 C X0 at_41 (by decide) (by decide) ?_
    have hq297 : 0 ≤ v1.toInt := by
      have fr298 := rng32 v1
      have fr299 := rng32 p0
      have fc300 : (63 : Int32).toInt = 63 := rfl
      have fo301 : (p0 &&& (63 : Int32)).toInt = p0.toInt % 64 := c_mask p0 (63 : Int32) 6 (by decide) (by decide)
      have fe302 : (p0 &&& (63 : Int32)).toInt = v1.toInt := congrArg Int32.toInt hv1
      omega
    exact rest v1 hq297
  · skip
    refine g_if_ne_t 44 C X0 at_34 (by decide) (by decide) hb296 ?_
    refine g_iload 46 rfl C X0 at_44 rfl ?_
    refine g_iconst 47 rfl C X0 (1 : Int32) at_46 rfl ?_
    by_cases hb303 : v4.toInt = (1 : Int32).toInt
    · skip
      refine g_icmp_ne_f 50 rfl C X0 at_47 hb303 ?_
      refine g_iload 52 rfl C X0 at_50 rfl ?_
      refine g_istore 54 rfl C X0 v2 rfl #[.val (.int p0), .val (.int p1), .val (.int p2), .val (.int p3), .val (.int v1), .val (.int v2), .val (.int v3), .val (.int v4), .val (.int v2), .unset, .unset, .unset] at_52 rfl ?_
      refine g_goto 78 C X0 at_54 (by decide) (by decide) ?_
      have hq304 : 0 ≤ v2.toInt := by
        have fr305 := rng32 v2
        have fr306 := rng32 v1
        have fr307 := rng32 p0
        have fc308 : (63 : Int32).toInt = 63 := rfl
        have fo309 : (p0 &&& (63 : Int32)).toInt = p0.toInt % 64 := c_mask p0 (63 : Int32) 6 (by decide) (by decide)
        have fe310 : (p0 &&& (63 : Int32)).toInt = v1.toInt := congrArg Int32.toInt hv1
        have fc311 : (1 : Int32).toInt = 1 := rfl
        have fo312 := c_iadd v1 (1 : Int32)
        have fr313 := rng32 (v1 + (1 : Int32))
        have fr314 := rng32 p1
        have fc315 : (31 : Int32).toInt = 31 := rfl
        have fo316 : (p1 &&& (31 : Int32)).toInt = p1.toInt % 32 := c_mask p1 (31 : Int32) 5 (by decide) (by decide)
        have fo317 := c_iadd (v1 + (1 : Int32)) (p1 &&& (31 : Int32))
        have fr318 := rng32 ((v1 + (1 : Int32)) + (p1 &&& (31 : Int32)))
        have fo319 : (((v1 + (1 : Int32)) + (p1 &&& (31 : Int32))) &&& (63 : Int32)).toInt = ((v1 + (1 : Int32)) + (p1 &&& (31 : Int32))).toInt % 64 := c_mask ((v1 + (1 : Int32)) + (p1 &&& (31 : Int32))) (63 : Int32) 6 (by decide) (by decide)
        have fe320 : (((v1 + (1 : Int32)) + (p1 &&& (31 : Int32))) &&& (63 : Int32)).toInt = v2.toInt := congrArg Int32.toInt hv2
        omega
      exact rest v2 hq304
    · skip
      refine g_icmp_ne_t 57 C X0 at_47 (by decide) (by decide) hb303 ?_
      refine g_iload 59 rfl C X0 at_57 rfl ?_
      refine g_iconst 60 rfl C X0 (2 : Int32) at_59 rfl ?_
      by_cases hb321 : v4.toInt = (2 : Int32).toInt
      · skip
        refine g_icmp_ne_f 63 rfl C X0 at_60 hb321 ?_
        refine g_iloadN 64 rfl C X0 at_63 rfl ?_
        refine g_bipush 66 rfl C X0 (63 : Int32) at_64 rfl ?_
        refine g_iand 67 rfl C X0 at_66 ?_
        obtain ⟨v322, hv322⟩ : ∃ z : Int32, (p2 &&& (63 : Int32)) = z := ⟨_, rfl⟩
        refine g_istore 69 rfl C X0 v322 hv322 #[.val (.int p0), .val (.int p1), .val (.int p2), .val (.int p3), .val (.int v1), .val (.int v2), .val (.int v3), .val (.int v4), .val (.int v322), .unset, .unset, .unset] at_67 rfl ?_
        refine g_goto 78 C X0 at_69 (by decide) (by decide) ?_
        have hq323 : 0 ≤ v322.toInt := by
          have fr324 := rng32 v322
          have fr325 := rng32 p2
          have fc326 : (63 : Int32).toInt = 63 := rfl
          have fo327 : (p2 &&& (63 : Int32)).toInt = p2.toInt % 64 := c_mask p2 (63 : Int32) 6 (by decide) (by decide)
          have fe328 : (p2 &&& (63 : Int32)).toInt = v322.toInt := congrArg Int32.toInt hv322
          omega
        exact rest v322 hq323
      · skip
        refine g_icmp_ne_t 72 C X0 at_60 (by decide) (by decide) hb321 ?_
        refine g_iloadN 73 rfl C X0 at_72 rfl ?_
        refine g_ldc 75 rfl C X0 (hw _ (List.mem_of_getElem? (i := 83) rfl)) at_73 ?_
        refine g_iand 76 rfl C X0 at_75 ?_
        obtain ⟨v329, hv329⟩ : ∃ z : Int32, (p2 &&& (2147483647 : Int32)) = z := ⟨_, rfl⟩
        refine g_istore 78 rfl C X0 v329 hv329 #[.val (.int p0), .val (.int p1), .val (.int p2), .val (.int p3), .val (.int v1), .val (.int v2), .val (.int v3), .val (.int v4), .val (.int v329), .unset, .unset, .unset] at_76 rfl ?_
        have hq330 : 0 ≤ v329.toInt := by
          have fr331 := rng32 v329
          have fr332 := rng32 p2
          have fc333 : (2147483647 : Int32).toInt = 2147483647 := rfl
          have fo334 : (p2 &&& (2147483647 : Int32)).toInt = p2.toInt % 2147483648 := c_mask p2 (2147483647 : Int32) 31 (by decide) (by decide)
          have fe335 : (p2 &&& (2147483647 : Int32)).toInt = v329.toInt := congrArg Int32.toInt hv329
          omega
        exact rest v329 hq330
set_option maxRecDepth 65536 in
set_option maxHeartbeats 40000000 in
theorem comes_1 {Post : Tables → Env → Array Value → State → Outcome → State → Prop} (hpost : ∀ tb e args s v u, (limb_1_1.after args s (.returned v) u = true ∧ limb_1_2.after args s (.returned v) u = true ∧ True) → FrameEnd s (.returned v) u (Jvm.fieldLocs frame_1_writes args s ++ Jvm.arrayLocs frame_1_arrays args s ++ Jvm.staticLocs frame_1_statics s) 24 640 → Post tb e args s (.returned v) u) :
    ArmFor flags0 classFile x code maxLocals ret World_1 tables_1 room_1 Calls_1 rest_1 Pre_1 Post := by
  intro l hfl _ _ p e ha hc hk s m args below hf hA hF happ hP
  obtain ⟨hcalls, hrest, hpre⟩ := hP
  obtain ⟨-, -, -, hnamed, -, -, -, hat⟩ := (Spec.applies_iff hf).mp happ
  obtain ⟨hg, hn⟩ := and_e (Cond.before_iff.mp (show (Jvm.Cond.and given_1 narrow_1).before args s = true from hpre))
  obtain ⟨g1, g2⟩ := and_e hg
  obtain ⟨g3, g4⟩ := and_e g2
  obtain ⟨g5, g6⟩ := and_e g4
  obtain ⟨g7, g8⟩ := and_e g6
  obtain ⟨w0, w1, w2, w3, rfl⟩ : ∃ w0 w1 w2 w3 : Value, args = #[w0, w1, w2, w3] := by
    have hs : args.size = 4 := by simpa [Cond.value, given_1] using g1
    obtain ⟨L⟩ := args
    match L, hs with
    | [w0, w1, w2, w3], _ => exact ⟨w0, w1, w2, w3, rfl⟩
  have hw := fun d (hd : d ∈ tables_1) => atoms_spec (ws := Jvm.Cond.code x code maxLocals ret :: tables_1) hat d (List.mem_cons_of_mem _ hd)
  obtain ⟨i0, ei0⟩ := is_v g3
  obtain rfl : w0 = (.int i0) := Option.some.inj ei0
  obtain ⟨i1, ei1⟩ := is_v g5
  obtain rfl : w1 = (.int i1) := Option.some.inj ei1
  obtain ⟨i2, ei2⟩ := is_v g7
  obtain rfl : w2 = (.int i2) := Option.some.inj ei2
  obtain ⟨i3, ei3⟩ := is_v g8
  obtain rfl : w3 = (.int i3) := Option.some.inj ei3
  obtain ⟨n, o, h1, h2, h3, _, L, rfl, ⟨rfl, N⟩, hq⟩ := rm0 l s _ hw tables_1 i0 i1 i2 i3 s.heap s.heap.size (Nat.le_refl _) p e ha hc hk s m _ below hf ((Spec.applies_iff_loose hf).mp happ).1 ⟨rfl, State.Warmed39.refl s, rfl⟩ trivial
  refine ⟨n, _, h1, h2, h3, hpost _ _ _ _ _ _ ⟨Cond.after_iff.mpr rfl, Cond.after_iff.mpr (eq_i res_at (Term.int_eval (1)) rfl), trivial⟩ ⟨hq.1, hq.2.1, (hq.2.2.sift fun y hy => Or.inr (N y hy)).mono (by decide) (by decide)⟩⟩
theorem main_1_1 : Claimed_1_1 := comes_1 fun _ _ _ _ _ _ h hF => ⟨h.1, hF⟩
theorem main_1_2 : Claimed_1_2 := comes_1 fun _ _ _ _ _ _ h hF => ⟨h.2.1, hF⟩
end Jvm.Pilot.@@N@@
namespace Jvm.Pilot.@@N@@
open Jvm Jvm.ClassFile Sem Op Lib Jvm.Free Jvm.Stand Jvm.Pilot.@@N@@.Jvm.D
/-! MADE BY PROGRAM (witnessworld.py) out of the Statement's table words and the real class files: 15 classes; the members and pool entries that the words name. The judged class is class 1, her method 2. -/
namespace start1
open Jvm.ClassFile
def u (s : String) : CpInfo := .utf8 (stringToUtf16 s)
/-- a pool by its gaps: so many unusable entries, then the entry; so many at the end -/
def gap : Nat → List CpInfo → List CpInfo
  | 0, r => r
  | n + 1, r => .unusable :: gap n r
def poolList (es : List (Nat × CpInfo)) (last : Nat) : List CpInfo := es.foldr (fun e r => gap e.1 (e.2 :: r)) (gap last [])
def pool (es : List (Nat × CpInfo)) (last : Nat) : Array CpInfo := ⟨poolList es last⟩
def fileOf (pool : Array CpInfo) (this : Nat) (attrs : Array Attribute := #[]) (ms : Array MethodInfo := #[]) (fl : Nat := 33) (sup : Nat := 0) (ifs : Array Nat := #[]) (fds : Array FieldInfo := #[]) : ClassFile where
  minorVersion := 0
  majorVersion := 65
  constantPool := pool
  accessFlags := fl
  thisClass := this
  superClass := sup
  interfaces := ifs
  fields := fds
  methods := ms
  attributes := attrs
def plain (name : String) (sup : Option ClassId) : Class where
  name := name
  kind := .ordinary
  loader := none
  accessFlags := 33
  super := sup
  interfaces := #[]
  cf := none
  fields := #[]
  methods := #[]
  instanceTypes := #[]
  staticTypes := #[]
  resolved := #[]
  callSites := []
  init := .initialized
  statics := none
  mirror := none

def pool0 : Array CpInfo := pool [(5, u "<init>"), (0, u "()V"), (1, .class_ 10), (1, u "java/lang/Object")] 113

def k0c0 : Code := { maxStack := 0, maxLocals := 1, code := object_method_1_code, exceptionTable := #[], attributes := #[] }
def k0m0 : Method := { name := "<init>", desc := "()V", sig := { parameters := [], returnType := none }, accessFlags := 1, code := some k0c0 }
/-- java/lang/Object -/
def k0 : Class := { plain "java/lang/Object" none with
  accessFlags := 33
  interfaces := #[]
  cf := some (fileOf pool0 8 #[] #[{ accessFlags := 1, nameIndex := 5, descriptorIndex := 6, attributes := #[] }] 33 0 #[] #[])
  fields := #[]
  methods := #[k0m0]
  instanceTypes := #[]
  staticTypes := #[]
  resolved := Array.replicate 124 none
  statics := none }

def pool1 : Array CpInfo := pool [(2, .class_ 4), (1, u "java/lang/Object"), (0, u "<init>"), (0, u "()V"), (0, .integer 2147483647), (0, .class_ 9), (0, u "com/example/bisimulation/bisimulation/ccs/StateTable"), (0, .methodref 8 11), (0, .nameAndType 5 12), (0, u "(I)V"), (0, .methodref 8 14), (0, .nameAndType 15 16), (0, u "add"), (0, u "(I)I"), (0, .methodref 8 18), (0, .nameAndType 19 16), (0, u "find"), (0, .methodref 21 22), (0, .class_ 23), (0, .nameAndType 24 25), (0, u "com/example/bisimulation/bisimulation/ccs/StateTableFindPinLaw"), (0, u "expected"), (0, u "(IIII)I"), (3, u "law"), (0, u "(IIII)Z")] 2

def k1m0 : Method := { name := "<init>", desc := "()V", sig := { parameters := [], returnType := none }, accessFlags := 1, code := none }
def k1c1 : Code := { maxStack := 2, maxLocals := 4, code := method_2_code, exceptionTable := #[], attributes := #[] }
def k1m1 : Method := { name := "expected", desc := "(IIII)I", sig := { parameters := [.int, .int, .int, .int], returnType := some .int }, accessFlags := 10, code := some k1c1 }
def k1c2 : Code := { maxStack := 5, maxLocals := 12, code := code, exceptionTable := #[], attributes := #[] }
def k1m2 : Method := { name := "law", desc := "(IIII)Z", sig := { parameters := [.int, .int, .int, .int], returnType := some .boolean }, accessFlags := 9, code := some k1c2 }
/-- com/example/bisimulation/bisimulation/ccs/StateTableFindPinLaw -/
def k1 : Class := { plain "com/example/bisimulation/bisimulation/ccs/StateTableFindPinLaw" (some 0) with
  accessFlags := 49
  interfaces := #[]
  cf := some (fileOf pool1 21 #[] #[{ accessFlags := 1, nameIndex := 5, descriptorIndex := 6, attributes := #[] }, { accessFlags := 10, nameIndex := 24, descriptorIndex := 25, attributes := #[] }, { accessFlags := 9, nameIndex := 29, descriptorIndex := 30, attributes := #[] }] 49 2 #[] #[])
  fields := #[]
  methods := #[k1m0, k1m1, k1m2]
  instanceTypes := #[]
  staticTypes := #[]
  resolved := Array.replicate 33 none
  statics := none }

def pool2 : Array CpInfo := pool [(3, .methodref 4 5), (0, .class_ 6), (0, .nameAndType 7 8), (0, u "java/lang/Object"), (0, u "<init>"), (0, u "()V"), (0, .class_ 10), (0, u "com/example/bisimulation/bisimulation/ccs/StateTable$Numbering"), (0, .methodref 9 5), (0, .fieldref 13 14), (0, .class_ 15), (0, .nameAndType 16 17), (0, u "com/example/bisimulation/bisimulation/ccs/StateTable"), (0, u "nodes"), (0, u "Lcom/example/bisimulation/bisimulation/ccs/StateTable$Numbering;"), (0, .fieldref 13 19), (0, .nameAndType 20 21), (0, u "keys"), (0, u "[I"), (0, .methodref 13 23), (0, .nameAndType 24 25), (0, u "filled"), (0, u "(I)[I"), (0, .fieldref 13 27), (0, .nameAndType 28 21), (0, u "stateOfKey"), (0, .fieldref 13 30), (0, .nameAndType 31 32), (0, u "width"), (0, u "I"), (0, .fieldref 13 34), (0, .nameAndType 35 32), (0, u "size"), (6, u "changed"), (2, u "changedValue"), (2, u "otherChanged"), (2, u "otherChangedValue"), (4, .methodref 13 57), (0, .nameAndType 58 59), (0, u "doubled"), (0, u "(I)I"), (0, .methodref 61 62), (0, .class_ 63), (0, .nameAndType 64 65), (0, u "java/util/Arrays"), (0, u "copyOf"), (0, u "([II)[I"), (0, .methodref 67 68), (0, .class_ 69), (0, .nameAndType 70 71), (0, u "java/lang/Math"), (0, u "max"), (0, u "(II)I"), (0, .methodref 61 73), (0, .nameAndType 74 75), (0, u "fill"), (0, u "([IIII)V"), (27, u "find"), (2, u "add"), (0, .integer 2147483639), (4, .long 2), (1, .long 2147483639), (1, .methodref 67 117), (0, .nameAndType 118 119), (0, u "min"), (0, u "(JJ)J"), (9, .methodref 61 130), (0, .nameAndType 74 131), (0, u "([II)V"), (0, u "NONE"), (2, u "MAX_LENGTH"), (0, u "(I)V")] 28

def k2c0 : Code := { maxStack := 3, maxLocals := 2, code := prog_17_method_1_code, exceptionTable := #[], attributes := #[] }
def k2m0 : Method := { name := "<init>", desc := "(I)V", sig := { parameters := [.int], returnType := none }, accessFlags := 0, code := some k2c0 }
def k2c1 : Code := { maxStack := 2, maxLocals := 2, code := prog_17_method_5_code, exceptionTable := #[], attributes := #[] }
def k2m1 : Method := { name := "find", desc := "(I)I", sig := { parameters := [.int], returnType := some .int }, accessFlags := 0, code := some k2c1 }
def k2c2 : Code := { maxStack := 4, maxLocals := 4, code := prog_17_method_6_code, exceptionTable := #[], attributes := #[] }
def k2m2 : Method := { name := "add", desc := "(I)I", sig := { parameters := [.int], returnType := some .int }, accessFlags := 0, code := some k2c2 }
def k2c3 : Code := { maxStack := 4, maxLocals := 1, code := prog_17_method_15_code, exceptionTable := #[], attributes := #[] }
def k2m3 : Method := { name := "doubled", desc := "(I)I", sig := { parameters := [.int], returnType := some .int }, accessFlags := 10, code := some k2c3 }
def k2c4 : Code := { maxStack := 2, maxLocals := 2, code := prog_17_method_17_code, exceptionTable := #[], attributes := #[] }
def k2m4 : Method := { name := "filled", desc := "(I)[I", sig := { parameters := [.int], returnType := some (.array .int) }, accessFlags := 10, code := some k2c4 }
/-- com/example/bisimulation/bisimulation/ccs/StateTable -/
def k2 : Class := { plain "com/example/bisimulation/bisimulation/ccs/StateTable" (some 0) with
  accessFlags := 48
  interfaces := #[]
  cf := some (fileOf pool2 13 #[.nestMembers #[9]] #[{ accessFlags := 0, nameIndex := 7, descriptorIndex := 136, attributes := #[] }, { accessFlags := 0, nameIndex := 103, descriptorIndex := 59, attributes := #[] }, { accessFlags := 0, nameIndex := 106, descriptorIndex := 59, attributes := #[] }, { accessFlags := 10, nameIndex := 58, descriptorIndex := 59, attributes := #[] }, { accessFlags := 10, nameIndex := 24, descriptorIndex := 25, attributes := #[] }] 48 4 #[] #[{ accessFlags := 26, nameIndex := 132, descriptorIndex := 32, attributes := #[] }, { accessFlags := 26, nameIndex := 135, descriptorIndex := 32, attributes := #[] }, { accessFlags := 18, nameIndex := 31, descriptorIndex := 32, attributes := #[] }, { accessFlags := 18, nameIndex := 16, descriptorIndex := 17, attributes := #[] }, { accessFlags := 2, nameIndex := 20, descriptorIndex := 21, attributes := #[] }, { accessFlags := 2, nameIndex := 35, descriptorIndex := 32, attributes := #[] }, { accessFlags := 2, nameIndex := 28, descriptorIndex := 21, attributes := #[] }, { accessFlags := 2, nameIndex := 42, descriptorIndex := 32, attributes := #[] }, { accessFlags := 2, nameIndex := 45, descriptorIndex := 32, attributes := #[] }, { accessFlags := 2, nameIndex := 48, descriptorIndex := 32, attributes := #[] }, { accessFlags := 2, nameIndex := 51, descriptorIndex := 32, attributes := #[] }])
  fields := #[{ name := "NONE", type := .int, accessFlags := 26, slot := 0, constantValue := 0 }, { name := "MAX_LENGTH", type := .int, accessFlags := 26, slot := 1, constantValue := 0 }, { name := "width", type := .int, accessFlags := 18, slot := 0, constantValue := 0 }, { name := "nodes", type := (.object "com/example/bisimulation/bisimulation/ccs/StateTable$Numbering"), accessFlags := 18, slot := 1, constantValue := 0 }, { name := "keys", type := (.array .int), accessFlags := 2, slot := 2, constantValue := 0 }, { name := "size", type := .int, accessFlags := 2, slot := 3, constantValue := 0 }, { name := "stateOfKey", type := (.array .int), accessFlags := 2, slot := 4, constantValue := 0 }, { name := "changed", type := .int, accessFlags := 2, slot := 5, constantValue := 0 }, { name := "changedValue", type := .int, accessFlags := 2, slot := 6, constantValue := 0 }, { name := "otherChanged", type := .int, accessFlags := 2, slot := 7, constantValue := 0 }, { name := "otherChangedValue", type := .int, accessFlags := 2, slot := 8, constantValue := 0 }]
  methods := #[k2m0, k2m1, k2m2, k2m3, k2m4]
  instanceTypes := #[.int, (.object "com/example/bisimulation/bisimulation/ccs/StateTable$Numbering"), (.array .int), .int, (.array .int), .int, .int, .int, .int]
  staticTypes := #[.int, .int]
  resolved := ((Array.replicate 165 none).setIfInBounds 11 (some (.method ⟨3, 0⟩))).setIfInBounds 9 (some (.cls 3))
  statics := none }

def pool3 : Array CpInfo := pool [(1, .class_ 2), (0, u "com/example/bisimulation/bisimulation/ccs/StateTable"), (0, .methodref 4 5), (0, .class_ 6), (0, .nameAndType 7 8), (0, u "java/lang/Object"), (0, u "<init>"), (0, u "()V"), (0, .fieldref 10 11), (0, .class_ 12), (0, .nameAndType 13 14), (0, u "com/example/bisimulation/bisimulation/ccs/StateTable$Numbering"), (0, u "keys"), (0, u "[J"), (0, .methodref 1 16), (0, .nameAndType 17 18), (0, u "filled"), (0, u "(I)[I"), (0, .fieldref 10 20), (0, .nameAndType 21 22), (0, u "slots"), (0, u "[I"), (2, u "size"), (0, u "I"), (26, u "MAX_SLOTS")] 14

def k3c0 : Code := { maxStack := 2, maxLocals := 1, code := prog_18_method_1_code, exceptionTable := #[], attributes := #[] }
def k3m0 : Method := { name := "<init>", desc := "()V", sig := { parameters := [], returnType := none }, accessFlags := 2, code := some k3c0 }
/-- com/example/bisimulation/bisimulation/ccs/StateTable$Numbering -/
def k3 : Class := { plain "com/example/bisimulation/bisimulation/ccs/StateTable$Numbering" (some 0) with
  accessFlags := 48
  interfaces := #[]
  cf := some (fileOf pool3 10 #[.nestHost 1] #[{ accessFlags := 2, nameIndex := 7, descriptorIndex := 8, attributes := #[] }] 48 4 #[] #[{ accessFlags := 26, nameIndex := 53, descriptorIndex := 26, attributes := #[] }, { accessFlags := 2, nameIndex := 13, descriptorIndex := 14, attributes := #[] }, { accessFlags := 2, nameIndex := 25, descriptorIndex := 26, attributes := #[] }, { accessFlags := 2, nameIndex := 21, descriptorIndex := 22, attributes := #[] }])
  fields := #[{ name := "MAX_SLOTS", type := .int, accessFlags := 26, slot := 0, constantValue := 0 }, { name := "keys", type := (.array .long), accessFlags := 2, slot := 0, constantValue := 0 }, { name := "size", type := .int, accessFlags := 2, slot := 1, constantValue := 0 }, { name := "slots", type := (.array .int), accessFlags := 2, slot := 2, constantValue := 0 }]
  methods := #[k3m0]
  instanceTypes := #[(.array .long), .int, (.array .int)]
  staticTypes := #[.int]
  resolved := Array.replicate 68 none
  statics := none }

def pool4 : Array CpInfo := pool [(2, .class_ 4), (1, u "java/lang/Object"), (0, u "<init>"), (0, u "()V"), (5, u "([IIII)V"), (0, .methodref 14 15), (0, .class_ 16), (0, .nameAndType 17 18), (0, u "java/util/Arrays"), (0, u "rangeCheck"), (0, u "(III)V"), (55, .class_ 76), (1, u "java/util/Arrays$NaturalOrder"), (36, .class_ 115), (1, u "java/util/Arrays$LegacyMergeSort"), (1, u "Z"), (32, .methodref 151 152), (0, .class_ 153), (0, .nameAndType 154 155), (0, u "java/lang/System"), (0, u "arraycopy"), (0, u "(Ljava/lang/Object;ILjava/lang/Object;II)V"), (146, u "copyOf"), (1, .methodref 305 306), (0, .class_ 307), (0, .nameAndType 308 309), (0, u "java/lang/Math"), (0, u "min"), (0, u "(II)I"), (65, .class_ 376), (0, u "java/util/Arrays$ArrayList"), (68, u "$assertionsDisabled"), (269, u "MIN_ARRAY_SORT_GRAN"), (0, u "I"), (2, u "INSERTIONSORT_THRESHOLD"), (120, u "fill"), (4, u "([II)V"), (25, u "([II)[I"), (103, .class_ 976), (0, u "java/util/Arrays$ArrayItr")] 52

def k4m0 : Method := { name := "<init>", desc := "()V", sig := { parameters := [], returnType := none }, accessFlags := 2, code := none }
def k4c1 : Code := { maxStack := 4, maxLocals := 3, code := jdk_65_method_30_code, exceptionTable := #[], attributes := #[] }
def k4m1 : Method := { name := "rangeCheck", desc := "(III)V", sig := { parameters := [.int, .int, .int], returnType := none }, accessFlags := 8, code := some k4c1 }
def k4c2 : Code := { maxStack := 3, maxLocals := 4, code := jdk_65_method_103_code, exceptionTable := #[], attributes := #[] }
def k4m2 : Method := { name := "fill", desc := "([II)V", sig := { parameters := [(.array .int), .int], returnType := none }, accessFlags := 9, code := some k4c2 }
def k4c3 : Code := { maxStack := 3, maxLocals := 5, code := jdk_65_method_104_code, exceptionTable := #[], attributes := #[] }
def k4m3 : Method := { name := "fill", desc := "([IIII)V", sig := { parameters := [(.array .int), .int, .int, .int], returnType := none }, accessFlags := 9, code := some k4c3 }
def k4c4 : Code := { maxStack := 6, maxLocals := 3, code := jdk_65_method_123_code, exceptionTable := #[], attributes := #[] }
def k4m4 : Method := { name := "copyOf", desc := "([II)[I", sig := { parameters := [(.array .int), .int], returnType := some (.array .int) }, accessFlags := 9, code := some k4c4 }
/-- java/util/Arrays -/
def k4 : Class := { plain "java/util/Arrays" (some 0) with
  accessFlags := 49
  interfaces := #[]
  cf := some (fileOf pool4 14 #[.nestMembers #[975, 375, 113, 74]] #[{ accessFlags := 2, nameIndex := 5, descriptorIndex := 6, attributes := #[] }, { accessFlags := 8, nameIndex := 17, descriptorIndex := 18, attributes := #[] }, { accessFlags := 9, nameIndex := 840, descriptorIndex := 845, attributes := #[] }, { accessFlags := 9, nameIndex := 840, descriptorIndex := 12, attributes := #[] }, { accessFlags := 9, nameIndex := 302, descriptorIndex := 871, attributes := #[] }] 49 2 #[] #[{ accessFlags := 26, nameIndex := 715, descriptorIndex := 716, attributes := #[] }, { accessFlags := 26, nameIndex := 719, descriptorIndex := 716, attributes := #[] }, { accessFlags := 4120, nameIndex := 445, descriptorIndex := 117, attributes := #[] }])
  fields := #[{ name := "MIN_ARRAY_SORT_GRAN", type := .int, accessFlags := 26, slot := 0, constantValue := 0 }, { name := "INSERTIONSORT_THRESHOLD", type := .int, accessFlags := 26, slot := 1, constantValue := 0 }, { name := "$assertionsDisabled", type := .boolean, accessFlags := 4120, slot := 2, constantValue := 0 }]
  methods := #[k4m0, k4m1, k4m2, k4m3, k4m4]
  instanceTypes := #[]
  staticTypes := #[.int, .int, .boolean]
  resolved := Array.replicate 1029 none
  statics := none }

def pool5 : Array CpInfo := pool [(1, .class_ 2), (0, u "java/lang/Math"), (1, .class_ 6), (1, u "java/lang/Object"), (0, u "<init>"), (0, u "()V"), (89, .class_ 100), (1, u "java/lang/Math$RandomNumberGeneratorHolder"), (20, u "(JJ)J"), (50, u "negativeZeroFloatBits"), (0, u "J"), (2, u "negativeZeroDoubleBits"), (21, u "max"), (2, u "min"), (43, u "$assertionsDisabled"), (0, u "Z"), (88, u "(II)I"), (2, u "twoToTheDoubleScaleDown"), (0, u "D"), (4, u "twoToTheDoubleScaleUp"), (9, u "E"), (3, u "PI"), (2, u "TAU"), (2, u "DEGREES_TO_RADIANS"), (0, u "RADIANS_TO_DEGREES")] 94

def k5m0 : Method := { name := "<init>", desc := "()V", sig := { parameters := [], returnType := none }, accessFlags := 2, code := none }
def k5c1 : Code := { maxStack := 2, maxLocals := 2, code := jdk_29_method_65_code, exceptionTable := #[], attributes := #[] }
def k5m1 : Method := { name := "max", desc := "(II)I", sig := { parameters := [.int, .int], returnType := some .int }, accessFlags := 9, code := some k5c1 }
def k5c2 : Code := { maxStack := 2, maxLocals := 2, code := jdk_29_method_69_code, exceptionTable := #[], attributes := #[] }
def k5m2 : Method := { name := "min", desc := "(II)I", sig := { parameters := [.int, .int], returnType := some .int }, accessFlags := 9, code := some k5c2 }
def k5c3 : Code := { maxStack := 4, maxLocals := 4, code := jdk_29_method_70_code, exceptionTable := #[], attributes := #[] }
def k5m3 : Method := { name := "min", desc := "(JJ)J", sig := { parameters := [.long, .long], returnType := some .long }, accessFlags := 9, code := some k5c3 }
/-- java/lang/Math -/
def k5 : Class := { plain "java/lang/Math" (some 0) with
  accessFlags := 49
  interfaces := #[]
  cf := some (fileOf pool5 1 #[.nestMembers #[98]] #[{ accessFlags := 2, nameIndex := 7, descriptorIndex := 8, attributes := #[] }, { accessFlags := 9, nameIndex := 198, descriptorIndex := 335, attributes := #[] }, { accessFlags := 9, nameIndex := 201, descriptorIndex := 335, attributes := #[] }, { accessFlags := 9, nameIndex := 201, descriptorIndex := 121, attributes := #[] }] 49 4 #[] #[{ accessFlags := 25, nameIndex := 354, descriptorIndex := 339, attributes := #[] }, { accessFlags := 25, nameIndex := 358, descriptorIndex := 339, attributes := #[] }, { accessFlags := 25, nameIndex := 361, descriptorIndex := 339, attributes := #[] }, { accessFlags := 26, nameIndex := 364, descriptorIndex := 339, attributes := #[] }, { accessFlags := 26, nameIndex := 365, descriptorIndex := 339, attributes := #[] }, { accessFlags := 26, nameIndex := 172, descriptorIndex := 173, attributes := #[] }, { accessFlags := 26, nameIndex := 176, descriptorIndex := 173, attributes := #[] }, { accessFlags := 8, nameIndex := 344, descriptorIndex := 339, attributes := #[] }, { accessFlags := 8, nameIndex := 338, descriptorIndex := 339, attributes := #[] }, { accessFlags := 4120, nameIndex := 245, descriptorIndex := 246, attributes := #[] }])
  fields := #[{ name := "E", type := .double, accessFlags := 25, slot := 0, constantValue := 0 }, { name := "PI", type := .double, accessFlags := 25, slot := 1, constantValue := 0 }, { name := "TAU", type := .double, accessFlags := 25, slot := 2, constantValue := 0 }, { name := "DEGREES_TO_RADIANS", type := .double, accessFlags := 26, slot := 3, constantValue := 0 }, { name := "RADIANS_TO_DEGREES", type := .double, accessFlags := 26, slot := 4, constantValue := 0 }, { name := "negativeZeroFloatBits", type := .long, accessFlags := 26, slot := 5, constantValue := 0 }, { name := "negativeZeroDoubleBits", type := .long, accessFlags := 26, slot := 6, constantValue := 0 }, { name := "twoToTheDoubleScaleUp", type := .double, accessFlags := 8, slot := 7, constantValue := 0 }, { name := "twoToTheDoubleScaleDown", type := .double, accessFlags := 8, slot := 8, constantValue := 0 }, { name := "$assertionsDisabled", type := .boolean, accessFlags := 4120, slot := 9, constantValue := 0 }]
  methods := #[k5m0, k5m1, k5m2, k5m3]
  instanceTypes := #[]
  staticTypes := #[.double, .double, .double, .double, .double, .long, .long, .double, .double, .boolean]
  resolved := Array.replicate 460 none
  statics := none }

def pool6 : Array CpInfo := pool [(2, .class_ 4), (1, u "java/lang/Object"), (0, u "<init>"), (0, u "()V"), (1, .class_ 10), (1, u "java/lang/System"), (0, u "allowSecurityManager"), (0, u "I"), (16, u "cons"), (0, u "Ljava/io/Console;"), (77, .class_ 110), (1, u "java/lang/System$CallersHolder"), (43, u "initialErrStream"), (0, u "Ljava/io/PrintStream;"), (19, u "security"), (0, u "Ljava/lang/SecurityManager;"), (31, .class_ 209), (0, u "java/lang/System$1"), (7, u "props"), (0, u "Ljava/util/Properties;"), (2, u "lineSeparator"), (0, u "Ljava/lang/String;"), (96, .class_ 321), (1, u "java/lang/System$LoggerFinder"), (5, .class_ 328), (0, u "java/lang/System$Logger"), (67, u "err"), (2, u "out"), (91, u "notSupportedJnuEncoding"), (15, u "in"), (17, u "initialIn"), (0, u "Ljava/io/InputStream;"), (35, u "bootLayer"), (0, u "Ljava/lang/ModuleLayer;"), (99, .class_ 664), (0, u "java/lang/System$2"), (9, u "NEVER"), (2, u "MAYBE"), (49, u "arraycopy"), (0, u "(Ljava/lang/Object;ILjava/lang/Object;II)V"), (72, .class_ 802), (0, u "java/lang/System$Logger$Level")] 31

def k6m0 : Method := { name := "<init>", desc := "()V", sig := { parameters := [], returnType := none }, accessFlags := 2, code := none }
def k6m1 : Method := { name := "arraycopy", desc := "(Ljava/lang/Object;ILjava/lang/Object;II)V", sig := { parameters := [(.object "java/lang/Object"), .int, (.object "java/lang/Object"), .int, .int], returnType := none }, accessFlags := 265, code := none }
/-- java/lang/System -/
def k6 : Class := { plain "java/lang/System" (some 0) with
  accessFlags := 49
  interfaces := #[]
  cf := some (fileOf pool6 8 #[.nestMembers #[319, 327, 801, 108, 663, 208]] #[{ accessFlags := 2, nameIndex := 5, descriptorIndex := 6, attributes := #[] }, { accessFlags := 265, nameIndex := 727, descriptorIndex := 728, attributes := #[] }] 49 2 #[] #[{ accessFlags := 25, nameIndex := 507, descriptorIndex := 526, attributes := #[] }, { accessFlags := 25, nameIndex := 399, descriptorIndex := 155, attributes := #[] }, { accessFlags := 25, nameIndex := 396, descriptorIndex := 155, attributes := #[] }, { accessFlags := 10, nameIndex := 525, descriptorIndex := 526, attributes := #[] }, { accessFlags := 26, nameIndex := 674, descriptorIndex := 12, attributes := #[] }, { accessFlags := 26, nameIndex := 677, descriptorIndex := 12, attributes := #[] }, { accessFlags := 10, nameIndex := 11, descriptorIndex := 12, attributes := #[] }, { accessFlags := 74, nameIndex := 175, descriptorIndex := 176, attributes := #[] }, { accessFlags := 10, nameIndex := 491, descriptorIndex := 222, attributes := #[] }, { accessFlags := 74, nameIndex := 29, descriptorIndex := 30, attributes := #[] }, { accessFlags := 74, nameIndex := 154, descriptorIndex := 155, attributes := #[] }, { accessFlags := 10, nameIndex := 217, descriptorIndex := 218, attributes := #[] }, { accessFlags := 10, nameIndex := 221, descriptorIndex := 222, attributes := #[] }, { accessFlags := 8, nameIndex := 562, descriptorIndex := 563, attributes := #[] }])
  fields := #[{ name := "in", type := (.object "java/io/InputStream"), accessFlags := 25, slot := 0, constantValue := 0 }, { name := "out", type := (.object "java/io/PrintStream"), accessFlags := 25, slot := 1, constantValue := 0 }, { name := "err", type := (.object "java/io/PrintStream"), accessFlags := 25, slot := 2, constantValue := 0 }, { name := "initialIn", type := (.object "java/io/InputStream"), accessFlags := 10, slot := 3, constantValue := 0 }, { name := "NEVER", type := .int, accessFlags := 26, slot := 4, constantValue := 0 }, { name := "MAYBE", type := .int, accessFlags := 26, slot := 5, constantValue := 0 }, { name := "allowSecurityManager", type := .int, accessFlags := 10, slot := 6, constantValue := 0 }, { name := "security", type := (.object "java/lang/SecurityManager"), accessFlags := 74, slot := 7, constantValue := 0 }, { name := "notSupportedJnuEncoding", type := (.object "java/lang/String"), accessFlags := 10, slot := 8, constantValue := 0 }, { name := "cons", type := (.object "java/io/Console"), accessFlags := 74, slot := 9, constantValue := 0 }, { name := "initialErrStream", type := (.object "java/io/PrintStream"), accessFlags := 74, slot := 10, constantValue := 0 }, { name := "props", type := (.object "java/util/Properties"), accessFlags := 10, slot := 11, constantValue := 0 }, { name := "lineSeparator", type := (.object "java/lang/String"), accessFlags := 10, slot := 12, constantValue := 0 }, { name := "bootLayer", type := (.object "java/lang/ModuleLayer"), accessFlags := 8, slot := 13, constantValue := 0 }]
  methods := #[k6m0, k6m1]
  instanceTypes := #[]
  staticTypes := #[(.object "java/io/InputStream"), (.object "java/io/PrintStream"), (.object "java/io/PrintStream"), (.object "java/io/InputStream"), .int, .int, .int, (.object "java/lang/SecurityManager"), (.object "java/lang/String"), (.object "java/io/Console"), (.object "java/io/PrintStream"), (.object "java/util/Properties"), (.object "java/lang/String"), (.object "java/lang/ModuleLayer")]
  resolved := Array.replicate 834 none
  statics := none }

def pool7 : Array CpInfo := pool [(1, u "java/lang/Cloneable"), (0, .class_ 1), (0, u "java/lang/Object"), (0, .class_ 3)] 3

/-- java/lang/Cloneable -/
def k7 : Class := { plain "java/lang/Cloneable" (some 0) with
  accessFlags := 1537
  interfaces := #[]
  cf := some (fileOf pool7 2 #[] #[] 1537 4 #[] #[])
  fields := #[]
  methods := #[]
  instanceTypes := #[]
  staticTypes := #[]
  resolved := Array.replicate 8 none
  statics := none }

def pool8 : Array CpInfo := pool [(1, u "java/io/Serializable"), (0, .class_ 1), (0, u "java/lang/Object"), (0, .class_ 3)] 3

/-- java/io/Serializable -/
def k8 : Class := { plain "java/io/Serializable" (some 0) with
  accessFlags := 1537
  interfaces := #[]
  cf := some (fileOf pool8 2 #[] #[] 1537 4 #[] #[])
  fields := #[]
  methods := #[]
  instanceTypes := #[]
  staticTypes := #[]
  resolved := Array.replicate 8 none
  statics := none }

/-- the primitive byte -/
def k9 : Class := { plain "byte" none with kind := .primitive 'B', accessFlags := 0x411 }
/-- [B -/
def k10 : Class := { plain "[B" (some 0) with kind := .array 9 .byte, interfaces := #[7, 8], accessFlags := 1041 }

/-- the primitive int -/
def k11 : Class := { plain "int" none with kind := .primitive 'I', accessFlags := 0x411 }
/-- [I -/
def k12 : Class := { plain "[I" (some 0) with kind := .array 11 .int, interfaces := #[7, 8], accessFlags := 1041 }

/-- the primitive long -/
def k13 : Class := { plain "long" none with kind := .primitive 'J', accessFlags := 0x411 }
/-- [J -/
def k14 : Class := { plain "[J" (some 0) with kind := .array 13 .long, interfaces := #[7, 8], accessFlags := 1041 }

def heap : Heap := #[]
def classes : Array Class := #[k0, k1, k2, k3, k4, k5, k6, k7, k8, k9, k10, k11, k12, k13, k14]
def interned : List (Array UInt16 × Addr) := []
def slotsUsed : Nat := 0
def theMethod : MethodId := ⟨1, 2⟩
def args0 : Array Value := #[.int 5, .int 7, .int 9, .int 2]
def aboutOver (below : List Frame) : State where
  vm := { classes := classes, interned := interned.toArray }
  heap := heap
  slotsUsed := slotsUsed
  threads := #[{ frames := .invoking theMethod args0 :: below }]
def below0 : List Frame := [.native { method := ⟨0, 0⟩, args := #[] }]
def about1 : State := aboutOver below0
def p0 : Program := .bare "" "" ""
def e0 : Env := launch0.env 0 0 0
theorem w_frames : about1.frames = Frame.invoking theMethod args0 :: below0 := rfl
set_option maxRecDepth 65536 in
theorem w_args : argsFit about1.vm theMethod args0 = true := by decide +kernel
set_option maxRecDepth 65536 in
theorem w_heap : heapFits about1 = true := by decide +kernel
set_option maxRecDepth 65536 in
theorem w_runnable : about1.curStatus? = some .runnable := by decide +kernel
set_option maxRecDepth 65536 in
theorem w_alone : about1.alone = true := by decide +kernel
set_option maxRecDepth 65536 in
theorem w_named : about1.methodNamed? x = some theMethod := by decide +kernel
set_option maxRecDepth 65536 in
theorem w_hears : about1.hears theMethod below0 = true := by decide +kernel
set_option maxRecDepth 65536 in
theorem w_ripe : about1.ripe theMethod args0 below0 = true := by decide +kernel
theorem w_running : about1.status = .running := rfl
set_option maxRecDepth 65536 in
theorem w_room : about1.hasRoom e0.platform room_1 = true :=
  launch0.hasRoom_least _ room_1 (by decide +kernel) (by decide +kernel) (by decide +kernel) (by decide +kernel) (by decide +kernel) (by decide +kernel)
theorem allAtoms_all (ts : List Jvm.Cond) (a : Array Jvm.Value) (st : Jvm.State) : (allAtoms ts).before a st = ts.all (fun c => c.before a st) := by
  induction ts with
  | nil => rfl
  | cons c t ih =>
    show (Jvm.Cond.and c (allAtoms t)).before a st = _
    rw [Jvm.Cond.before_and, ih, List.all_cons]
def words1 : List Jvm.Cond := Jvm.Cond.code x code maxLocals ret :: tables_1
/-- a 'code' word, met by the world's own term for the bytes: nothing is compared byte by byte -/
theorem code_word {y : MethodName} {bytes : ByteArray} {mx : Nat} {rt : Option FieldType} {a : Array Value} {s : State} {m : MethodId} {meth : Method} {c : Code} (h1 : s.methodNamed? y = some m) (h2 : s.vm.method? m = some meth) (h3 : meth.code = some c) (h4 : c.code = bytes)
    (h5 : (c.maxLocals == mx && c.exceptionTable.isEmpty && decide (c.maxStack ≤ mostOperands) && decide (meth.sig.returnType = rt) && !meth.locks && decide (parseMethodDescriptor y.desc = some meth.sig)) = true) : (Jvm.Cond.code y bytes mx rt).before a s = true := by
  simp only [Bool.and_eq_true, beq_iff_eq, Bool.not_eq_true', decide_eq_true_eq] at h5
  obtain ⟨⟨⟨⟨⟨g1, g2⟩, g3⟩, g4⟩, g5⟩, g6⟩ := h5
  simp [Cond.before, Cond.holds, Cond.value, h1, h2, h3, h4, g1, g2, g3, g4, g5, g6]
def isCode : Jvm.Cond → Bool
  | .code _ _ _ _ => true
  | _ => false
theorem all_split {L : List Jvm.Cond} {P : Jvm.Cond → Bool} (h1 : L.all (fun c => isCode c || P c) = true) (h2 : ∀ c ∈ L.filter isCode, P c = true) : L.all P = true := by
  refine List.all_eq_true.mpr fun c hc => ?_
  have h := List.all_eq_true.mp h1 c hc
  rcases Bool.eq_false_or_eq_true (isCode c) with hi | hi
  · exact h2 c (List.mem_filter.mpr ⟨hc, hi⟩)
  · simpa [hi] using h
set_option maxRecDepth 65536 in
theorem w_c0 : (Jvm.Cond.code x code maxLocals ret).before args0 about1 = true := code_word (m := ⟨1, 2⟩) (meth := k1m2) (c := k1c2) (by decide +kernel) rfl rfl rfl (by decide +kernel)
set_option maxRecDepth 65536 in
theorem w_c1 : (Jvm.Cond.code ({ cls := "com/example/bisimulation/bisimulation/ccs/StateTable", name := "<init>", desc := "(I)V" } : Jvm.MethodName) prog_17_method_1_code (2 : Nat) (Option.none : Option Jvm.ClassFile.FieldType)).before args0 about1 = true := code_word (m := ⟨2, 0⟩) (meth := k2m0) (c := k2c0) (by decide +kernel) rfl rfl rfl (by decide +kernel)
set_option maxRecDepth 65536 in
theorem w_c2 : (Jvm.Cond.code ({ cls := "java/lang/Object", name := "<init>", desc := "()V" } : Jvm.MethodName) object_method_1_code (1 : Nat) (Option.none : Option Jvm.ClassFile.FieldType)).before args0 about1 = true := code_word (m := ⟨0, 0⟩) (meth := k0m0) (c := k0c0) (by decide +kernel) rfl rfl rfl (by decide +kernel)
set_option maxRecDepth 65536 in
theorem w_c3 : (Jvm.Cond.code ({ cls := "com/example/bisimulation/bisimulation/ccs/StateTable$Numbering", name := "<init>", desc := "()V" } : Jvm.MethodName) prog_18_method_1_code (1 : Nat) (Option.none : Option Jvm.ClassFile.FieldType)).before args0 about1 = true := code_word (m := ⟨3, 0⟩) (meth := k3m0) (c := k3c0) (by decide +kernel) rfl rfl rfl (by decide +kernel)
set_option maxRecDepth 65536 in
theorem w_c4 : (Jvm.Cond.code ({ cls := "com/example/bisimulation/bisimulation/ccs/StateTable", name := "filled", desc := "(I)[I" } : Jvm.MethodName) prog_17_method_17_code (2 : Nat) (Option.some (Jvm.ClassFile.FieldType.array Jvm.ClassFile.FieldType.int))).before args0 about1 = true := code_word (m := ⟨2, 4⟩) (meth := k2m4) (c := k2c4) (by decide +kernel) rfl rfl rfl (by decide +kernel)
set_option maxRecDepth 65536 in
theorem w_c5 : (Jvm.Cond.code ({ cls := "java/util/Arrays", name := "fill", desc := "([II)V" } : Jvm.MethodName) jdk_65_method_103_code (4 : Nat) (Option.none : Option Jvm.ClassFile.FieldType)).before args0 about1 = true := code_word (m := ⟨4, 2⟩) (meth := k4m2) (c := k4c2) (by decide +kernel) rfl rfl rfl (by decide +kernel)
set_option maxRecDepth 65536 in
theorem w_c6 : (Jvm.Cond.code ({ cls := "com/example/bisimulation/bisimulation/ccs/StateTable", name := "add", desc := "(I)I" } : Jvm.MethodName) prog_17_method_6_code (4 : Nat) (Option.some Jvm.ClassFile.FieldType.int)).before args0 about1 = true := code_word (m := ⟨2, 2⟩) (meth := k2m2) (c := k2c2) (by decide +kernel) rfl rfl rfl (by decide +kernel)
set_option maxRecDepth 65536 in
theorem w_c7 : (Jvm.Cond.code ({ cls := "com/example/bisimulation/bisimulation/ccs/StateTable", name := "find", desc := "(I)I" } : Jvm.MethodName) prog_17_method_5_code (2 : Nat) (Option.some Jvm.ClassFile.FieldType.int)).before args0 about1 = true := code_word (m := ⟨2, 1⟩) (meth := k2m1) (c := k2c1) (by decide +kernel) rfl rfl rfl (by decide +kernel)
set_option maxRecDepth 65536 in
theorem w_c8 : (Jvm.Cond.code ({ cls := "com/example/bisimulation/bisimulation/ccs/StateTableFindPinLaw", name := "expected", desc := "(IIII)I" } : Jvm.MethodName) method_2_code (4 : Nat) (Option.some Jvm.ClassFile.FieldType.int)).before args0 about1 = true := code_word (m := ⟨1, 1⟩) (meth := k1m1) (c := k1c1) (by decide +kernel) rfl rfl rfl (by decide +kernel)
set_option maxRecDepth 65536 in
theorem w_c9 : (Jvm.Cond.code ({ cls := "com/example/bisimulation/bisimulation/ccs/StateTable", name := "doubled", desc := "(I)I" } : Jvm.MethodName) prog_17_method_15_code (1 : Nat) (Option.some Jvm.ClassFile.FieldType.int)).before args0 about1 = true := code_word (m := ⟨2, 3⟩) (meth := k2m3) (c := k2c3) (by decide +kernel) rfl rfl rfl (by decide +kernel)
set_option maxRecDepth 65536 in
theorem w_c10 : (Jvm.Cond.code ({ cls := "java/lang/Math", name := "min", desc := "(JJ)J" } : Jvm.MethodName) jdk_29_method_70_code (4 : Nat) (Option.some Jvm.ClassFile.FieldType.long)).before args0 about1 = true := code_word (m := ⟨5, 3⟩) (meth := k5m3) (c := k5c3) (by decide +kernel) rfl rfl rfl (by decide +kernel)
set_option maxRecDepth 65536 in
theorem w_c11 : (Jvm.Cond.code ({ cls := "java/lang/Math", name := "max", desc := "(II)I" } : Jvm.MethodName) jdk_29_method_65_code (2 : Nat) (Option.some Jvm.ClassFile.FieldType.int)).before args0 about1 = true := code_word (m := ⟨5, 1⟩) (meth := k5m1) (c := k5c1) (by decide +kernel) rfl rfl rfl (by decide +kernel)
set_option maxRecDepth 65536 in
theorem w_c12 : (Jvm.Cond.code ({ cls := "java/util/Arrays", name := "copyOf", desc := "([II)[I" } : Jvm.MethodName) jdk_65_method_123_code (3 : Nat) (Option.some (Jvm.ClassFile.FieldType.array Jvm.ClassFile.FieldType.int))).before args0 about1 = true := code_word (m := ⟨4, 4⟩) (meth := k4m4) (c := k4c4) (by decide +kernel) rfl rfl rfl (by decide +kernel)
set_option maxRecDepth 65536 in
theorem w_c13 : (Jvm.Cond.code ({ cls := "java/lang/Math", name := "min", desc := "(II)I" } : Jvm.MethodName) jdk_29_method_69_code (2 : Nat) (Option.some Jvm.ClassFile.FieldType.int)).before args0 about1 = true := code_word (m := ⟨5, 2⟩) (meth := k5m2) (c := k5c2) (by decide +kernel) rfl rfl rfl (by decide +kernel)
set_option maxRecDepth 65536 in
theorem w_c14 : (Jvm.Cond.code ({ cls := "java/util/Arrays", name := "fill", desc := "([IIII)V" } : Jvm.MethodName) jdk_65_method_104_code (5 : Nat) (Option.none : Option Jvm.ClassFile.FieldType)).before args0 about1 = true := code_word (m := ⟨4, 3⟩) (meth := k4m3) (c := k4c3) (by decide +kernel) rfl rfl rfl (by decide +kernel)
set_option maxRecDepth 65536 in
theorem w_c15 : (Jvm.Cond.code ({ cls := "java/util/Arrays", name := "rangeCheck", desc := "(III)V" } : Jvm.MethodName) jdk_65_method_30_code (3 : Nat) (Option.none : Option Jvm.ClassFile.FieldType)).before args0 about1 = true := code_word (m := ⟨4, 1⟩) (meth := k4m1) (c := k4c1) (by decide +kernel) rfl rfl rfl (by decide +kernel)
def codes1 : List Jvm.Cond := [Jvm.Cond.code x code maxLocals ret, Jvm.Cond.code ({ cls := "com/example/bisimulation/bisimulation/ccs/StateTable", name := "<init>", desc := "(I)V" } : Jvm.MethodName) prog_17_method_1_code (2 : Nat) (Option.none : Option Jvm.ClassFile.FieldType), Jvm.Cond.code ({ cls := "java/lang/Object", name := "<init>", desc := "()V" } : Jvm.MethodName) object_method_1_code (1 : Nat) (Option.none : Option Jvm.ClassFile.FieldType), Jvm.Cond.code ({ cls := "com/example/bisimulation/bisimulation/ccs/StateTable$Numbering", name := "<init>", desc := "()V" } : Jvm.MethodName) prog_18_method_1_code (1 : Nat) (Option.none : Option Jvm.ClassFile.FieldType), Jvm.Cond.code ({ cls := "com/example/bisimulation/bisimulation/ccs/StateTable", name := "filled", desc := "(I)[I" } : Jvm.MethodName) prog_17_method_17_code (2 : Nat) (Option.some (Jvm.ClassFile.FieldType.array Jvm.ClassFile.FieldType.int)), Jvm.Cond.code ({ cls := "java/util/Arrays", name := "fill", desc := "([II)V" } : Jvm.MethodName) jdk_65_method_103_code (4 : Nat) (Option.none : Option Jvm.ClassFile.FieldType), Jvm.Cond.code ({ cls := "com/example/bisimulation/bisimulation/ccs/StateTable", name := "add", desc := "(I)I" } : Jvm.MethodName) prog_17_method_6_code (4 : Nat) (Option.some Jvm.ClassFile.FieldType.int), Jvm.Cond.code ({ cls := "com/example/bisimulation/bisimulation/ccs/StateTable", name := "find", desc := "(I)I" } : Jvm.MethodName) prog_17_method_5_code (2 : Nat) (Option.some Jvm.ClassFile.FieldType.int), Jvm.Cond.code ({ cls := "com/example/bisimulation/bisimulation/ccs/StateTableFindPinLaw", name := "expected", desc := "(IIII)I" } : Jvm.MethodName) method_2_code (4 : Nat) (Option.some Jvm.ClassFile.FieldType.int), Jvm.Cond.code ({ cls := "com/example/bisimulation/bisimulation/ccs/StateTable", name := "doubled", desc := "(I)I" } : Jvm.MethodName) prog_17_method_15_code (1 : Nat) (Option.some Jvm.ClassFile.FieldType.int), Jvm.Cond.code ({ cls := "java/lang/Math", name := "min", desc := "(JJ)J" } : Jvm.MethodName) jdk_29_method_70_code (4 : Nat) (Option.some Jvm.ClassFile.FieldType.long), Jvm.Cond.code ({ cls := "java/lang/Math", name := "max", desc := "(II)I" } : Jvm.MethodName) jdk_29_method_65_code (2 : Nat) (Option.some Jvm.ClassFile.FieldType.int), Jvm.Cond.code ({ cls := "java/util/Arrays", name := "copyOf", desc := "([II)[I" } : Jvm.MethodName) jdk_65_method_123_code (3 : Nat) (Option.some (Jvm.ClassFile.FieldType.array Jvm.ClassFile.FieldType.int)), Jvm.Cond.code ({ cls := "java/lang/Math", name := "min", desc := "(II)I" } : Jvm.MethodName) jdk_29_method_69_code (2 : Nat) (Option.some Jvm.ClassFile.FieldType.int), Jvm.Cond.code ({ cls := "java/util/Arrays", name := "fill", desc := "([IIII)V" } : Jvm.MethodName) jdk_65_method_104_code (5 : Nat) (Option.none : Option Jvm.ClassFile.FieldType), Jvm.Cond.code ({ cls := "java/util/Arrays", name := "rangeCheck", desc := "(III)V" } : Jvm.MethodName) jdk_65_method_30_code (3 : Nat) (Option.none : Option Jvm.ClassFile.FieldType)]
set_option maxRecDepth 65536 in
theorem codes_eq : words1.filter isCode = codes1 := rfl
theorem w_codes : ∀ c ∈ words1.filter isCode, c.before args0 about1 = true := by
  rw [codes_eq]
  intro c hc
  simp only [codes1, List.mem_cons, List.not_mem_nil, or_false] at hc
  rcases hc with rfl | rfl | rfl | rfl | rfl | rfl | rfl | rfl | rfl | rfl | rfl | rfl | rfl | rfl | rfl | rfl
  · exact w_c0
  · exact w_c1
  · exact w_c2
  · exact w_c3
  · exact w_c4
  · exact w_c5
  · exact w_c6
  · exact w_c7
  · exact w_c8
  · exact w_c9
  · exact w_c10
  · exact w_c11
  · exact w_c12
  · exact w_c13
  · exact w_c14
  · exact w_c15
set_option maxRecDepth 65536 in
theorem w_t1 : (words1.take 24).all (fun c => isCode c || c.before args0 about1) = true := by decide +kernel
set_option maxRecDepth 65536 in
theorem w_t2 : ((words1.drop 24).take 24).all (fun c => isCode c || c.before args0 about1) = true := by decide +kernel
set_option maxRecDepth 65536 in
theorem w_t3 : (((words1.drop 24).drop 24).take 24).all (fun c => isCode c || c.before args0 about1) = true := by decide +kernel
set_option maxRecDepth 65536 in
theorem w_t4 : (((words1.drop 24).drop 24).drop 24).all (fun c => isCode c || c.before args0 about1) = true := by decide +kernel
theorem w_tables : (allAtoms (Jvm.Cond.code x code maxLocals ret :: tables_1)).before args0 about1 = true := by
  rw [allAtoms_all]
  show words1.all (fun c => c.before args0 about1) = true
  refine all_split ?_ w_codes
  rw [← List.take_append_drop 24 words1, List.all_append, w_t1, ← List.take_append_drop 24 (words1.drop 24), List.all_append, w_t2, ← List.take_append_drop 24 ((words1.drop 24).drop 24), List.all_append, w_t3, w_t4]
  rfl
set_option maxRecDepth 65536 in
theorem w_case : (Jvm.Cond.and given_1 narrow_1).before args0 about1 = true := by decide +kernel
theorem w_applies : (headSpec (Jvm.Cond.code x code maxLocals ret :: tables_1) room_1).applies x e0.platform about1 = true :=
  (Spec.applies_iff w_frames).mpr ⟨w_running, w_runnable, w_alone, w_named, w_hears, w_ripe, w_room, w_tables⟩
theorem atStart : AtStart classFile x code maxLocals ret World_1 tables_1 room_1 Calls_1 rest_1 Pre_1 launch0 p0 e0 about1 theMethod args0 below0 :=
  ⟨lists_1, trivial, launch0.admits_env _ _ _, launch0.least_env, fairChoices_fair.cas, fairChoices_fair.clock, w_frames, w_args, w_heap, w_applies, trivial, trivial, w_case⟩
end start1
theorem witness_1 : WitnessClaimed_1 := ⟨start1.p0, start1.e0, start1.about1, start1.theMethod, start1.args0, start1.below0, start1.atStart⟩
end Jvm.Pilot.@@N@@
