import JvmDerived
import JvmDerived.Pilot.@@N@@Statement
import JvmDerived.Pilot.@@N@@Code
set_option linter.unusedVariables false
set_option linter.unusedSimpArgs false
namespace Jvm.Pilot.@@N@@
open Jvm Jvm.ClassFile Sem Op Lib Jvm.Free Jvm.Stand Jvm.LawKit Jvm.RoadKit Bundle Jvm.Pilot.@@N@@.Jvm.D
section Own
set_option maxHeartbeats 4000000
variable {p : Program} {l : Launch} {e : Env} {R : Room} {s : State} {m : MethodId} {args : Array Value} {below : List Frame} {meth : Method} {c : Code} {T : State} {locs : List Loc} {cells slots : Nat} {Z : State} {a0 : Array Value} {h : Heap} {own nm : String} {bytes : ByteArray} {ml : Nat} {rt : Option FieldType} {Q : Option Value → Heap → List Loc → Prop} {CC SS : Nat} {E : Outcome → State → Prop} {pc : Nat} {Ls : Array Slot} {St : List Value}
def Ctx (p : Program) (s : State) (m : MethodId) (meth : Method) (c : Code) (Z : State) (own nm : String) (bytes : ByteArray) (ml : Nat) (rt : Option FieldType) : Prop :=
  p.tables.exec = Jvm.exec ∧ Z.Warmed39 s.vm ∧ c.code = bytes ∧ c.maxLocals = ml ∧ s.vm.findClass own = some m.cls ∧ meth.locks = false ∧ meth.sig.returnType = rt ∧ meth.name = nm
theorem Ctx.c_x (C : Ctx p s m meth c Z own nm bytes ml rt) : p.tables.exec = Jvm.exec := C.1
theorem Ctx.c_z (C : Ctx p s m meth c Z own nm bytes ml rt) : Z.Warmed39 s.vm := C.2.1
theorem Ctx.c_by (C : Ctx p s m meth c Z own nm bytes ml rt) : c.code = bytes := C.2.2.1
theorem Ctx.c_ml (C : Ctx p s m meth c Z own nm bytes ml rt) : c.maxLocals = ml := C.2.2.2.1
theorem Ctx.c_own (C : Ctx p s m meth c Z own nm bytes ml rt) : s.vm.findClass own = some m.cls := C.2.2.2.2.1
theorem Ctx.c_lk (C : Ctx p s m meth c Z own nm bytes ml rt) : meth.locks = false := C.2.2.2.2.2.1
theorem Ctx.c_rt (C : Ctx p s m meth c Z own nm bytes ml rt) : meth.sig.returnType = rt := C.2.2.2.2.2.2.1
theorem Ctx.c_nm (C : Ctx p s m meth c Z own nm bytes ml rt) : meth.name = nm := C.2.2.2.2.2.2.2
def EndN (s : State) (Q : Option Value → Heap → List Loc → Prop) (CC SS : Nat) (o : Outcome) (t : State) : Prop := ∃ v L, o = .returned v ∧ Q v t.heap L ∧ FrameEnd s o t L CC SS
def Goes (p : Program) (e : Env) (below : List Frame) (E : Outcome → State → Prop) (T : State) (m : MethodId) (pc : Nat) (Ls : Array Slot) (St : List Value) : Prop :=
  ∃ s₂ o, Steps p.tables e below (T.setTop (mkF m pc Ls St)) s₂ ∧ s₂.status = .running ∧ Ended s₂ below o ∧ E o s₂
theorem Goes.back {T' : State} {q : Nat} {Ls' : Array Slot} {St' : List Value} (k : Goes p e below E T' m q Ls' St') (f : ∀ t, Steps p.tables e below (T'.setTop (mkF m q Ls' St')) t → Steps p.tables e below (T.setTop (mkF m pc Ls St)) t) : Goes p e below E T m pc Ls St := by
  obtain ⟨s2, o, h1, h2⟩ := k
  exact ⟨s2, o, f _ h1, h2⟩
theorem Goes.enter {g : JFrame} (hg : g = mkF m 0 Ls []) (k : Goes p e below (EndN s Q CC SS) T m 0 Ls []) : ∃ s₂ o, Steps p.tables e below (T.setTop g) s₂ ∧ s₂.status = .running ∧ Ended s₂ below o ∧ ∃ v L, o = .returned v ∧ Q v s₂.heap L ∧ FrameEnd s o s₂ L CC SS := by
  subst hg
  exact k
theorem Ctx.of {x : MethodName} {S : Spec} {s₁ : State} (Bd : BodyLoose p l x S bytes ml rt e s m args below meth c s₁) (hml : c.maxLocals = ml) (hZ : Z.Warmed39 s.vm) : Ctx p s m meth c Z x.cls x.name bytes ml rt :=
  ⟨Bd.exec, hZ, Bd.bytes, hml, findClass_of_methodNamed Bd.named, Bd.notSynchronized, Bd.returns, (name_of_methodNamed Bd.named Bd.method).1⟩
theorem g_iadd (q : Nat) (hq : pc + 1 = q) (C : Ctx p s m meth c Z own nm bytes ml rt) (X : Stand p l e R s m args below meth c T locs cells slots) {x y : Int32} (hd : decode bytes pc = .ok (.iadd, 1)) (k : Goes p e below E T m q Ls (.int (x + y) :: St)) : Goes p e below E T m pc Ls (.int y :: .int x :: St) := by
  subst hq
  exact k.back fun t kt => XS.iadd (g := mkF m pc Ls (.int y :: .int x :: St)) X.here C.c_x rfl (hb C.c_by hd) rfl kt
theorem g_isub (q : Nat) (hq : pc + 1 = q) (C : Ctx p s m meth c Z own nm bytes ml rt) (X : Stand p l e R s m args below meth c T locs cells slots) {x y : Int32} (hd : decode bytes pc = .ok (.isub, 1)) (k : Goes p e below E T m q Ls (.int (x - y) :: St)) : Goes p e below E T m pc Ls (.int y :: .int x :: St) := by
  subst hq
  exact k.back fun t kt => XS.isub (g := mkF m pc Ls (.int y :: .int x :: St)) X.here C.c_x rfl (hb C.c_by hd) rfl kt
theorem g_iand (q : Nat) (hq : pc + 1 = q) (C : Ctx p s m meth c Z own nm bytes ml rt) (X : Stand p l e R s m args below meth c T locs cells slots) {x y : Int32} (hd : decode bytes pc = .ok (.iand, 1)) (k : Goes p e below E T m q Ls (.int (x &&& y) :: St)) : Goes p e below E T m pc Ls (.int y :: .int x :: St) := by
  subst hq
  exact k.back fun t kt => XS.iand (g := mkF m pc Ls (.int y :: .int x :: St)) X.here C.c_x rfl (hb C.c_by hd) rfl kt
theorem g_ior (q : Nat) (hq : pc + 1 = q) (C : Ctx p s m meth c Z own nm bytes ml rt) (X : Stand p l e R s m args below meth c T locs cells slots) {x y : Int32} (hd : decode bytes pc = .ok (.ior, 1)) (k : Goes p e below E T m q Ls (.int (x ||| y) :: St)) : Goes p e below E T m pc Ls (.int y :: .int x :: St) := by
  subst hq
  exact k.back fun t kt => XS.ior (g := mkF m pc Ls (.int y :: .int x :: St)) X.here C.c_x rfl (hb C.c_by hd) rfl kt
theorem g_irem (q : Nat) (hq : pc + 1 = q) (C : Ctx p s m meth c Z own nm bytes ml rt) (X : Stand p l e R s m args below meth c T locs cells slots) {x y : Int32} (hd : decode bytes pc = .ok (.irem, 1)) (hy : y ≠ 0) (k : Goes p e below E T m q Ls (.int (x % y) :: St)) : Goes p e below E T m pc Ls (.int y :: .int x :: St) := by
  subst hq
  exact k.back fun t kt => XS.irem (g := mkF m pc Ls (.int y :: .int x :: St)) X.here C.c_x rfl (hb C.c_by hd) rfl hy (by rw [irem_eq_mod]; exact kt)
theorem g_ishl (q : Nat) (hq : pc + 1 = q) (C : Ctx p s m meth c Z own nm bytes ml rt) (X : Stand p l e R s m args below meth c T locs cells slots) {x y : Int32} (hd : decode bytes pc = .ok (.ishl, 1)) (k : Goes p e below E T m q Ls (.int (x <<< (y &&& 31)) :: St)) : Goes p e below E T m pc Ls (.int y :: .int x :: St) := by
  subst hq
  exact k.back fun t kt => XS.ishl (g := mkF m pc Ls (.int y :: .int x :: St)) X.here C.c_x rfl (hb C.c_by hd) rfl kt
theorem g_ishr (q : Nat) (hq : pc + 1 = q) (C : Ctx p s m meth c Z own nm bytes ml rt) (X : Stand p l e R s m args below meth c T locs cells slots) {x y : Int32} (hd : decode bytes pc = .ok (.ishr, 1)) (k : Goes p e below E T m q Ls (.int (x >>> (y &&& 31)) :: St)) : Goes p e below E T m pc Ls (.int y :: .int x :: St) := by
  subst hq
  exact k.back fun t kt => XS.ishr (g := mkF m pc Ls (.int y :: .int x :: St)) X.here C.c_x rfl (hb C.c_by hd) rfl kt
theorem g_i2b (q : Nat) (hq : pc + 1 = q) (C : Ctx p s m meth c Z own nm bytes ml rt) (X : Stand p l e R s m args below meth c T locs cells slots) {x : Int32} (hd : decode bytes pc = .ok (.i2b, 1)) (k : Goes p e below E T m q Ls (.int (x.toInt8.toInt32) :: St)) : Goes p e below E T m pc Ls (.int x :: St) := by
  subst hq
  exact k.back fun t kt => XS.i2b (g := mkF m pc Ls (.int x :: St)) X.here C.c_x rfl (hb C.c_by hd) rfl kt
theorem g_iconst (q : Nat) (hq : pc + 1 = q) (C : Ctx p s m meth c Z own nm bytes ml rt) (X : Stand p l e R s m args below meth c T locs cells slots) {i : Int} (v : Int32) (hd : decode bytes pc = .ok (.iconst i, 1)) (hv : Int32.ofInt i = v) (k : Goes p e below E T m q Ls (.int v :: St)) : Goes p e below E T m pc Ls St := by
  subst hq
  exact k.back fun t kt => XS.iconst (g := mkF m pc Ls St) X.here C.c_x rfl (hb C.c_by hd) (by subst hv; exact kt)
theorem g_bipush (q : Nat) (hq : pc + 2 = q) (C : Ctx p s m meth c Z own nm bytes ml rt) (X : Stand p l e R s m args below meth c T locs cells slots) {i : Int} (v : Int32) (hd : decode bytes pc = .ok (.bipush i, 2)) (hv : (Int8.ofInt i).toInt32 = v) (k : Goes p e below E T m q Ls (.int v :: St)) : Goes p e below E T m pc Ls St := by
  subst hq
  exact k.back fun t kt => XS.bipush (g := mkF m pc Ls St) X.here C.c_x rfl (hb C.c_by hd) (by subst hv; exact kt)
theorem g_sipush (q : Nat) (hq : pc + 3 = q) (C : Ctx p s m meth c Z own nm bytes ml rt) (X : Stand p l e R s m args below meth c T locs cells slots) {i : Int} (v : Int32) (hd : decode bytes pc = .ok (.sipush i, 3)) (hv : (Int16.ofInt i).toInt32 = v) (k : Goes p e below E T m q Ls (.int v :: St)) : Goes p e below E T m pc Ls St := by
  subst hq
  exact k.back fun t kt => XS.sipush (g := mkF m pc Ls St) X.here C.c_x rfl (hb C.c_by hd) (by subst hv; exact kt)
theorem g_iloadN (q : Nat) (hq : pc + 1 = q) (C : Ctx p s m meth c Z own nm bytes ml rt) (X : Stand p l e R s m args below meth c T locs cells slots) {k0 : Fin 4} {v : Int32} (hd : decode bytes pc = .ok (.iload_n k0, 1)) (hl : Ls[k0.val]? = some (.val (.int v))) (k : Goes p e below E T m q Ls (.int v :: St)) : Goes p e below E T m pc Ls St := by
  subst hq
  exact k.back fun t kt => XS.iloadN (g := mkF m pc Ls St) X.here C.c_x rfl (hb C.c_by hd) hl kt
theorem g_iload (q : Nat) (hq : pc + 2 = q) (C : Ctx p s m meth c Z own nm bytes ml rt) (X : Stand p l e R s m args below meth c T locs cells slots) {k0 : Nat} {v : Int32} (hd : decode bytes pc = .ok (.iload k0, 2)) (hl : Ls[k0]? = some (.val (.int v))) (k : Goes p e below E T m q Ls (.int v :: St)) : Goes p e below E T m pc Ls St := by
  subst hq
  exact k.back fun t kt => XS.iload (g := mkF m pc Ls St) X.here C.c_x rfl (hb C.c_by hd) hl kt
theorem g_aloadN (q : Nat) (hq : pc + 1 = q) (C : Ctx p s m meth c Z own nm bytes ml rt) (X : Stand p l e R s m args below meth c T locs cells slots) {k0 : Fin 4} {v : Value} (hd : decode bytes pc = .ok (.aload_n k0, 1)) (hl : Ls[k0.val]? = some (.val v)) (hv : v.isRef = true) (k : Goes p e below E T m q Ls (v :: St)) : Goes p e below E T m pc Ls St := by
  subst hq
  exact k.back fun t kt => XS.aloadN (g := mkF m pc Ls St) X.here C.c_x rfl (hb C.c_by hd) hl hv kt
theorem g_aload (q : Nat) (hq : pc + 2 = q) (C : Ctx p s m meth c Z own nm bytes ml rt) (X : Stand p l e R s m args below meth c T locs cells slots) {k0 : Nat} {v : Value} (hd : decode bytes pc = .ok (.aload k0, 2)) (hl : Ls[k0]? = some (.val v)) (hv : v.isRef = true) (k : Goes p e below E T m q Ls (v :: St)) : Goes p e below E T m pc Ls St := by
  subst hq
  exact k.back fun t kt => XS.aload (g := mkF m pc Ls St) X.here C.c_x rfl (hb C.c_by hd) hl hv kt
theorem g_istoreN (q : Nat) (hq : pc + 1 = q) (C : Ctx p s m meth c Z own nm bytes ml rt) (X : Stand p l e R s m args below meth c T locs cells slots) {k0 : Fin 4} {x : Int32} (v : Int32) (hv : x = v) (Ls' : Array Slot) (hd : decode bytes pc = .ok (.istore_n k0, 1)) (hl : storeLocals Ls k0.val (.int v) = some Ls') (k : Goes p e below E T m q Ls' St) : Goes p e below E T m pc Ls (.int x :: St) := by
  subst hq
  exact k.back fun t kt => XS.istoreN (g := mkF m pc Ls (.int x :: St)) X.here C.c_x rfl (hb C.c_by hd) rfl (by subst hv; exact hl) kt
theorem g_istore (q : Nat) (hq : pc + 2 = q) (C : Ctx p s m meth c Z own nm bytes ml rt) (X : Stand p l e R s m args below meth c T locs cells slots) {k0 : Nat} {x : Int32} (v : Int32) (hv : x = v) (Ls' : Array Slot) (hd : decode bytes pc = .ok (.istore k0, 2)) (hl : storeLocals Ls k0 (.int v) = some Ls') (k : Goes p e below E T m q Ls' St) : Goes p e below E T m pc Ls (.int x :: St) := by
  subst hq
  exact k.back fun t kt => XS.istore (g := mkF m pc Ls (.int x :: St)) X.here C.c_x rfl (hb C.c_by hd) rfl (by subst hv; exact hl) kt
theorem g_astore (q : Nat) (hq : pc + 2 = q) (C : Ctx p s m meth c Z own nm bytes ml rt) (X : Stand p l e R s m args below meth c T locs cells slots) {k0 : Nat} {x : Value} (Ls' : Array Slot) (hd : decode bytes pc = .ok (.astore k0, 2)) (hv : x.isRef = true) (hl : storeLocals Ls k0 x = some Ls') (k : Goes p e below E T m q Ls' St) : Goes p e below E T m pc Ls (x :: St) := by
  subst hq
  exact k.back fun t kt => XS.astore (g := mkF m pc Ls (x :: St)) X.here C.c_x rfl (hb C.c_by hd) rfl hv hl kt
theorem g_iinc (q : Nat) (hq : pc + 3 = q) (C : Ctx p s m meth c Z own nm bytes ml rt) (X : Stand p l e R s m args below meth c T locs cells slots) {k0 : Nat} {i : Int} {x : Int32} (w v : Int32) (Ls' : Array Slot) (hd : decode bytes pc = .ok (.iinc k0 i, 3)) (hw : Int32.ofInt i = w) (hl : Ls[k0]? = some (.val (.int x))) (hv : x + w = v) (hl' : storeLocals Ls k0 (.int v) = some Ls') (k : Goes p e below E T m q Ls' St) : Goes p e below E T m pc Ls St := by
  subst hq
  exact k.back fun t kt => XS.iinc (g := mkF m pc Ls St) X.here C.c_x rfl (hb C.c_by hd) hl (by subst hw hv; exact hl') kt
theorem g_iincW (q : Nat) (hq : pc + 6 = q) (C : Ctx p s m meth c Z own nm bytes ml rt) (X : Stand p l e R s m args below meth c T locs cells slots) {k0 : Nat} {i : Int} {x : Int32} (w v : Int32) (Ls' : Array Slot) (hd : decode bytes pc = .ok (.iinc k0 i, 6)) (hw : Int32.ofInt i = w) (hl : Ls[k0]? = some (.val (.int x))) (hv : x + w = v) (hl' : storeLocals Ls k0 (.int v) = some Ls') (k : Goes p e below E T m q Ls' St) : Goes p e below E T m pc Ls St := by
  subst hq hw hv
  refine k.back fun t kt => ?_
  show Steps p.tables e below (T.setTop { method := m, pc := pc, locals := Ls, stack := St, locked := none }) _
  jvm_step X.here [X.here.top, C.c_x, (hb C.c_by hd), hl, hl']
  exact kt
theorem g_goto (q : Nat) (C : Ctx p s m meth c Z own nm bytes ml rt) (X : Stand p l e R s m args below meth c T locs cells slots) {o : Int} (hd : decode bytes pc = .ok (.goto o, 3)) (ho : 0 ≤ (pc : Int) + o) (hp : ((pc : Int) + o).toNat = q) (k : Goes p e below E T m q Ls St) : Goes p e below E T m pc Ls St :=
  k.back fun t kt => XS.goto (g := mkF m pc Ls St) X.here C.c_x rfl (pc0 := pc) (pc' := q) rfl (hb C.c_by hd) ho hp kt
theorem own_z0 : (0 : Int32).toInt = 0 := rfl
theorem own_0lt {x : Int32} : (0 : Int32) < x ↔ 0 < x.toInt := Int32.lt_iff_toInt_lt
theorem own_lt0 {x : Int32} : x < (0 : Int32) ↔ x.toInt < 0 := Int32.lt_iff_toInt_lt
theorem own_eq0 {x : Int32} : x = (0 : Int32) ↔ x.toInt = 0 := Int32.toInt_inj.symm
theorem g_icmp_lt_t (q : Nat) (C : Ctx p s m meth c Z own nm bytes ml rt) (X : Stand p l e R s m args below meth c T locs cells slots) {o : Int} {x y : Int32} (hd : decode bytes pc = .ok (.if_icmp .lt o, 3)) (ho : 0 ≤ (pc : Int) + o) (hp : ((pc : Int) + o).toNat = q) (h : x.toInt < y.toInt) (k : Goes p e below E T m q Ls St) : Goes p e below E T m pc Ls (.int y :: .int x :: St) :=
  k.back fun t kt => XS.icmpYes (g := mkF m pc Ls (.int y :: .int x :: St)) X.here C.c_x rfl (pc0 := pc) (pc' := q) rfl (hb C.c_by hd) rfl (tlt (Int32.lt_iff_toInt_lt.mpr h)).1 ho hp kt
theorem g_icmp_lt_f (q : Nat) (hq : pc + 3 = q) (C : Ctx p s m meth c Z own nm bytes ml rt) (X : Stand p l e R s m args below meth c T locs cells slots) {o : Int} {x y : Int32} (hd : decode bytes pc = .ok (.if_icmp .lt o, 3)) (h : ¬ x.toInt < y.toInt) (k : Goes p e below E T m q Ls St) : Goes p e below E T m pc Ls (.int y :: .int x :: St) := by
  subst hq
  exact k.back fun t kt => XS.icmpNo (g := mkF m pc Ls (.int y :: .int x :: St)) X.here C.c_x rfl (hb C.c_by hd) rfl (flt (fun r => h (Int32.lt_iff_toInt_lt.mp r))).1 kt
theorem g_icmp_ge_t (q : Nat) (C : Ctx p s m meth c Z own nm bytes ml rt) (X : Stand p l e R s m args below meth c T locs cells slots) {o : Int} {x y : Int32} (hd : decode bytes pc = .ok (.if_icmp .ge o, 3)) (ho : 0 ≤ (pc : Int) + o) (hp : ((pc : Int) + o).toNat = q) (h : ¬ x.toInt < y.toInt) (k : Goes p e below E T m q Ls St) : Goes p e below E T m pc Ls (.int y :: .int x :: St) :=
  k.back fun t kt => XS.icmpYes (g := mkF m pc Ls (.int y :: .int x :: St)) X.here C.c_x rfl (pc0 := pc) (pc' := q) rfl (hb C.c_by hd) rfl (flt (fun r => h (Int32.lt_iff_toInt_lt.mp r))).2.1 ho hp kt
theorem g_icmp_ge_f (q : Nat) (hq : pc + 3 = q) (C : Ctx p s m meth c Z own nm bytes ml rt) (X : Stand p l e R s m args below meth c T locs cells slots) {o : Int} {x y : Int32} (hd : decode bytes pc = .ok (.if_icmp .ge o, 3)) (h : x.toInt < y.toInt) (k : Goes p e below E T m q Ls St) : Goes p e below E T m pc Ls (.int y :: .int x :: St) := by
  subst hq
  exact k.back fun t kt => XS.icmpNo (g := mkF m pc Ls (.int y :: .int x :: St)) X.here C.c_x rfl (hb C.c_by hd) rfl (tlt (Int32.lt_iff_toInt_lt.mpr h)).2.1 kt
theorem g_icmp_gt_t (q : Nat) (C : Ctx p s m meth c Z own nm bytes ml rt) (X : Stand p l e R s m args below meth c T locs cells slots) {o : Int} {x y : Int32} (hd : decode bytes pc = .ok (.if_icmp .gt o, 3)) (ho : 0 ≤ (pc : Int) + o) (hp : ((pc : Int) + o).toNat = q) (h : y.toInt < x.toInt) (k : Goes p e below E T m q Ls St) : Goes p e below E T m pc Ls (.int y :: .int x :: St) :=
  k.back fun t kt => XS.icmpYes (g := mkF m pc Ls (.int y :: .int x :: St)) X.here C.c_x rfl (pc0 := pc) (pc' := q) rfl (hb C.c_by hd) rfl (tlt (Int32.lt_iff_toInt_lt.mpr h)).2.2.1 ho hp kt
theorem g_icmp_gt_f (q : Nat) (hq : pc + 3 = q) (C : Ctx p s m meth c Z own nm bytes ml rt) (X : Stand p l e R s m args below meth c T locs cells slots) {o : Int} {x y : Int32} (hd : decode bytes pc = .ok (.if_icmp .gt o, 3)) (h : ¬ y.toInt < x.toInt) (k : Goes p e below E T m q Ls St) : Goes p e below E T m pc Ls (.int y :: .int x :: St) := by
  subst hq
  exact k.back fun t kt => XS.icmpNo (g := mkF m pc Ls (.int y :: .int x :: St)) X.here C.c_x rfl (hb C.c_by hd) rfl (flt (fun r => h (Int32.lt_iff_toInt_lt.mp r))).2.2.1 kt
theorem g_icmp_le_t (q : Nat) (C : Ctx p s m meth c Z own nm bytes ml rt) (X : Stand p l e R s m args below meth c T locs cells slots) {o : Int} {x y : Int32} (hd : decode bytes pc = .ok (.if_icmp .le o, 3)) (ho : 0 ≤ (pc : Int) + o) (hp : ((pc : Int) + o).toNat = q) (h : ¬ y.toInt < x.toInt) (k : Goes p e below E T m q Ls St) : Goes p e below E T m pc Ls (.int y :: .int x :: St) :=
  k.back fun t kt => XS.icmpYes (g := mkF m pc Ls (.int y :: .int x :: St)) X.here C.c_x rfl (pc0 := pc) (pc' := q) rfl (hb C.c_by hd) rfl (flt (fun r => h (Int32.lt_iff_toInt_lt.mp r))).2.2.2 ho hp kt
theorem g_if_le_t (q : Nat) (C : Ctx p s m meth c Z own nm bytes ml rt) (X : Stand p l e R s m args below meth c T locs cells slots) {o : Int} {x : Int32} (hd : decode bytes pc = .ok (.ifCond .le o, 3)) (ho : 0 ≤ (pc : Int) + o) (hp : ((pc : Int) + o).toNat = q) (h : ¬ 0 < x.toInt) (k : Goes p e below E T m q Ls St) : Goes p e below E T m pc Ls (.int x :: St) :=
  k.back fun t kt => XS.ifYes (g := mkF m pc Ls (.int x :: St)) X.here C.c_x rfl (pc0 := pc) (pc' := q) rfl (hb C.c_by hd) rfl ((if0 _ _).trans (flt (fun r => h (own_0lt.mp r))).2.2.2) ho hp kt
theorem g_if_le_f (q : Nat) (hq : pc + 3 = q) (C : Ctx p s m meth c Z own nm bytes ml rt) (X : Stand p l e R s m args below meth c T locs cells slots) {o : Int} {x : Int32} (hd : decode bytes pc = .ok (.ifCond .le o, 3)) (h : 0 < x.toInt) (k : Goes p e below E T m q Ls St) : Goes p e below E T m pc Ls (.int x :: St) := by
  subst hq
  exact k.back fun t kt => XS.ifNo (g := mkF m pc Ls (.int x :: St)) X.here C.c_x rfl (hb C.c_by hd) rfl ((if0 _ _).trans (tlt (own_0lt.mpr h)).2.2.2) kt
theorem g_icmp_eq_t (q : Nat) (C : Ctx p s m meth c Z own nm bytes ml rt) (X : Stand p l e R s m args below meth c T locs cells slots) {o : Int} {x y : Int32} (hd : decode bytes pc = .ok (.if_icmp .eq o, 3)) (ho : 0 ≤ (pc : Int) + o) (hp : ((pc : Int) + o).toNat = q) (h : x.toInt = y.toInt) (k : Goes p e below E T m q Ls St) : Goes p e below E T m pc Ls (.int y :: .int x :: St) :=
  k.back fun t kt => XS.icmpYes (g := mkF m pc Ls (.int y :: .int x :: St)) X.here C.c_x rfl (pc0 := pc) (pc' := q) rfl (hb C.c_by hd) rfl (teq (Int32.toInt_inj.mp h)).1 ho hp kt
theorem g_icmp_ne_t (q : Nat) (C : Ctx p s m meth c Z own nm bytes ml rt) (X : Stand p l e R s m args below meth c T locs cells slots) {o : Int} {x y : Int32} (hd : decode bytes pc = .ok (.if_icmp .ne o, 3)) (ho : 0 ≤ (pc : Int) + o) (hp : ((pc : Int) + o).toNat = q) (h : ¬ x.toInt = y.toInt) (k : Goes p e below E T m q Ls St) : Goes p e below E T m pc Ls (.int y :: .int x :: St) :=
  k.back fun t kt => XS.icmpYes (g := mkF m pc Ls (.int y :: .int x :: St)) X.here C.c_x rfl (pc0 := pc) (pc' := q) rfl (hb C.c_by hd) rfl (feq (fun r => h (congrArg Int32.toInt r))).2 ho hp kt
theorem g_if_ne_t (q : Nat) (C : Ctx p s m meth c Z own nm bytes ml rt) (X : Stand p l e R s m args below meth c T locs cells slots) {o : Int} {x : Int32} (hd : decode bytes pc = .ok (.ifCond .ne o, 3)) (ho : 0 ≤ (pc : Int) + o) (hp : ((pc : Int) + o).toNat = q) (h : ¬ x.toInt = 0) (k : Goes p e below E T m q Ls St) : Goes p e below E T m pc Ls (.int x :: St) :=
  k.back fun t kt => XS.ifYes (g := mkF m pc Ls (.int x :: St)) X.here C.c_x rfl (pc0 := pc) (pc' := q) rfl (hb C.c_by hd) rfl ((if0 _ _).trans (feq (fun r => h (own_eq0.mp r))).2) ho hp kt
theorem g_icmp_ne_f (q : Nat) (hq : pc + 3 = q) (C : Ctx p s m meth c Z own nm bytes ml rt) (X : Stand p l e R s m args below meth c T locs cells slots) {o : Int} {x y : Int32} (hd : decode bytes pc = .ok (.if_icmp .ne o, 3)) (h : x.toInt = y.toInt) (k : Goes p e below E T m q Ls St) : Goes p e below E T m pc Ls (.int y :: .int x :: St) := by
  subst hq
  exact k.back fun t kt => XS.icmpNo (g := mkF m pc Ls (.int y :: .int x :: St)) X.here C.c_x rfl (hb C.c_by hd) rfl (teq (Int32.toInt_inj.mp h)).2 kt
theorem g_if_ne_f (q : Nat) (hq : pc + 3 = q) (C : Ctx p s m meth c Z own nm bytes ml rt) (X : Stand p l e R s m args below meth c T locs cells slots) {o : Int} {x : Int32} (hd : decode bytes pc = .ok (.ifCond .ne o, 3)) (h : x.toInt = 0) (k : Goes p e below E T m q Ls St) : Goes p e below E T m pc Ls (.int x :: St) := by
  subst hq
  exact k.back fun t kt => XS.ifNo (g := mkF m pc Ls (.int x :: St)) X.here C.c_x rfl (hb C.c_by hd) rfl ((if0 _ _).trans (teq (own_eq0.mpr h)).2) kt
theorem g_ldc (q : Nat) (hq : pc + 2 = q) (C : Ctx p s m meth c Z own nm bytes ml rt) (X : Stand p l e R s m args below meth c T locs cells slots) {i : Nat} {v : Int32} (w : (Cond.constant own i v).before a0 Z = true) (hd : decode bytes pc = .ok (.ldc i, 2)) (k : Goes p e below E T m q Ls (.int v :: St)) : Goes p e below E T m pc Ls St := by
  subst hq
  exact k.back fun t kt => X.ldcInt C.c_x C.c_own (mvT C.c_z w) (g := mkF m pc Ls St) rfl (hb C.c_by hd) _ kt
theorem g_retW (C : Ctx p s m meth c Z own nm bytes ml rt) (X : Stand p l e R s m args below meth c T locs cells slots) {w : Value} {t : FieldType} {i : Instr} (hrt : rt = some t) (hn : narrow t w = w)
    (hi : (i = .ireturn ∧ (t = .int ∨ t = .boolean ∨ t = .byte ∨ t = .char ∨ t = .short) ∧ ∃ z, w = .int z) ∨ (i = .lreturn ∧ t = .long ∧ ∃ z, w = .long z) ∨ (i = .dreturn ∧ t = .double ∧ ∃ z, w = .double z) ∨ (i = .freturn ∧ t = .float ∧ ∃ z, w = .float z) ∨ (i = .areturn ∧ t.isReference = true ∧ w.isRef = true))
    (hd : decode bytes pc = .ok (i, 1)) (eT : T.heap = h) (hc : cells ≤ CC) (hs : slots ≤ SS) (hQ : Q (some w) h locs) : Goes p e below (EndN s Q CC SS) T m pc Ls (w :: St) := by
  obtain ⟨fs, hr, hrun, hended, hW, hsame⟩ := X.leave (v := some w) (fun r => by rw [C.c_rt, hrt] at r; cases r) C.c_lk
  subst eT
  exact ⟨_, _, retOut X C.c_x (C.c_rt.trans hrt) hn hi (hb C.c_by hd) hr, hrun, hended, _, _, rfl, hQ, ⟨_, rfl⟩, hW, hsame.mono hc hs⟩
theorem g_retI (C : Ctx p s m meth c Z own nm bytes ml rt) (X : Stand p l e R s m args below meth c T locs cells slots) {z : Int32} (hrt : rt = some .int) (hd : decode bytes pc = .ok (.ireturn, 1)) (eT : T.heap = h) (hc : cells ≤ CC) (hs : slots ≤ SS) (hQ : Q (some (.int z)) h locs) : Goes p e below (EndN s Q CC SS) T m pc Ls (.int z :: St) :=
  g_retW C X hrt rfl (Or.inl ⟨rfl, Or.inl rfl, z, rfl⟩) hd eT hc hs hQ
theorem g_retN (C : Ctx p s m meth c Z own nm bytes ml rt) (X : Stand p l e R s m args below meth c T locs cells slots) {z z' : Int32} {t : FieldType} (hrt : rt = some t) (ht : t = .boolean ∨ t = .byte ∨ t = .char ∨ t = .short) (hd : decode bytes pc = .ok (.ireturn, 1)) (eT : T.heap = h) (hc : cells ≤ CC) (hs : slots ≤ SS) (hz : nar t z = z') (hQ : Q (some (.int z')) h locs) : Goes p e below (EndN s Q CC SS) T m pc Ls (.int z :: St) := by
  obtain ⟨fs, hr, hrun, hended, hW, hsame⟩ := X.leave (v := some (.int (nar t z))) (fun r => by rw [C.c_rt, hrt] at r; cases r) C.c_lk
  subst eT
  subst hz
  exact ⟨_, _, retN X C.c_x (C.c_rt.trans hrt) ht (hb C.c_by hd) hr, hrun, hended, _, _, rfl, hQ, ⟨_, rfl⟩, hW, hsame.mono hc hs⟩
theorem g_retV (C : Ctx p s m meth c Z own nm bytes ml rt) (X : Stand p l e R s m args below meth c T locs cells slots) (hrt : rt = none) (hd : decode bytes pc = .ok (.return_, 1)) (eT : T.heap = h) (hc : cells ≤ CC) (hs : slots ≤ SS) (hQ : Q none h locs) : Goes p e below (EndN s Q CC SS) T m pc Ls [] := by
  obtain ⟨fs, hr, hrun, hended, hW, hsame⟩ := X.leave (v := none) (fun _ => rfl) C.c_lk
  subst eT
  exact ⟨_, _, X.returnOut C.c_x (C.c_rt.trans hrt) (hb C.c_by hd) hr, hrun, hended, _, _, rfl, hQ, ⟨_, rfl⟩, hW, hsame.mono hc hs⟩
def Ba (Z : State) (h : Heap) (a : Addr) (ty : FieldType) (n : Nat) (f : Nat → Int32) : Prop := ∃ c : Cell, Arr Z h a c ty ∧ c.slots.size = n ∧ n < 2 ^ 31 ∧ (∀ k, k < n → c.slots[k]? = some (.int (f k)))
def upd (f : Nat → Int32) (j : Nat) (v : Int32) : Nat → Int32 := fun k => bif Nat.beq k j then v else f k
theorem upd_same {f : Nat → Int32} {j k : Nat} {v : Int32} (q : k = j) : upd f j v k = v := by subst q; simp [upd]
theorem upd_ne {f : Nat → Int32} {j k : Nat} {v : Int32} (q : k ≠ j) : upd f j v k = f k := by
  have : Nat.beq k j = false := by
    cases hb : Nat.beq k j with
    | false => rfl
    | true => exact absurd (Nat.eq_of_beq_eq_true hb) q
  show (bif Nat.beq k j then v else f k) = f k
  rw [this]; rfl
theorem upd_eq (f : Nat → Int32) (j k : Nat) (v : Int32) : upd f j v k = if k = j then v else f k := by
  split
  · rename_i q; exact upd_same q
  · rename_i q; exact upd_ne q
theorem Ba.lt {a : Addr} {ty : FieldType} {n : Nat} {f : Nat → Int32} (F : Ba Z h a ty n f) : a < h.size := by obtain ⟨c, A, -⟩ := F; exact A.lt
theorem Ba.ext {h' : Heap} {a : Addr} {ty : FieldType} {n : Nat} {f : Nat → Int32} (F : Ba Z h a ty n f) (E : Ext h h') : Ba Z h' a ty n f := by obtain ⟨c, A, r⟩ := F; exact ⟨c, A.ext E, r⟩
theorem Ba.other {h' : Heap} {a b : Addr} {ty : FieldType} {n sl : Nat} {v : Value} {f : Nat → Int32} (F : Ba Z h a ty n f) (W : Wr h h' b sl v) (q : a ≠ b) : Ba Z h' a ty n f := by obtain ⟨c, A, r⟩ := F; exact ⟨c, A.other W q, r⟩
theorem Ba.keep {h' : Heap} {a : Addr} {ty : FieldType} {n : Nat} {ws : List Addr} {f : Nat → Int32} (F : Ba Z h a ty n f) (K : Keep h h' ws) (q : a ∉ ws) : Ba Z h' a ty n f := by obtain ⟨c, A, r⟩ := F; exact ⟨c, ⟨K.2.1 a c A.1 q, A.2⟩, r⟩
theorem Ba.same {h' : Heap} {a : Addr} {ty : FieldType} {n j : Nat} {v : Int32} {f : Nat → Int32} (F : Ba Z h a ty n f) (W : Wr h h' a j (.int v)) : Ba Z h' a ty n (upd f j v) := by
  obtain ⟨c, A, hs, hn, hf⟩ := F
  refine ⟨_, A.same W, by simp [Cell.setSlot, hs], hn, fun k hk => ?_⟩
  rw [upd_eq]
  by_cases q : k = j
  · subst q; simp [Cell.setSlot, hs, hk]
  · rw [if_neg q]; simp only [Cell.setSlot]; rw [Array.getElem?_setIfInBounds_ne (Ne.symm q)]; exact hf k hk
theorem Ba.cong {a : Addr} {ty : FieldType} {n : Nat} {f f' : Nat → Int32} (F : Ba Z h a ty n f) (q : ∀ k, k < n → f k = f' k) : Ba Z h a ty n f' := by
  obtain ⟨c, A, hs, hn, hf⟩ := F
  exact ⟨c, A, hs, hn, fun k hk => by rw [← q k hk]; exact hf k hk⟩
theorem Ba.new {a : Addr} {cA : ClassId} {ty : FieldType} {z : Int32} {n : Nat} (A : Arr Z h a (newA cA ty z) ty) (hz : z.toInt = n) (hd : defaultValue ty = .int 0) : Ba Z h a ty n (fun _ => 0) := by
  have hr := rng32 z
  have hn : z.toNatClampNeg = n := by simp only [Int32.toNatClampNeg, hz]; rfl
  exact ⟨_, A, by rw [sz_new, hn], by omega, fun k hk => by simp [newA, hn, hk, hd]⟩
theorem own_clamp {j : Int32} {k : Nat} (hj : j.toInt = k) : j.toNatClampNeg = k ∧ ¬ j < 0 := by
  refine ⟨by simp only [Int32.toNatClampNeg, hj]; rfl, fun r => ?_⟩
  have := Int32.lt_iff_toInt_lt.mp r
  rw [hj, own_z0] at this; omega
theorem own_in {j : Int32} {k n : Nat} {c : Cell} (hs : c.slots.size = n) (hj : j.toInt = k) (hk : k < n) : ¬ (j < 0 ∨ c.slots.size ≤ j.toNatClampNeg) := by
  obtain ⟨h1, h2⟩ := own_clamp hj
  rw [h1, hs]; intro r; rcases r with r | r
  · exact h2 r
  · omega
theorem own_lenI {n : Nat} (hn : n < 2 ^ 31) : (n.toInt32).toInt = n := by
  have := len_toInt hn
  exact this
theorem g_newP (q : Nat) (hq : pc + 2 = q) (C : Ctx p s m meth c Z own nm bytes ml rt) (X : Stand p l e R s m args below meth c T locs cells slots) {aty : ArrayType} {z : Int32} (n : Nat) (hz : z.toInt = n) (cap : Nat) (hcap : n ≤ cap) (hb' : cap * 8 ≤ 536870912) (hdf : defaultValue (newarray.typeOf aty) = .int 0) (w : (Cond.arrayClass (newarray.typeOf aty)).before a0 Z = true) (eT : T.heap = h) (hd : decode bytes pc = .ok (.newarray aty, 2)) (hc : cells + 1 ≤ R.cells) (hl : slots + cap ≤ R.slots)
    (k : ∀ T' h' a, a = h.size → Stand p l e R s m args below meth c T' locs (cells + 1) (slots + cap) → T'.heap = h' → Ext h h' → Ba Z h' a (newarray.typeOf aty) n (fun _ => 0) → Goes p e below E T' m q Ls (.ref a :: St)) : Goes p e below E T m pc Ls (.int z :: St) := by
  subst hq
  obtain ⟨h1, h2⟩ := own_clamp hz
  obtain ⟨T', h', cA, X', e', E', A', st⟩ := newP X C.c_x C.c_z w eT (g := mkF m pc Ls (.int z :: St)) rfl (hb C.c_by hd) rfl h2 (cap := cap) (by rw [h1]; exact hcap) hb' hc hl
  exact (k T' h' _ rfl X' e' E' (Ba.new A' hz hdf)).back fun t kt => st t kt
theorem g_baload (q : Nat) (hq : pc + 1 = q) (C : Ctx p s m meth c Z own nm bytes ml rt) (X : Stand p l e R s m args below meth c T locs cells slots) {a : Addr} {n : Nat} {f : Nat → Int32} {j : Int32} (eT : T.heap = h) (F : Ba Z h a .byte n f) (i : Nat) (hj : j.toInt = i) (hi : i < n) (v : Int32) (hv : f i = v) (hd : decode bytes pc = .ok (.baload, 1)) (k : Goes p e below E T m q Ls (.int v :: St)) : Goes p e below E T m pc Ls (.int j :: .ref a :: St) := by
  subst hq
  obtain ⟨c0, A, hs, hn, hf⟩ := F
  exact k.back fun t kt => X.baloadBytes C.c_x (j := j) (v := .int v) (by rw [eT]; exact A.1) (State.isArrayOf_alike C.c_z.alike A.2.1) A.2.2 (own_in hs hj hi) (by rw [(own_clamp hj).1, ← hv]; exact hf i hi) (g := mkF m pc Ls (.int j :: .ref a :: St)) rfl rfl (hb C.c_by hd) t kt
theorem g_bastore (q : Nat) (hq : pc + 1 = q) (C : Ctx p s m meth c Z own nm bytes ml rt) (X : Stand p l e R s m args below meth c T locs cells slots) {a : Addr} {n : Nat} {f : Nat → Int32} {j x : Int32} (eT : T.heap = h) (F : Ba Z h a .byte n f) (i : Nat) (hj : j.toInt = i) (hi : i < n) (v : Int32) (hv : x.toInt8.toInt32 = v) (hd : decode bytes pc = .ok (.bastore, 1)) {n0 : Nat} (N : Fr n0 locs) (hn0 : n0 ≤ a)
    (k : ∀ T' h' locs', Stand p l e R s m args below meth c T' locs' cells slots → T'.heap = h' → Wr h h' a i (.int v) → Ba Z h' a .byte n (upd f i v) → Fr n0 locs' → Goes p e below E T' m q Ls St) : Goes p e below E T m pc Ls (.int x :: .int j :: .ref a :: St) := by
  subst hq hv
  have F0 := F
  obtain ⟨c0, A, hs, hn, hf⟩ := F
  obtain ⟨T', h', X', e', W', st⟩ := stB X C.c_x C.c_z eT A (j := j) (own_in hs hj hi) (g := mkF m pc Ls (.int x :: .int j :: .ref a :: St)) rfl rfl (hb C.c_by hd)
  rw [(own_clamp hj).1] at W' X'
  exact (k T' h' _ X' e' W' (F0.same W') (Fr.snoc X' N hn0)).back fun t kt => st t kt
theorem own_narByte {b : Int32} (h0 : -128 ≤ b.toInt) (h1 : b.toInt < 128) : b.toInt8.toInt32 = b := by
  have := c_i2b b
  exact Int32.toInt_inj.mp (by omega)
theorem own_fitB {x : Int32} (h0 : -128 ≤ x.toInt) (h1 : x.toInt < 128) : fits .byte (.int x) = true := by
  have e := own_narByte h0 h1
  rw [← e]; exact fits_nar_byte x

theorem g_callS (q : Nat) (hq : pc + 3 = q) (C : Ctx p s m meth c Z own nm bytes ml rt) (X : Stand p l e R s m args below meth c T locs cells slots) {y : MethodName} {bytes' : ByteArray} {maxL' : Nat} {ret' : Option FieldType} {rm : Room} {Q' : Option Value → Heap → List Loc → Prop} {i W : Nat} {argsL : List Value} (w1 : (Cond.methodLink own i y).before a0 Z = true) (w2 : (Cond.static y).before a0 Z = true) (wc : (Cond.code y bytes' maxL' ret').before a0 Z = true) (wz : (Cond.initialized y.cls).before a0 Z = true) (eT : T.heap = h) (M : MetFree l y (head1 [Cond.code y bytes' maxL' ret'] rm) (fun a' U => a' = argsL.toArray ∧ Z.Warmed39 U.vm ∧ U.heap = h) (fun _ _ _ _ _ => True) (fun _ U o U' => ∃ v L, o = .returned v ∧ Q' v U'.heap L ∧ FrameEnd U o U' L rm.cells rm.slots)) (hlen : ∀ sig, parseMethodDescriptor y.desc = some sig → argsL.length = sig.parameters.length) (hf : rm.frames + 1 ≤ R.frames) (hl : W + (maxL' + 11) + rm.locals ≤ R.locals) (hc : cells + rm.cells ≤ R.cells) (hsl : slots + rm.slots ≤ R.slots) (hsz : Ls.size = ml) (hW : (St.map fun v => v.category).sum ≤ W) (hy : y.cls ≠ "java/lang/invoke/MethodHandle" ∧ y.cls ≠ "java/lang/invoke/VarHandle") (hd : decode bytes pc = .ok (.invokestatic i, 3)) {St0 : List Value} (hst : St0 = argsL.reverse ++ St)
    (k : ∀ v T' L, Stand p l e R s m args below meth c T' (locs ++ L) (cells + rm.cells) (slots + rm.slots) → Q' v T'.heap L → Goes p e below E T' m q Ls (v.toList ++ St)) : Goes p e below E T m pc Ls St0 := by
  subst hq hst
  obtain ⟨v, _, ⟨T', L', k', n'⟩, -, X', ⟨Lc, hQ', l', y', z'⟩, st⟩ := Jvm.LawKit.callS X C.c_x (y := y) C.c_own (mvT C.c_z w1) (mvT C.c_z w2) (mvT C.c_z wz) (mvT C.c_z wc) hy (backOf (W := W) M C.c_z wc wz hf hl) (g := mkF m pc Ls (argsL.reverse ++ St)) rfl (hsz.trans C.c_ml.symm) (argsL := argsL) (rest := St) hlen rfl (by show 2 * 0 + _ ≤ _; omega) (hb C.c_by hd) (fun _ _ => ⟨rfl, eT, hc, hsl⟩)
  dsimp only [Pt.U, Pt.locs, Pt.cells, Pt.slots] at X' l' y' z' st hQ'
  subst l' y' z'
  exact (k v T' Lc X' hQ').back fun t kt => st t kt
end Own
section OwnArith
theorem own_mulc (x y : Int32) (k : Int) (hk : y.toInt = k) : ((x * y).toInt - x.toInt * k) % 4294967296 = 0 := hk ▸ c_imul x y
theorem own_mulc' (x y : Int32) (k : Int) (hk : x.toInt = k) : ((x * y).toInt - k * y.toInt) % 4294967296 = 0 := hk ▸ c_imul x y
theorem own_lmulc (x y : Int64) (k : Int) (hk : y.toInt = k) : ((x * y).toInt - x.toInt * k) % 18446744073709551616 = 0 := hk ▸ c_lmul x y
theorem own_lmulc' (x y : Int64) (k : Int) (hk : x.toInt = k) : ((x * y).toInt - k * y.toInt) % 18446744073709551616 = 0 := hk ▸ c_lmul x y
theorem own_bvor (x y : BitVec 32) : (x ||| y) + (x &&& y) = x + y := by
  have h1 : x = (x &&& y) + (x &&& ~~~y) := by
    rw [BitVec.add_eq_or_of_and_eq_zero]
    · ext i; simp; cases x[i] <;> cases y[i] <;> rfl
    · ext i; simp; cases x[i] <;> cases y[i] <;> simp
  have h2 : x ||| y = y + (x &&& ~~~y) := by
    rw [BitVec.add_eq_or_of_and_eq_zero]
    · ext i; simp; cases x[i] <;> cases y[i] <;> rfl
    · ext i; simp; cases x[i] <;> cases y[i] <;> simp
  rw [h2]
  conv => rhs; rw [h1]
  ac_rfl
theorem own_or0 (x y : Int32) : (x ||| y) + (x &&& y) = x + y := Int32.toBitVec_inj.mp (by simpa using own_bvor x.toBitVec y.toBitVec)
theorem own_or (x y : Int32) : ((x ||| y).toInt + (x &&& y).toInt - (x.toInt + y.toInt)) % 4294967296 = 0 := by
  have h1 := c_iadd (x ||| y) (x &&& y)
  have h2 := c_iadd x y
  rw [own_or0] at h1; omega
theorem own_bvblk (x m a b : BitVec 32) (h1 : m ||| a = b) (h2 : m &&& a = 0#32) : (x &&& m) + (x &&& a) = x &&& b := by
  rw [BitVec.add_eq_or_of_and_eq_zero, ← h1]
  · ext i; simp; cases x[i] <;> simp
  · have : (x &&& m) &&& (x &&& a) = x &&& (m &&& a) := by ext i; simp; cases x[i] <;> simp
    rw [this, h2]; simp
theorem own_blk (x m a b : Int32) (h1 : m ||| a = b) (h2 : m &&& a = 0) : ((x &&& m).toInt + (x &&& a).toInt - (x &&& b).toInt) % 4294967296 = 0 := by
  have e : (x &&& m) + (x &&& a) = x &&& b := Int32.toBitVec_inj.mp (by
    have q1 := congrArg Int32.toBitVec h1
    have q2 := congrArg Int32.toBitVec h2
    simpa using own_bvblk x.toBitVec m.toBitVec a.toBitVec b.toBitVec (by simpa using q1) (by simpa using q2))
  have := c_iadd (x &&& m) (x &&& a)
  rw [e] at this; omega
theorem own_andM1 (x : Int32) : x &&& (-1) = x := Int32.toBitVec_inj.mp (by ext i; simp)
theorem own_narZ {b : Int32} (hb : b.toInt = 0 ∨ b.toInt = 1) : nar .boolean b = b := by
  have : b = 0 ∨ b = 1 := by
    rcases hb with q | q
    · exact Or.inl (Int32.toInt_inj.mp q)
    · exact Or.inr (Int32.toInt_inj.mp q)
  rcases this with rfl | rfl <;> decide
theorem own_narC {b : Int32} (h0 : 0 ≤ b.toInt) (h1 : b.toInt < 65536) : nar .char b = b := by
  have := c_i2c b
  exact Int32.toInt_inj.mp (by show b.toUInt32.toUInt16.toUInt32.toInt32.toInt = _; omega)
theorem own_narB {b : Int32} (h0 : -128 ≤ b.toInt) (h1 : b.toInt < 128) : nar .byte b = b := by
  have := c_i2b b
  exact Int32.toInt_inj.mp (by show b.toInt8.toInt32.toInt = _; omega)
theorem own_eq {x y : Int32} (q : x.toInt = y.toInt) : x = y := Int32.toInt_inj.mp q
theorem own_eqL {x y : Int64} (q : x.toInt = y.toInt) : x = y := Int64.toInt_inj.mp q
end OwnArith


theorem own_d3 (c : Int) : c / 4096 * 4096 + c / 64 % 64 * 64 + c % 64 = c := by
  have h1 : c / 4096 = c / 64 / 64 := by omega
  omega
theorem own_d4 (c : Int) : c / 262144 * 262144 + c / 4096 % 64 * 4096 + c / 64 % 64 * 64 + c % 64 = c := by
  have h1 : c / 4096 = c / 64 / 64 := by omega
  have h2 : c / 262144 = c / 4096 / 64 := by omega
  omega
theorem own_c2 {c x0 x1 : Int} (h : x0 = c / 64 - 64) (h' : x1 = c % 64 - 128) (h0 : 128 ≤ c) (h1 : c < 2048) : x0 % 32 * 64 + x1 % 64 = c := by
  have e0 : x0 % 32 = c / 64 := by omega
  have e1 : x1 % 64 = c % 64 := by omega
  rw [e0, e1]; omega
theorem own_c3 {c x0 x1 x2 : Int} (h : x0 = c / 4096 - 32) (h' : x1 = c / 64 % 64 - 128) (h'' : x2 = c % 64 - 128) (h0 : 2048 ≤ c) (h1 : c < 65536) : x0 % 16 * 4096 + x1 % 64 * 64 + x2 % 64 = c := by
  have e0 : x0 % 16 = c / 4096 := by omega
  have e1 : x1 % 64 = c / 64 % 64 := by omega
  have e2 : x2 % 64 = c % 64 := by omega
  rw [e0, e1, e2]; exact own_d3 c
theorem own_c4 {c x0 x1 x2 x3 : Int} (h : x0 = c / 262144 - 16) (h' : x1 = c / 4096 % 64 - 128) (h'' : x2 = c / 64 % 64 - 128) (h3 : x3 = c % 64 - 128) (h0 : 65536 ≤ c) (h1 : c < 1114112) : x0 % 8 * 262144 + x1 % 64 * 4096 + x2 % 64 * 64 + x3 % 64 = c := by
  have e0 : x0 % 8 = c / 262144 := by omega
  have e1 : x1 % 64 = c / 4096 % 64 := by omega
  have e2 : x2 % 64 = c / 64 % 64 := by omega
  have e3 : x3 % 64 = c % 64 := by omega
  rw [e0, e1, e2, e3]; exact own_d4 c
theorem own_s3 {c x0 x1 x2 : Int} (h : x0 = c / 4096 - 32) (h' : x1 = c / 64 % 64 - 128) (h'' : x2 = c % 64 - 128) (h0 : 2048 ≤ c) (h1 : c < 65536) (hs : c < 55296 ∨ 57343 < c) : -32 ≤ x0 ∧ x0 ≤ -17 ∧ x1 < -64 ∧ x2 < -64 ∧ (x0 = -32 → -96 ≤ x1) ∧ (x0 = -19 → x1 ≤ -97) := by
  have h1 : c / 4096 = c / 64 / 64 := by omega
  refine ⟨by omega, by omega, by omega, by omega, fun q => by omega, fun q => by omega⟩
theorem own_s4 {c x0 x1 x2 x3 : Int} (h : x0 = c / 262144 - 16) (h' : x1 = c / 4096 % 64 - 128) (h'' : x2 = c / 64 % 64 - 128) (h3 : x3 = c % 64 - 128) (h0 : 65536 ≤ c) (h1 : c < 1114112) : -16 ≤ x0 ∧ x0 ≤ -12 ∧ x1 < -64 ∧ x2 < -64 ∧ x3 < -64 ∧ (x0 = -16 → -112 ≤ x1) ∧ (x0 = -12 → x1 ≤ -113) := by
  have h2 : c / 262144 = c / 4096 / 64 := by omega
  refine ⟨by omega, by omega, by omega, by omega, by omega, fun q => by omega, fun q => by omega⟩
theorem own_m2048 {v w : Int32} (h : v + (-2048 : Int32) = w) (h1 : 55296 ≤ v.toInt) (h2 : v.toInt ≤ 57343) : w.toInt = v.toInt - 2048 := by
  have e : (-2048 : Int32).toInt = -2048 := rfl
  rw [← h, Int32.toInt_add, e]
  exact Int.bmod_eq_of_le (by omega) (by omega)
theorem own_r {y x : Int} {k : Int} (h : x = y % 64 - k) (hk : k = 128) : -128 ≤ x ∧ x < 128 := by omega
theorem d1_0 : decode prog_50_method_5_code 0 = .ok (.iload_n 0, 1) := by decide +kernel
theorem d1_1 : decode prog_50_method_5_code 1 = .ok (.sipush 128, 3) := by decide +kernel
theorem d1_4 : decode prog_50_method_5_code 4 = .ok (.if_icmp .ge 7, 3) := by decide +kernel
theorem d1_7 : decode prog_50_method_5_code 7 = .ok (.iconst 1, 1) := by decide +kernel
theorem d1_8 : decode prog_50_method_5_code 8 = .ok (.goto 25, 3) := by decide +kernel
theorem d1_33 : decode prog_50_method_5_code 33 = .ok (.ireturn, 1) := by decide +kernel
theorem pn_41208506 : plainName "com/example/schedario/schedario/records/Utf8" = true := by first | (simp [plainName, overriddenIn]; done) | decide +kernel
theorem ef_1_1 (m : MethodId) (p0 : Int32) : entryFrame m #[(.int p0)] 1 = mkF m 0 #[.val (.int p0)] [] := by first | (simp [entryFrame, mkF, argsToLocals, Value.category]; done) | rfl
def Q1_1 (Z : State) (p0 : Int32) (h0 : Heap) (n0 : Nat) (v : Option Value) (h : Heap) (L : List Loc) : Prop := v = some (.int 1) ∧ Fr n0 L ∧ h = h0
set_option maxRecDepth 65536 in
set_option maxHeartbeats 40000000 in
theorem rm1_1 (l : Launch) (Z : State) (a0 : Array Value) (hw : ∀ d ∈ tables_1, d.before a0 Z = true) (ws : List Jvm.Cond) (p0 : Int32) (h0 : Heap) (n0 : Nat) (Z0 : n0 ≤ h0.size) (hc : 0 ≤ p0.toInt ∧ p0.toInt < 128) :
    MetFree l (⟨"com/example/schedario/schedario/records/Utf8", "length", "(I)I"⟩ : MethodName) (head1 (Jvm.Cond.code (⟨"com/example/schedario/schedario/records/Utf8", "length", "(I)I"⟩ : MethodName) prog_50_method_5_code 1 (some .int) :: ws) ({ frames := 0, cells := 0, slots := 0, locals := 0 } : Room)) (fun a U => a = #[(.int p0)] ∧ Z.Warmed39 U.vm ∧ U.heap = h0) (fun _ _ _ _ _ => True) (fun _ U o U' => ∃ v L, o = .returned v ∧ Q1_1 Z p0 h0 n0 v U'.heap L ∧ FrameEnd U o U' L ({ frames := 0, cells := 0, slots := 0, locals := 0 } : Room).cells ({ frames := 0, cells := 0, slots := 0, locals := 0 } : Room).slots) := by
  refine MetFree.of_bodySF (plainFor_of_name pn_41208506) hisR ?_
  intro p e s m args below meth c s₁ Bd hml0 hP hK
  obtain ⟨rfl, hZ, hh⟩ := hP
  have C : Ctx p s m meth c Z "com/example/schedario/schedario/records/Utf8" "length" prog_50_method_5_code 1 (some .int) := Ctx.of Bd hml0 hZ
  have X0 : Stand p l e ({ frames := 0, cells := 0, slots := 0, locals := 0 } : Room) s m #[(.int p0)] below meth c s₁ [] 0 0 := Stand.of_body Bd
  have e0 : s₁.heap = h0 := by rw [← hh, Bd.state]; rfl
  have N0 := Fr.nil n0
  refine Goes.enter (ef_1_1 m p0) ?_
  clear hK hml0 hh
  refine g_iloadN 1 rfl C X0 d1_0 rfl ?_
  refine g_sipush 4 rfl C X0 (128 : Int32) d1_1 rfl ?_
  have fr1 := rng32 p0
  have fc2 : (128 : Int32).toInt = 128 := rfl
  have hb3 : p0.toInt < (128 : Int32).toInt := by omega
  refine g_icmp_ge_f 7 rfl C X0 d1_4 hb3 ?_
  refine g_iconst 8 rfl C X0 (1 : Int32) d1_7 rfl ?_
  refine g_goto 33 C X0 d1_8 (by decide) (by decide) ?_
  exact g_retI C X0 rfl d1_33 e0 (by decide) (by decide) ⟨rfl, N0, rfl⟩
theorem d1_11 : decode prog_50_method_5_code 11 = .ok (.iload_n 0, 1) := by decide +kernel
theorem d1_12 : decode prog_50_method_5_code 12 = .ok (.sipush 2048, 3) := by decide +kernel
theorem d1_15 : decode prog_50_method_5_code 15 = .ok (.if_icmp .ge 7, 3) := by decide +kernel
theorem d1_18 : decode prog_50_method_5_code 18 = .ok (.iconst 2, 1) := by decide +kernel
theorem d1_19 : decode prog_50_method_5_code 19 = .ok (.goto 14, 3) := by decide +kernel
theorem ef_1_2 (m : MethodId) (p0 : Int32) : entryFrame m #[(.int p0)] 1 = mkF m 0 #[.val (.int p0)] [] := by first | (simp [entryFrame, mkF, argsToLocals, Value.category]; done) | rfl
def Q1_2 (Z : State) (p0 : Int32) (h0 : Heap) (n0 : Nat) (v : Option Value) (h : Heap) (L : List Loc) : Prop := v = some (.int 2) ∧ Fr n0 L ∧ h = h0
set_option maxRecDepth 65536 in
set_option maxHeartbeats 40000000 in
theorem rm1_2 (l : Launch) (Z : State) (a0 : Array Value) (hw : ∀ d ∈ tables_1, d.before a0 Z = true) (ws : List Jvm.Cond) (p0 : Int32) (h0 : Heap) (n0 : Nat) (Z0 : n0 ≤ h0.size) (hc : 128 ≤ p0.toInt ∧ p0.toInt < 2048) :
    MetFree l (⟨"com/example/schedario/schedario/records/Utf8", "length", "(I)I"⟩ : MethodName) (head1 (Jvm.Cond.code (⟨"com/example/schedario/schedario/records/Utf8", "length", "(I)I"⟩ : MethodName) prog_50_method_5_code 1 (some .int) :: ws) ({ frames := 0, cells := 0, slots := 0, locals := 0 } : Room)) (fun a U => a = #[(.int p0)] ∧ Z.Warmed39 U.vm ∧ U.heap = h0) (fun _ _ _ _ _ => True) (fun _ U o U' => ∃ v L, o = .returned v ∧ Q1_2 Z p0 h0 n0 v U'.heap L ∧ FrameEnd U o U' L ({ frames := 0, cells := 0, slots := 0, locals := 0 } : Room).cells ({ frames := 0, cells := 0, slots := 0, locals := 0 } : Room).slots) := by
  refine MetFree.of_bodySF (plainFor_of_name pn_41208506) hisR ?_
  intro p e s m args below meth c s₁ Bd hml0 hP hK
  obtain ⟨rfl, hZ, hh⟩ := hP
  have C : Ctx p s m meth c Z "com/example/schedario/schedario/records/Utf8" "length" prog_50_method_5_code 1 (some .int) := Ctx.of Bd hml0 hZ
  have X0 : Stand p l e ({ frames := 0, cells := 0, slots := 0, locals := 0 } : Room) s m #[(.int p0)] below meth c s₁ [] 0 0 := Stand.of_body Bd
  have e0 : s₁.heap = h0 := by rw [← hh, Bd.state]; rfl
  have N0 := Fr.nil n0
  refine Goes.enter (ef_1_2 m p0) ?_
  clear hK hml0 hh
  refine g_iloadN 1 rfl C X0 d1_0 rfl ?_
  refine g_sipush 4 rfl C X0 (128 : Int32) d1_1 rfl ?_
  have fr1 := rng32 p0
  have fc2 : (128 : Int32).toInt = 128 := rfl
  have hb3 : ¬ (p0.toInt < (128 : Int32).toInt) := by omega
  refine g_icmp_ge_t 11 C X0 d1_4 (by decide) (by decide) hb3 ?_
  refine g_iloadN 12 rfl C X0 d1_11 rfl ?_
  refine g_sipush 15 rfl C X0 (2048 : Int32) d1_12 rfl ?_
  have fc4 : (2048 : Int32).toInt = 2048 := rfl
  have hb5 : p0.toInt < (2048 : Int32).toInt := by omega
  refine g_icmp_ge_f 18 rfl C X0 d1_15 hb5 ?_
  refine g_iconst 19 rfl C X0 (2 : Int32) d1_18 rfl ?_
  refine g_goto 33 C X0 d1_19 (by decide) (by decide) ?_
  exact g_retI C X0 rfl d1_33 e0 (by decide) (by decide) ⟨rfl, N0, rfl⟩
theorem d1_22 : decode prog_50_method_5_code 22 = .ok (.iload_n 0, 1) := by decide +kernel
theorem d1_23 : decode prog_50_method_5_code 23 = .ok (.ldc 13, 2) := by decide +kernel
theorem d1_25 : decode prog_50_method_5_code 25 = .ok (.if_icmp .ge 7, 3) := by decide +kernel
theorem d1_28 : decode prog_50_method_5_code 28 = .ok (.iconst 3, 1) := by decide +kernel
theorem d1_29 : decode prog_50_method_5_code 29 = .ok (.goto 4, 3) := by decide +kernel
theorem ef_1_3 (m : MethodId) (p0 : Int32) : entryFrame m #[(.int p0)] 1 = mkF m 0 #[.val (.int p0)] [] := by first | (simp [entryFrame, mkF, argsToLocals, Value.category]; done) | rfl
def Q1_3 (Z : State) (p0 : Int32) (h0 : Heap) (n0 : Nat) (v : Option Value) (h : Heap) (L : List Loc) : Prop := v = some (.int 3) ∧ Fr n0 L ∧ h = h0
set_option maxRecDepth 65536 in
set_option maxHeartbeats 40000000 in
theorem rm1_3 (l : Launch) (Z : State) (a0 : Array Value) (hw : ∀ d ∈ tables_1, d.before a0 Z = true) (ws : List Jvm.Cond) (p0 : Int32) (h0 : Heap) (n0 : Nat) (Z0 : n0 ≤ h0.size) (hc : 2048 ≤ p0.toInt ∧ p0.toInt < 65536) :
    MetFree l (⟨"com/example/schedario/schedario/records/Utf8", "length", "(I)I"⟩ : MethodName) (head1 (Jvm.Cond.code (⟨"com/example/schedario/schedario/records/Utf8", "length", "(I)I"⟩ : MethodName) prog_50_method_5_code 1 (some .int) :: ws) ({ frames := 0, cells := 0, slots := 0, locals := 0 } : Room)) (fun a U => a = #[(.int p0)] ∧ Z.Warmed39 U.vm ∧ U.heap = h0) (fun _ _ _ _ _ => True) (fun _ U o U' => ∃ v L, o = .returned v ∧ Q1_3 Z p0 h0 n0 v U'.heap L ∧ FrameEnd U o U' L ({ frames := 0, cells := 0, slots := 0, locals := 0 } : Room).cells ({ frames := 0, cells := 0, slots := 0, locals := 0 } : Room).slots) := by
  refine MetFree.of_bodySF (plainFor_of_name pn_41208506) hisR ?_
  intro p e s m args below meth c s₁ Bd hml0 hP hK
  obtain ⟨rfl, hZ, hh⟩ := hP
  have C : Ctx p s m meth c Z "com/example/schedario/schedario/records/Utf8" "length" prog_50_method_5_code 1 (some .int) := Ctx.of Bd hml0 hZ
  have X0 : Stand p l e ({ frames := 0, cells := 0, slots := 0, locals := 0 } : Room) s m #[(.int p0)] below meth c s₁ [] 0 0 := Stand.of_body Bd
  have e0 : s₁.heap = h0 := by rw [← hh, Bd.state]; rfl
  have N0 := Fr.nil n0
  refine Goes.enter (ef_1_3 m p0) ?_
  clear hK hml0 hh
  refine g_iloadN 1 rfl C X0 d1_0 rfl ?_
  refine g_sipush 4 rfl C X0 (128 : Int32) d1_1 rfl ?_
  have fr1 := rng32 p0
  have fc2 : (128 : Int32).toInt = 128 := rfl
  have hb3 : ¬ (p0.toInt < (128 : Int32).toInt) := by omega
  refine g_icmp_ge_t 11 C X0 d1_4 (by decide) (by decide) hb3 ?_
  refine g_iloadN 12 rfl C X0 d1_11 rfl ?_
  refine g_sipush 15 rfl C X0 (2048 : Int32) d1_12 rfl ?_
  have fc4 : (2048 : Int32).toInt = 2048 := rfl
  have hb5 : ¬ (p0.toInt < (2048 : Int32).toInt) := by omega
  refine g_icmp_ge_t 22 C X0 d1_15 (by decide) (by decide) hb5 ?_
  refine g_iloadN 23 rfl C X0 d1_22 rfl ?_
  refine g_ldc 25 rfl C X0 (hw _ (List.mem_of_getElem? (i := 18) rfl)) d1_23 ?_
  have fc6 : (65536 : Int32).toInt = 65536 := rfl
  have hb7 : p0.toInt < (65536 : Int32).toInt := by omega
  refine g_icmp_ge_f 28 rfl C X0 d1_25 hb7 ?_
  refine g_iconst 29 rfl C X0 (3 : Int32) d1_28 rfl ?_
  refine g_goto 33 C X0 d1_29 (by decide) (by decide) ?_
  exact g_retI C X0 rfl d1_33 e0 (by decide) (by decide) ⟨rfl, N0, rfl⟩
theorem d1_32 : decode prog_50_method_5_code 32 = .ok (.iconst 4, 1) := by decide +kernel
theorem ef_1_4 (m : MethodId) (p0 : Int32) : entryFrame m #[(.int p0)] 1 = mkF m 0 #[.val (.int p0)] [] := by first | (simp [entryFrame, mkF, argsToLocals, Value.category]; done) | rfl
def Q1_4 (Z : State) (p0 : Int32) (h0 : Heap) (n0 : Nat) (v : Option Value) (h : Heap) (L : List Loc) : Prop := v = some (.int 4) ∧ Fr n0 L ∧ h = h0
set_option maxRecDepth 65536 in
set_option maxHeartbeats 40000000 in
theorem rm1_4 (l : Launch) (Z : State) (a0 : Array Value) (hw : ∀ d ∈ tables_1, d.before a0 Z = true) (ws : List Jvm.Cond) (p0 : Int32) (h0 : Heap) (n0 : Nat) (Z0 : n0 ≤ h0.size) (hc : 65536 ≤ p0.toInt ∧ p0.toInt < 1114112) :
    MetFree l (⟨"com/example/schedario/schedario/records/Utf8", "length", "(I)I"⟩ : MethodName) (head1 (Jvm.Cond.code (⟨"com/example/schedario/schedario/records/Utf8", "length", "(I)I"⟩ : MethodName) prog_50_method_5_code 1 (some .int) :: ws) ({ frames := 0, cells := 0, slots := 0, locals := 0 } : Room)) (fun a U => a = #[(.int p0)] ∧ Z.Warmed39 U.vm ∧ U.heap = h0) (fun _ _ _ _ _ => True) (fun _ U o U' => ∃ v L, o = .returned v ∧ Q1_4 Z p0 h0 n0 v U'.heap L ∧ FrameEnd U o U' L ({ frames := 0, cells := 0, slots := 0, locals := 0 } : Room).cells ({ frames := 0, cells := 0, slots := 0, locals := 0 } : Room).slots) := by
  refine MetFree.of_bodySF (plainFor_of_name pn_41208506) hisR ?_
  intro p e s m args below meth c s₁ Bd hml0 hP hK
  obtain ⟨rfl, hZ, hh⟩ := hP
  have C : Ctx p s m meth c Z "com/example/schedario/schedario/records/Utf8" "length" prog_50_method_5_code 1 (some .int) := Ctx.of Bd hml0 hZ
  have X0 : Stand p l e ({ frames := 0, cells := 0, slots := 0, locals := 0 } : Room) s m #[(.int p0)] below meth c s₁ [] 0 0 := Stand.of_body Bd
  have e0 : s₁.heap = h0 := by rw [← hh, Bd.state]; rfl
  have N0 := Fr.nil n0
  refine Goes.enter (ef_1_4 m p0) ?_
  clear hK hml0 hh
  refine g_iloadN 1 rfl C X0 d1_0 rfl ?_
  refine g_sipush 4 rfl C X0 (128 : Int32) d1_1 rfl ?_
  have fr1 := rng32 p0
  have fc2 : (128 : Int32).toInt = 128 := rfl
  have hb3 : ¬ (p0.toInt < (128 : Int32).toInt) := by omega
  refine g_icmp_ge_t 11 C X0 d1_4 (by decide) (by decide) hb3 ?_
  refine g_iloadN 12 rfl C X0 d1_11 rfl ?_
  refine g_sipush 15 rfl C X0 (2048 : Int32) d1_12 rfl ?_
  have fc4 : (2048 : Int32).toInt = 2048 := rfl
  have hb5 : ¬ (p0.toInt < (2048 : Int32).toInt) := by omega
  refine g_icmp_ge_t 22 C X0 d1_15 (by decide) (by decide) hb5 ?_
  refine g_iloadN 23 rfl C X0 d1_22 rfl ?_
  refine g_ldc 25 rfl C X0 (hw _ (List.mem_of_getElem? (i := 18) rfl)) d1_23 ?_
  have fc6 : (65536 : Int32).toInt = 65536 := rfl
  have hb7 : ¬ (p0.toInt < (65536 : Int32).toInt) := by omega
  refine g_icmp_ge_t 32 C X0 d1_25 (by decide) (by decide) hb7 ?_
  refine g_iconst 33 rfl C X0 (4 : Int32) d1_32 rfl ?_
  exact g_retI C X0 rfl d1_33 e0 (by decide) (by decide) ⟨rfl, N0, rfl⟩
theorem d2_0 : decode prog_50_method_6_code 0 = .ok (.iload_n 0, 1) := by decide +kernel
theorem d2_1 : decode prog_50_method_6_code 1 = .ok (.invokestatic 14, 3) := by decide +kernel
theorem pd_52681284 : parseMethodDescriptor "(I)I" = some ⟨[.int], some .int⟩ := by decide +kernel
theorem d2_4 : decode prog_50_method_6_code 4 = .ok (.istore_n 3, 1) := by decide +kernel
theorem d2_5 : decode prog_50_method_6_code 5 = .ok (.iload_n 3, 1) := by decide +kernel
theorem d2_6 : decode prog_50_method_6_code 6 = .ok (.iconst 1, 1) := by decide +kernel
theorem d2_7 : decode prog_50_method_6_code 7 = .ok (.if_icmp .ne 9, 3) := by decide +kernel
theorem d2_10 : decode prog_50_method_6_code 10 = .ok (.aload_n 1, 1) := by decide +kernel
theorem d2_11 : decode prog_50_method_6_code 11 = .ok (.iload_n 2, 1) := by decide +kernel
theorem d2_12 : decode prog_50_method_6_code 12 = .ok (.iload_n 0, 1) := by decide +kernel
theorem d2_13 : decode prog_50_method_6_code 13 = .ok (.i2b, 1) := by decide +kernel
theorem d2_14 : decode prog_50_method_6_code 14 = .ok (.bastore, 1) := by decide +kernel
theorem d2_15 : decode prog_50_method_6_code 15 = .ok (.return_, 1) := by decide +kernel
theorem ef_2_1 (m : MethodId) (p0 : Int32) (b1 : Addr) : entryFrame m #[(.int p0), (.ref b1), (.int (0 : Int32))] 5 = mkF m 0 #[.val (.int p0), .val (.ref b1), .val (.int (0 : Int32)), .unset, .unset] [] := by first | (simp [entryFrame, mkF, argsToLocals, Value.category]; done) | rfl
def Q2_1 (Z : State) (p0 : Int32) (b1 : Addr) (f : Nat → Int32) (h0 : Heap) (n0 : Nat) (v : Option Value) (h : Heap) (L : List Loc) : Prop := ∃ f' : Nat → Int32, v = none ∧ ((f' 0).toInt = p0.toInt) ∧ (∀ k, 1 ≤ k → (f' k).toInt = (f k).toInt) ∧ Fr n0 L ∧ Keep h0 h [b1] ∧ Ba Z h b1 .byte 5 f'
set_option maxRecDepth 65536 in
set_option maxHeartbeats 40000000 in
theorem rm2_1 (l : Launch) (Z : State) (a0 : Array Value) (hw : ∀ d ∈ tables_1, d.before a0 Z = true) (ws : List Jvm.Cond) (p0 : Int32) (b1 : Addr) (f : Nat → Int32) (h0 : Heap) (n0 : Nat) (Z0 : n0 ≤ h0.size) (B_b1 : Ba Z h0 b1 .byte 5 f) (hc : 0 ≤ p0.toInt ∧ p0.toInt < 128) (g_b1 : n0 ≤ b1) :
    MetFree l (⟨"com/example/schedario/schedario/records/Utf8", "encode", "(I[BI)V"⟩ : MethodName) (head1 (Jvm.Cond.code (⟨"com/example/schedario/schedario/records/Utf8", "encode", "(I[BI)V"⟩ : MethodName) prog_50_method_6_code 5 none :: ws) ({ frames := 1, cells := 0, slots := 0, locals := 12 } : Room)) (fun a U => a = #[(.int p0), (.ref b1), (.int (0 : Int32))] ∧ Z.Warmed39 U.vm ∧ U.heap = h0) (fun _ _ _ _ _ => True) (fun _ U o U' => ∃ v L, o = .returned v ∧ Q2_1 Z p0 b1 f h0 n0 v U'.heap L ∧ FrameEnd U o U' L ({ frames := 1, cells := 0, slots := 0, locals := 12 } : Room).cells ({ frames := 1, cells := 0, slots := 0, locals := 12 } : Room).slots) := by
  refine MetFree.of_bodySF (plainFor_of_name pn_41208506) hisR ?_
  intro p e s m args below meth c s₁ Bd hml0 hP hK
  obtain ⟨rfl, hZ, hh⟩ := hP
  have C : Ctx p s m meth c Z "com/example/schedario/schedario/records/Utf8" "encode" prog_50_method_6_code 5 none := Ctx.of Bd hml0 hZ
  have X0 : Stand p l e ({ frames := 1, cells := 0, slots := 0, locals := 12 } : Room) s m #[(.int p0), (.ref b1), (.int (0 : Int32))] below meth c s₁ [] 0 0 := Stand.of_body Bd
  have e0 : s₁.heap = h0 := by rw [← hh, Bd.state]; rfl
  have N0 := Fr.nil n0
  refine Goes.enter (ef_2_1 m p0 b1) ?_
  clear hK hml0 hh
  refine g_iloadN 1 rfl C X0 d2_0 rfl ?_
  refine g_callS 4 rfl C X0 (argsL := [(.int p0)]) (hw _ (List.mem_of_getElem? (i := 9) rfl)) (hw _ (List.mem_of_getElem? (i := 2) rfl)) (hw _ (List.mem_of_getElem? (i := 4) rfl)) (hw _ (List.mem_of_getElem? (i := 3) rfl)) e0 (rm1_1 l Z a0 hw [] p0 h0 n0 Z0 hc) (lenOf pd_52681284 rfl) (by decide) (by decide) (by decide) (by decide) rfl (W := 0) (Nat.le_of_eq rfl) (by decide) d2_1 rfl fun r1 T2 Lc3 X4 hQ5 => ?_
  obtain ⟨rfl, Nq6, eh7⟩ := hQ5
  have N8 := Fr.app N0 Nq6
  show Goes _ _ _ _ _ _ 4 _ [(.int (1 : Int32))]
  refine g_istoreN 5 rfl C X4 (1 : Int32) rfl #[.val (.int p0), .val (.ref b1), .val (.int (0 : Int32)), .val (.int (1 : Int32)), .unset] d2_4 rfl ?_
  refine g_iloadN 6 rfl C X4 d2_5 rfl ?_
  refine g_iconst 7 rfl C X4 (1 : Int32) d2_6 rfl ?_
  refine g_icmp_ne_f 10 rfl C X4 d2_7 (by decide) ?_
  refine g_aloadN 11 rfl C X4 d2_10 rfl rfl ?_
  refine g_iloadN 12 rfl C X4 d2_11 rfl ?_
  refine g_iloadN 13 rfl C X4 d2_12 rfl ?_
  refine g_i2b 14 rfl C X4 d2_13 ?_
  obtain ⟨w9, hw9⟩ : ∃ z : Int32, ((((p0).toInt8.toInt32)).toInt8.toInt32) = z := ⟨_, rfl⟩
  refine g_bastore 15 rfl C X4 eh7 B_b1 0 (by decide) (by decide) w9 hw9 d2_14 N8 g_b1 fun T10 h11 ls12 X13 e14 W15 B16 N17 => ?_
  have Zs18 := Nat.le_trans Z0 (Nat.le_of_eq W15.size.symm)
  have Kp19 : Keep h0 h11 [b1] := (Keep.refl h0 [b1]).wr W15 (Or.inl (List.mem_of_getElem? (i := 0) rfl))
  have fc20 : (1 : Int32).toInt = 1 := rfl
  have fr21 := rng32 p0
  have fr22 := rng32 w9
  have fo23 := c_i2b p0
  have fo24 := c_i2b ((p0).toInt8.toInt32)
  have fe25 : ((((p0).toInt8.toInt32)).toInt8.toInt32).toInt = w9.toInt := congrArg Int32.toInt hw9
  have hv26 : ((upd f 0 w9) 0).toInt = w9.toInt := congrArg Int32.toInt (upd_same (by omega))
  exact g_retV C X13 rfl d2_15 e14 (by decide) (by decide) ⟨_, rfl, (by omega), (fun k hk => congrArg Int32.toInt (upd_ne (by omega))), N17, Kp19, B16⟩
theorem d2_16 : decode prog_50_method_6_code 16 = .ok (.iload_n 3, 1) := by decide +kernel
theorem d2_17 : decode prog_50_method_6_code 17 = .ok (.iconst 1, 1) := by decide +kernel
theorem d2_18 : decode prog_50_method_6_code 18 = .ok (.isub, 1) := by decide +kernel
theorem d2_19 : decode prog_50_method_6_code 19 = .ok (.istore 4, 2) := by decide +kernel
theorem d2_21 : decode prog_50_method_6_code 21 = .ok (.iload 4, 2) := by decide +kernel
theorem d2_23 : decode prog_50_method_6_code 23 = .ok (.ifCond .le 29, 3) := by decide +kernel
theorem d2_26 : decode prog_50_method_6_code 26 = .ok (.aload_n 1, 1) := by decide +kernel
theorem d2_27 : decode prog_50_method_6_code 27 = .ok (.iload_n 2, 1) := by decide +kernel
theorem d2_28 : decode prog_50_method_6_code 28 = .ok (.iload 4, 2) := by decide +kernel
theorem d2_30 : decode prog_50_method_6_code 30 = .ok (.iadd, 1) := by decide +kernel
theorem d2_31 : decode prog_50_method_6_code 31 = .ok (.sipush 128, 3) := by decide +kernel
theorem d2_34 : decode prog_50_method_6_code 34 = .ok (.iload_n 0, 1) := by decide +kernel
theorem d2_35 : decode prog_50_method_6_code 35 = .ok (.bipush 63, 2) := by decide +kernel
theorem d2_37 : decode prog_50_method_6_code 37 = .ok (.iand, 1) := by decide +kernel
theorem d2_38 : decode prog_50_method_6_code 38 = .ok (.ior, 1) := by decide +kernel
theorem d2_39 : decode prog_50_method_6_code 39 = .ok (.i2b, 1) := by decide +kernel
theorem d2_40 : decode prog_50_method_6_code 40 = .ok (.bastore, 1) := by decide +kernel
theorem d2_41 : decode prog_50_method_6_code 41 = .ok (.iload_n 0, 1) := by decide +kernel
theorem d2_42 : decode prog_50_method_6_code 42 = .ok (.bipush 6, 2) := by decide +kernel
theorem d2_44 : decode prog_50_method_6_code 44 = .ok (.ishr, 1) := by decide +kernel
theorem d2_45 : decode prog_50_method_6_code 45 = .ok (.istore_n 0, 1) := by decide +kernel
theorem d2_46 : decode prog_50_method_6_code 46 = .ok (.iinc 4 (-1), 3) := by decide +kernel
theorem d2_49 : decode prog_50_method_6_code 49 = .ok (.goto (-28), 3) := by decide +kernel
theorem d2_52 : decode prog_50_method_6_code 52 = .ok (.aload_n 1, 1) := by decide +kernel
theorem d2_53 : decode prog_50_method_6_code 53 = .ok (.iload_n 2, 1) := by decide +kernel
theorem d2_54 : decode prog_50_method_6_code 54 = .ok (.ldc 18, 2) := by decide +kernel
theorem d2_56 : decode prog_50_method_6_code 56 = .ok (.iload_n 3, 1) := by decide +kernel
theorem d2_57 : decode prog_50_method_6_code 57 = .ok (.ishr, 1) := by decide +kernel
theorem d2_58 : decode prog_50_method_6_code 58 = .ok (.iload_n 0, 1) := by decide +kernel
theorem d2_59 : decode prog_50_method_6_code 59 = .ok (.ior, 1) := by decide +kernel
theorem d2_60 : decode prog_50_method_6_code 60 = .ok (.i2b, 1) := by decide +kernel
theorem d2_61 : decode prog_50_method_6_code 61 = .ok (.bastore, 1) := by decide +kernel
theorem d2_62 : decode prog_50_method_6_code 62 = .ok (.return_, 1) := by decide +kernel
theorem ef_2_2 (m : MethodId) (p0 : Int32) (b1 : Addr) : entryFrame m #[(.int p0), (.ref b1), (.int (0 : Int32))] 5 = mkF m 0 #[.val (.int p0), .val (.ref b1), .val (.int (0 : Int32)), .unset, .unset] [] := by first | (simp [entryFrame, mkF, argsToLocals, Value.category]; done) | rfl
def Q2_2 (Z : State) (p0 : Int32) (b1 : Addr) (f : Nat → Int32) (h0 : Heap) (n0 : Nat) (v : Option Value) (h : Heap) (L : List Loc) : Prop := ∃ f' : Nat → Int32, v = none ∧ ((f' 0).toInt = p0.toInt / 64 - 64 ∧ (f' 1).toInt = p0.toInt % 64 - 128) ∧ (∀ k, 2 ≤ k → (f' k).toInt = (f k).toInt) ∧ Fr n0 L ∧ Keep h0 h [b1] ∧ Ba Z h b1 .byte 5 f'
set_option maxRecDepth 65536 in
set_option maxHeartbeats 40000000 in
theorem rm2_2 (l : Launch) (Z : State) (a0 : Array Value) (hw : ∀ d ∈ tables_1, d.before a0 Z = true) (ws : List Jvm.Cond) (p0 : Int32) (b1 : Addr) (f : Nat → Int32) (h0 : Heap) (n0 : Nat) (Z0 : n0 ≤ h0.size) (B_b1 : Ba Z h0 b1 .byte 5 f) (hc : 128 ≤ p0.toInt ∧ p0.toInt < 2048) (g_b1 : n0 ≤ b1) :
    MetFree l (⟨"com/example/schedario/schedario/records/Utf8", "encode", "(I[BI)V"⟩ : MethodName) (head1 (Jvm.Cond.code (⟨"com/example/schedario/schedario/records/Utf8", "encode", "(I[BI)V"⟩ : MethodName) prog_50_method_6_code 5 none :: ws) ({ frames := 1, cells := 0, slots := 0, locals := 12 } : Room)) (fun a U => a = #[(.int p0), (.ref b1), (.int (0 : Int32))] ∧ Z.Warmed39 U.vm ∧ U.heap = h0) (fun _ _ _ _ _ => True) (fun _ U o U' => ∃ v L, o = .returned v ∧ Q2_2 Z p0 b1 f h0 n0 v U'.heap L ∧ FrameEnd U o U' L ({ frames := 1, cells := 0, slots := 0, locals := 12 } : Room).cells ({ frames := 1, cells := 0, slots := 0, locals := 12 } : Room).slots) := by
  refine MetFree.of_bodySF (plainFor_of_name pn_41208506) hisR ?_
  intro p e s m args below meth c s₁ Bd hml0 hP hK
  obtain ⟨rfl, hZ, hh⟩ := hP
  have C : Ctx p s m meth c Z "com/example/schedario/schedario/records/Utf8" "encode" prog_50_method_6_code 5 none := Ctx.of Bd hml0 hZ
  have X0 : Stand p l e ({ frames := 1, cells := 0, slots := 0, locals := 12 } : Room) s m #[(.int p0), (.ref b1), (.int (0 : Int32))] below meth c s₁ [] 0 0 := Stand.of_body Bd
  have e0 : s₁.heap = h0 := by rw [← hh, Bd.state]; rfl
  have N0 := Fr.nil n0
  refine Goes.enter (ef_2_2 m p0 b1) ?_
  clear hK hml0 hh
  refine g_iloadN 1 rfl C X0 d2_0 rfl ?_
  refine g_callS 4 rfl C X0 (argsL := [(.int p0)]) (hw _ (List.mem_of_getElem? (i := 9) rfl)) (hw _ (List.mem_of_getElem? (i := 2) rfl)) (hw _ (List.mem_of_getElem? (i := 4) rfl)) (hw _ (List.mem_of_getElem? (i := 3) rfl)) e0 (rm1_2 l Z a0 hw [] p0 h0 n0 Z0 hc) (lenOf pd_52681284 rfl) (by decide) (by decide) (by decide) (by decide) rfl (W := 0) (Nat.le_of_eq rfl) (by decide) d2_1 rfl fun r1 T2 Lc3 X4 hQ5 => ?_
  obtain ⟨rfl, Nq6, eh7⟩ := hQ5
  have N8 := Fr.app N0 Nq6
  show Goes _ _ _ _ _ _ 4 _ [(.int (2 : Int32))]
  refine g_istoreN 5 rfl C X4 (2 : Int32) rfl #[.val (.int p0), .val (.ref b1), .val (.int (0 : Int32)), .val (.int (2 : Int32)), .unset] d2_4 rfl ?_
  refine g_iloadN 6 rfl C X4 d2_5 rfl ?_
  refine g_iconst 7 rfl C X4 (1 : Int32) d2_6 rfl ?_
  refine g_icmp_ne_t 16 C X4 d2_7 (by decide) (by decide) (by decide) ?_
  refine g_iloadN 17 rfl C X4 d2_16 rfl ?_
  refine g_iconst 18 rfl C X4 (1 : Int32) d2_17 rfl ?_
  refine g_isub 19 rfl C X4 d2_18 ?_
  refine g_istore 21 rfl C X4 (1 : Int32) (by decide) #[.val (.int p0), .val (.ref b1), .val (.int (0 : Int32)), .val (.int (2 : Int32)), .val (.int (1 : Int32))] d2_19 rfl ?_
  refine g_iload 23 rfl C X4 d2_21 rfl ?_
  refine g_if_le_f 26 rfl C X4 d2_23 (by decide) ?_
  refine g_aloadN 27 rfl C X4 d2_26 rfl rfl ?_
  refine g_iloadN 28 rfl C X4 d2_27 rfl ?_
  refine g_iload 30 rfl C X4 d2_28 rfl ?_
  refine g_iadd 31 rfl C X4 d2_30 ?_
  refine g_sipush 34 rfl C X4 (128 : Int32) d2_31 rfl ?_
  refine g_iloadN 35 rfl C X4 d2_34 rfl ?_
  refine g_bipush 37 rfl C X4 (63 : Int32) d2_35 rfl ?_
  refine g_iand 38 rfl C X4 d2_37 ?_
  refine g_ior 39 rfl C X4 d2_38 ?_
  refine g_i2b 40 rfl C X4 d2_39 ?_
  obtain ⟨w9, hw9⟩ : ∃ z : Int32, ((((((128 : Int32) ||| (p0 &&& (63 : Int32)))).toInt8.toInt32)).toInt8.toInt32) = z := ⟨_, rfl⟩
  refine g_bastore 41 rfl C X4 eh7 B_b1 1 (by decide) (by decide) w9 hw9 d2_40 N8 g_b1 fun T10 h11 ls12 X13 e14 W15 B16 N17 => ?_
  have Zs18 := Nat.le_trans Z0 (Nat.le_of_eq W15.size.symm)
  have Kp19 : Keep h0 h11 [b1] := (Keep.refl h0 [b1]).wr W15 (Or.inl (List.mem_of_getElem? (i := 0) rfl))
  refine g_iloadN 42 rfl C X13 d2_41 rfl ?_
  refine g_bipush 44 rfl C X13 (6 : Int32) d2_42 rfl ?_
  refine g_ishr 45 rfl C X13 d2_44 ?_
  obtain ⟨v20, hv20⟩ : ∃ z : Int32, (p0 >>> ((6 : Int32) &&& 31)) = z := ⟨_, rfl⟩
  refine g_istoreN 46 rfl C X13 v20 hv20 #[.val (.int v20), .val (.ref b1), .val (.int (0 : Int32)), .val (.int (2 : Int32)), .val (.int (1 : Int32))] d2_45 rfl ?_
  refine g_iinc 49 rfl C X13 (-1 : Int32) (0 : Int32) #[.val (.int v20), .val (.ref b1), .val (.int (0 : Int32)), .val (.int (2 : Int32)), .val (.int (0 : Int32))] d2_46 rfl rfl (by decide) rfl ?_
  refine g_goto 21 C X13 d2_49 (by decide) (by decide) ?_
  refine g_iload 23 rfl C X13 d2_21 rfl ?_
  refine g_if_le_t 52 C X13 d2_23 (by decide) (by decide) (by decide) ?_
  refine g_aloadN 53 rfl C X13 d2_52 rfl rfl ?_
  refine g_iloadN 54 rfl C X13 d2_53 rfl ?_
  refine g_ldc 56 rfl C X13 (hw _ (List.mem_of_getElem? (i := 19) rfl)) d2_54 ?_
  refine g_iloadN 57 rfl C X13 d2_56 rfl ?_
  refine g_ishr 58 rfl C X13 d2_57 ?_
  refine g_iloadN 59 rfl C X13 d2_58 rfl ?_
  refine g_ior 60 rfl C X13 d2_59 ?_
  refine g_i2b 61 rfl C X13 d2_60 ?_
  obtain ⟨w21, hw21⟩ : ∃ z : Int32, (((((((65280 : Int32) >>> ((2 : Int32) &&& 31)) ||| v20)).toInt8.toInt32)).toInt8.toInt32) = z := ⟨_, rfl⟩
  refine g_bastore 62 rfl C X13 e14 B16 0 (by decide) (by decide) w21 hw21 d2_61 N17 g_b1 fun T22 h23 ls24 X25 e26 W27 B28 N29 => ?_
  have Zs30 := Nat.le_trans Zs18 (Nat.le_of_eq W27.size.symm)
  have Kp31 : Keep h0 h23 [b1] := Kp19.wr W27 (Or.inl (List.mem_of_getElem? (i := 0) rfl))
  have fc32 : (2 : Int32).toInt = 2 := rfl
  have fc33 : (1 : Int32).toInt = 1 := rfl
  have fc34 : (0 : Int32).toInt = 0 := rfl
  have fr35 := rng32 p0
  have fr36 := rng32 w9
  have fc37 : (128 : Int32).toInt = 128 := rfl
  have fc38 : (63 : Int32).toInt = 63 := rfl
  have fo39 : (p0 &&& (63 : Int32)).toInt = p0.toInt % 64 := c_mask p0 (63 : Int32) 6 (by decide) (by decide)
  have fo40 := c_or (128 : Int32) (p0 &&& (63 : Int32)) 7 (by decide) 128 (by decide) (by omega) (by omega) (by omega)
  have fr41 := rng32 ((128 : Int32) ||| (p0 &&& (63 : Int32)))
  have fo42 := c_i2b ((128 : Int32) ||| (p0 &&& (63 : Int32)))
  have fo43 := c_i2b ((((128 : Int32) ||| (p0 &&& (63 : Int32)))).toInt8.toInt32)
  have fe44 : ((((((128 : Int32) ||| (p0 &&& (63 : Int32)))).toInt8.toInt32)).toInt8.toInt32).toInt = w9.toInt := congrArg Int32.toInt hw9
  have fr45 := rng32 w21
  have fc46 : ((65280 : Int32) >>> ((2 : Int32) &&& 31)).toInt = 16320 := by decide
  have fr47 := rng32 v20
  have fc48 : (6 : Int32).toInt = 6 := rfl
  have fo49 : ((p0 >>> ((6 : Int32) &&& 31))).toInt = p0.toInt / 64 := c_ishr p0 (6 : Int32) 6 (by decide)
  have fe50 : (p0 >>> ((6 : Int32) &&& 31)).toInt = v20.toInt := congrArg Int32.toInt hv20
  have fo51 := c_or ((65280 : Int32) >>> ((2 : Int32) &&& 31)) v20 6 (by decide) 64 (by decide) (by omega) (by omega) (by omega)
  have fr52 := rng32 (((65280 : Int32) >>> ((2 : Int32) &&& 31)) ||| v20)
  have fo53 := c_i2b (((65280 : Int32) >>> ((2 : Int32) &&& 31)) ||| v20)
  have fo54 := c_i2b (((((65280 : Int32) >>> ((2 : Int32) &&& 31)) ||| v20)).toInt8.toInt32)
  have fe55 : (((((((65280 : Int32) >>> ((2 : Int32) &&& 31)) ||| v20)).toInt8.toInt32)).toInt8.toInt32).toInt = w21.toInt := congrArg Int32.toInt hw21
  have hv56 : ((upd (upd f 1 w9) 0 w21) 0).toInt = w21.toInt := congrArg Int32.toInt (upd_same (by omega))
  have hv57 : ((upd (upd f 1 w9) 0 w21) 1).toInt = w9.toInt := congrArg Int32.toInt ((upd_ne (by omega)).trans (upd_same (by omega)))
  exact g_retV C X25 rfl d2_62 e26 (by decide) (by decide) ⟨_, rfl, ⟨(by omega), (by omega)⟩, (fun k hk => congrArg Int32.toInt ((upd_ne (by omega)).trans (upd_ne (by omega)))), N29, Kp31, B28⟩
theorem ef_2_3 (m : MethodId) (p0 : Int32) (b1 : Addr) : entryFrame m #[(.int p0), (.ref b1), (.int (0 : Int32))] 5 = mkF m 0 #[.val (.int p0), .val (.ref b1), .val (.int (0 : Int32)), .unset, .unset] [] := by first | (simp [entryFrame, mkF, argsToLocals, Value.category]; done) | rfl
def Q2_3 (Z : State) (p0 : Int32) (b1 : Addr) (f : Nat → Int32) (h0 : Heap) (n0 : Nat) (v : Option Value) (h : Heap) (L : List Loc) : Prop := ∃ f' : Nat → Int32, v = none ∧ ((f' 0).toInt = p0.toInt / 4096 - 32 ∧ (f' 1).toInt = p0.toInt / 64 % 64 - 128 ∧ (f' 2).toInt = p0.toInt % 64 - 128) ∧ (∀ k, 3 ≤ k → (f' k).toInt = (f k).toInt) ∧ Fr n0 L ∧ Keep h0 h [b1] ∧ Ba Z h b1 .byte 5 f'
set_option maxRecDepth 65536 in
set_option maxHeartbeats 40000000 in
theorem rm2_3 (l : Launch) (Z : State) (a0 : Array Value) (hw : ∀ d ∈ tables_1, d.before a0 Z = true) (ws : List Jvm.Cond) (p0 : Int32) (b1 : Addr) (f : Nat → Int32) (h0 : Heap) (n0 : Nat) (Z0 : n0 ≤ h0.size) (B_b1 : Ba Z h0 b1 .byte 5 f) (hc : 2048 ≤ p0.toInt ∧ p0.toInt < 65536) (g_b1 : n0 ≤ b1) :
    MetFree l (⟨"com/example/schedario/schedario/records/Utf8", "encode", "(I[BI)V"⟩ : MethodName) (head1 (Jvm.Cond.code (⟨"com/example/schedario/schedario/records/Utf8", "encode", "(I[BI)V"⟩ : MethodName) prog_50_method_6_code 5 none :: ws) ({ frames := 1, cells := 0, slots := 0, locals := 12 } : Room)) (fun a U => a = #[(.int p0), (.ref b1), (.int (0 : Int32))] ∧ Z.Warmed39 U.vm ∧ U.heap = h0) (fun _ _ _ _ _ => True) (fun _ U o U' => ∃ v L, o = .returned v ∧ Q2_3 Z p0 b1 f h0 n0 v U'.heap L ∧ FrameEnd U o U' L ({ frames := 1, cells := 0, slots := 0, locals := 12 } : Room).cells ({ frames := 1, cells := 0, slots := 0, locals := 12 } : Room).slots) := by
  refine MetFree.of_bodySF (plainFor_of_name pn_41208506) hisR ?_
  intro p e s m args below meth c s₁ Bd hml0 hP hK
  obtain ⟨rfl, hZ, hh⟩ := hP
  have C : Ctx p s m meth c Z "com/example/schedario/schedario/records/Utf8" "encode" prog_50_method_6_code 5 none := Ctx.of Bd hml0 hZ
  have X0 : Stand p l e ({ frames := 1, cells := 0, slots := 0, locals := 12 } : Room) s m #[(.int p0), (.ref b1), (.int (0 : Int32))] below meth c s₁ [] 0 0 := Stand.of_body Bd
  have e0 : s₁.heap = h0 := by rw [← hh, Bd.state]; rfl
  have N0 := Fr.nil n0
  refine Goes.enter (ef_2_3 m p0 b1) ?_
  clear hK hml0 hh
  refine g_iloadN 1 rfl C X0 d2_0 rfl ?_
  refine g_callS 4 rfl C X0 (argsL := [(.int p0)]) (hw _ (List.mem_of_getElem? (i := 9) rfl)) (hw _ (List.mem_of_getElem? (i := 2) rfl)) (hw _ (List.mem_of_getElem? (i := 4) rfl)) (hw _ (List.mem_of_getElem? (i := 3) rfl)) e0 (rm1_3 l Z a0 hw [] p0 h0 n0 Z0 hc) (lenOf pd_52681284 rfl) (by decide) (by decide) (by decide) (by decide) rfl (W := 0) (Nat.le_of_eq rfl) (by decide) d2_1 rfl fun r1 T2 Lc3 X4 hQ5 => ?_
  obtain ⟨rfl, Nq6, eh7⟩ := hQ5
  have N8 := Fr.app N0 Nq6
  show Goes _ _ _ _ _ _ 4 _ [(.int (3 : Int32))]
  refine g_istoreN 5 rfl C X4 (3 : Int32) rfl #[.val (.int p0), .val (.ref b1), .val (.int (0 : Int32)), .val (.int (3 : Int32)), .unset] d2_4 rfl ?_
  refine g_iloadN 6 rfl C X4 d2_5 rfl ?_
  refine g_iconst 7 rfl C X4 (1 : Int32) d2_6 rfl ?_
  refine g_icmp_ne_t 16 C X4 d2_7 (by decide) (by decide) (by decide) ?_
  refine g_iloadN 17 rfl C X4 d2_16 rfl ?_
  refine g_iconst 18 rfl C X4 (1 : Int32) d2_17 rfl ?_
  refine g_isub 19 rfl C X4 d2_18 ?_
  refine g_istore 21 rfl C X4 (2 : Int32) (by decide) #[.val (.int p0), .val (.ref b1), .val (.int (0 : Int32)), .val (.int (3 : Int32)), .val (.int (2 : Int32))] d2_19 rfl ?_
  refine g_iload 23 rfl C X4 d2_21 rfl ?_
  refine g_if_le_f 26 rfl C X4 d2_23 (by decide) ?_
  refine g_aloadN 27 rfl C X4 d2_26 rfl rfl ?_
  refine g_iloadN 28 rfl C X4 d2_27 rfl ?_
  refine g_iload 30 rfl C X4 d2_28 rfl ?_
  refine g_iadd 31 rfl C X4 d2_30 ?_
  refine g_sipush 34 rfl C X4 (128 : Int32) d2_31 rfl ?_
  refine g_iloadN 35 rfl C X4 d2_34 rfl ?_
  refine g_bipush 37 rfl C X4 (63 : Int32) d2_35 rfl ?_
  refine g_iand 38 rfl C X4 d2_37 ?_
  refine g_ior 39 rfl C X4 d2_38 ?_
  refine g_i2b 40 rfl C X4 d2_39 ?_
  obtain ⟨w9, hw9⟩ : ∃ z : Int32, ((((((128 : Int32) ||| (p0 &&& (63 : Int32)))).toInt8.toInt32)).toInt8.toInt32) = z := ⟨_, rfl⟩
  refine g_bastore 41 rfl C X4 eh7 B_b1 2 (by decide) (by decide) w9 hw9 d2_40 N8 g_b1 fun T10 h11 ls12 X13 e14 W15 B16 N17 => ?_
  have Zs18 := Nat.le_trans Z0 (Nat.le_of_eq W15.size.symm)
  have Kp19 : Keep h0 h11 [b1] := (Keep.refl h0 [b1]).wr W15 (Or.inl (List.mem_of_getElem? (i := 0) rfl))
  refine g_iloadN 42 rfl C X13 d2_41 rfl ?_
  refine g_bipush 44 rfl C X13 (6 : Int32) d2_42 rfl ?_
  refine g_ishr 45 rfl C X13 d2_44 ?_
  obtain ⟨v20, hv20⟩ : ∃ z : Int32, (p0 >>> ((6 : Int32) &&& 31)) = z := ⟨_, rfl⟩
  refine g_istoreN 46 rfl C X13 v20 hv20 #[.val (.int v20), .val (.ref b1), .val (.int (0 : Int32)), .val (.int (3 : Int32)), .val (.int (2 : Int32))] d2_45 rfl ?_
  refine g_iinc 49 rfl C X13 (-1 : Int32) (1 : Int32) #[.val (.int v20), .val (.ref b1), .val (.int (0 : Int32)), .val (.int (3 : Int32)), .val (.int (1 : Int32))] d2_46 rfl rfl (by decide) rfl ?_
  refine g_goto 21 C X13 d2_49 (by decide) (by decide) ?_
  refine g_iload 23 rfl C X13 d2_21 rfl ?_
  refine g_if_le_f 26 rfl C X13 d2_23 (by decide) ?_
  refine g_aloadN 27 rfl C X13 d2_26 rfl rfl ?_
  refine g_iloadN 28 rfl C X13 d2_27 rfl ?_
  refine g_iload 30 rfl C X13 d2_28 rfl ?_
  refine g_iadd 31 rfl C X13 d2_30 ?_
  refine g_sipush 34 rfl C X13 (128 : Int32) d2_31 rfl ?_
  refine g_iloadN 35 rfl C X13 d2_34 rfl ?_
  refine g_bipush 37 rfl C X13 (63 : Int32) d2_35 rfl ?_
  refine g_iand 38 rfl C X13 d2_37 ?_
  refine g_ior 39 rfl C X13 d2_38 ?_
  refine g_i2b 40 rfl C X13 d2_39 ?_
  obtain ⟨w21, hw21⟩ : ∃ z : Int32, ((((((128 : Int32) ||| (v20 &&& (63 : Int32)))).toInt8.toInt32)).toInt8.toInt32) = z := ⟨_, rfl⟩
  refine g_bastore 41 rfl C X13 e14 B16 1 (by decide) (by decide) w21 hw21 d2_40 N17 g_b1 fun T22 h23 ls24 X25 e26 W27 B28 N29 => ?_
  have Zs30 := Nat.le_trans Zs18 (Nat.le_of_eq W27.size.symm)
  have Kp31 : Keep h0 h23 [b1] := Kp19.wr W27 (Or.inl (List.mem_of_getElem? (i := 0) rfl))
  refine g_iloadN 42 rfl C X25 d2_41 rfl ?_
  refine g_bipush 44 rfl C X25 (6 : Int32) d2_42 rfl ?_
  refine g_ishr 45 rfl C X25 d2_44 ?_
  obtain ⟨v32, hv32⟩ : ∃ z : Int32, (v20 >>> ((6 : Int32) &&& 31)) = z := ⟨_, rfl⟩
  refine g_istoreN 46 rfl C X25 v32 hv32 #[.val (.int v32), .val (.ref b1), .val (.int (0 : Int32)), .val (.int (3 : Int32)), .val (.int (1 : Int32))] d2_45 rfl ?_
  refine g_iinc 49 rfl C X25 (-1 : Int32) (0 : Int32) #[.val (.int v32), .val (.ref b1), .val (.int (0 : Int32)), .val (.int (3 : Int32)), .val (.int (0 : Int32))] d2_46 rfl rfl (by decide) rfl ?_
  refine g_goto 21 C X25 d2_49 (by decide) (by decide) ?_
  refine g_iload 23 rfl C X25 d2_21 rfl ?_
  refine g_if_le_t 52 C X25 d2_23 (by decide) (by decide) (by decide) ?_
  refine g_aloadN 53 rfl C X25 d2_52 rfl rfl ?_
  refine g_iloadN 54 rfl C X25 d2_53 rfl ?_
  refine g_ldc 56 rfl C X25 (hw _ (List.mem_of_getElem? (i := 19) rfl)) d2_54 ?_
  refine g_iloadN 57 rfl C X25 d2_56 rfl ?_
  refine g_ishr 58 rfl C X25 d2_57 ?_
  refine g_iloadN 59 rfl C X25 d2_58 rfl ?_
  refine g_ior 60 rfl C X25 d2_59 ?_
  refine g_i2b 61 rfl C X25 d2_60 ?_
  obtain ⟨w33, hw33⟩ : ∃ z : Int32, (((((((65280 : Int32) >>> ((3 : Int32) &&& 31)) ||| v32)).toInt8.toInt32)).toInt8.toInt32) = z := ⟨_, rfl⟩
  refine g_bastore 62 rfl C X25 e26 B28 0 (by decide) (by decide) w33 hw33 d2_61 N29 g_b1 fun T34 h35 ls36 X37 e38 W39 B40 N41 => ?_
  have Zs42 := Nat.le_trans Zs30 (Nat.le_of_eq W39.size.symm)
  have Kp43 : Keep h0 h35 [b1] := Kp31.wr W39 (Or.inl (List.mem_of_getElem? (i := 0) rfl))
  have fc44 : (3 : Int32).toInt = 3 := rfl
  have fc45 : (1 : Int32).toInt = 1 := rfl
  have fc46 : (2 : Int32).toInt = 2 := rfl
  have fc47 : (0 : Int32).toInt = 0 := rfl
  have fr48 := rng32 p0
  have fr49 := rng32 w9
  have fc50 : (128 : Int32).toInt = 128 := rfl
  have fc51 : (63 : Int32).toInt = 63 := rfl
  have fo52 : (p0 &&& (63 : Int32)).toInt = p0.toInt % 64 := c_mask p0 (63 : Int32) 6 (by decide) (by decide)
  have fo53 := c_or (128 : Int32) (p0 &&& (63 : Int32)) 7 (by decide) 128 (by decide) (by omega) (by omega) (by omega)
  have fr54 := rng32 ((128 : Int32) ||| (p0 &&& (63 : Int32)))
  have fo55 := c_i2b ((128 : Int32) ||| (p0 &&& (63 : Int32)))
  have fo56 := c_i2b ((((128 : Int32) ||| (p0 &&& (63 : Int32)))).toInt8.toInt32)
  have fe57 : ((((((128 : Int32) ||| (p0 &&& (63 : Int32)))).toInt8.toInt32)).toInt8.toInt32).toInt = w9.toInt := congrArg Int32.toInt hw9
  have fr58 := rng32 w21
  have fr59 := rng32 v20
  have fc60 : (6 : Int32).toInt = 6 := rfl
  have fo61 : ((p0 >>> ((6 : Int32) &&& 31))).toInt = p0.toInt / 64 := c_ishr p0 (6 : Int32) 6 (by decide)
  have fe62 : (p0 >>> ((6 : Int32) &&& 31)).toInt = v20.toInt := congrArg Int32.toInt hv20
  have fo63 : (v20 &&& (63 : Int32)).toInt = v20.toInt % 64 := c_mask v20 (63 : Int32) 6 (by decide) (by decide)
  have fo64 := c_or (128 : Int32) (v20 &&& (63 : Int32)) 7 (by decide) 128 (by decide) (by omega) (by omega) (by omega)
  have fr65 := rng32 ((128 : Int32) ||| (v20 &&& (63 : Int32)))
  have fo66 := c_i2b ((128 : Int32) ||| (v20 &&& (63 : Int32)))
  have fo67 := c_i2b ((((128 : Int32) ||| (v20 &&& (63 : Int32)))).toInt8.toInt32)
  have fe68 : ((((((128 : Int32) ||| (v20 &&& (63 : Int32)))).toInt8.toInt32)).toInt8.toInt32).toInt = w21.toInt := congrArg Int32.toInt hw21
  have fr69 := rng32 w33
  have fc70 : ((65280 : Int32) >>> ((3 : Int32) &&& 31)).toInt = 8160 := by decide
  have fr71 := rng32 v32
  have fo72 : ((v20 >>> ((6 : Int32) &&& 31))).toInt = v20.toInt / 64 := c_ishr v20 (6 : Int32) 6 (by decide)
  have fe73 : (v20 >>> ((6 : Int32) &&& 31)).toInt = v32.toInt := congrArg Int32.toInt hv32
  have fo74 := c_or ((65280 : Int32) >>> ((3 : Int32) &&& 31)) v32 5 (by decide) 32 (by decide) (by omega) (by omega) (by omega)
  have fr75 := rng32 (((65280 : Int32) >>> ((3 : Int32) &&& 31)) ||| v32)
  have fo76 := c_i2b (((65280 : Int32) >>> ((3 : Int32) &&& 31)) ||| v32)
  have fo77 := c_i2b (((((65280 : Int32) >>> ((3 : Int32) &&& 31)) ||| v32)).toInt8.toInt32)
  have fe78 : (((((((65280 : Int32) >>> ((3 : Int32) &&& 31)) ||| v32)).toInt8.toInt32)).toInt8.toInt32).toInt = w33.toInt := congrArg Int32.toInt hw33
  have hv79 : ((upd (upd (upd f 2 w9) 1 w21) 0 w33) 0).toInt = w33.toInt := congrArg Int32.toInt (upd_same (by omega))
  have hv80 : ((upd (upd (upd f 2 w9) 1 w21) 0 w33) 1).toInt = w21.toInt := congrArg Int32.toInt ((upd_ne (by omega)).trans (upd_same (by omega)))
  have hv81 : ((upd (upd (upd f 2 w9) 1 w21) 0 w33) 2).toInt = w9.toInt := congrArg Int32.toInt ((upd_ne (by omega)).trans ((upd_ne (by omega)).trans (upd_same (by omega))))
  exact g_retV C X37 rfl d2_62 e38 (by decide) (by decide) ⟨_, rfl, ⟨(by omega), (by omega), (by omega)⟩, (fun k hk => congrArg Int32.toInt ((upd_ne (by omega)).trans ((upd_ne (by omega)).trans (upd_ne (by omega))))), N41, Kp43, B40⟩
theorem ef_2_4 (m : MethodId) (p0 : Int32) (b1 : Addr) : entryFrame m #[(.int p0), (.ref b1), (.int (0 : Int32))] 5 = mkF m 0 #[.val (.int p0), .val (.ref b1), .val (.int (0 : Int32)), .unset, .unset] [] := by first | (simp [entryFrame, mkF, argsToLocals, Value.category]; done) | rfl
def Q2_4 (Z : State) (p0 : Int32) (b1 : Addr) (f : Nat → Int32) (h0 : Heap) (n0 : Nat) (v : Option Value) (h : Heap) (L : List Loc) : Prop := ∃ f' : Nat → Int32, v = none ∧ ((f' 0).toInt = p0.toInt / 262144 - 16 ∧ (f' 1).toInt = p0.toInt / 4096 % 64 - 128 ∧ (f' 2).toInt = p0.toInt / 64 % 64 - 128 ∧ (f' 3).toInt = p0.toInt % 64 - 128) ∧ (∀ k, 4 ≤ k → (f' k).toInt = (f k).toInt) ∧ Fr n0 L ∧ Keep h0 h [b1] ∧ Ba Z h b1 .byte 5 f'
set_option maxRecDepth 65536 in
set_option maxHeartbeats 40000000 in
theorem rm2_4 (l : Launch) (Z : State) (a0 : Array Value) (hw : ∀ d ∈ tables_1, d.before a0 Z = true) (ws : List Jvm.Cond) (p0 : Int32) (b1 : Addr) (f : Nat → Int32) (h0 : Heap) (n0 : Nat) (Z0 : n0 ≤ h0.size) (B_b1 : Ba Z h0 b1 .byte 5 f) (hc : 65536 ≤ p0.toInt ∧ p0.toInt < 1114112) (g_b1 : n0 ≤ b1) :
    MetFree l (⟨"com/example/schedario/schedario/records/Utf8", "encode", "(I[BI)V"⟩ : MethodName) (head1 (Jvm.Cond.code (⟨"com/example/schedario/schedario/records/Utf8", "encode", "(I[BI)V"⟩ : MethodName) prog_50_method_6_code 5 none :: ws) ({ frames := 1, cells := 0, slots := 0, locals := 12 } : Room)) (fun a U => a = #[(.int p0), (.ref b1), (.int (0 : Int32))] ∧ Z.Warmed39 U.vm ∧ U.heap = h0) (fun _ _ _ _ _ => True) (fun _ U o U' => ∃ v L, o = .returned v ∧ Q2_4 Z p0 b1 f h0 n0 v U'.heap L ∧ FrameEnd U o U' L ({ frames := 1, cells := 0, slots := 0, locals := 12 } : Room).cells ({ frames := 1, cells := 0, slots := 0, locals := 12 } : Room).slots) := by
  refine MetFree.of_bodySF (plainFor_of_name pn_41208506) hisR ?_
  intro p e s m args below meth c s₁ Bd hml0 hP hK
  obtain ⟨rfl, hZ, hh⟩ := hP
  have C : Ctx p s m meth c Z "com/example/schedario/schedario/records/Utf8" "encode" prog_50_method_6_code 5 none := Ctx.of Bd hml0 hZ
  have X0 : Stand p l e ({ frames := 1, cells := 0, slots := 0, locals := 12 } : Room) s m #[(.int p0), (.ref b1), (.int (0 : Int32))] below meth c s₁ [] 0 0 := Stand.of_body Bd
  have e0 : s₁.heap = h0 := by rw [← hh, Bd.state]; rfl
  have N0 := Fr.nil n0
  refine Goes.enter (ef_2_4 m p0 b1) ?_
  clear hK hml0 hh
  refine g_iloadN 1 rfl C X0 d2_0 rfl ?_
  refine g_callS 4 rfl C X0 (argsL := [(.int p0)]) (hw _ (List.mem_of_getElem? (i := 9) rfl)) (hw _ (List.mem_of_getElem? (i := 2) rfl)) (hw _ (List.mem_of_getElem? (i := 4) rfl)) (hw _ (List.mem_of_getElem? (i := 3) rfl)) e0 (rm1_4 l Z a0 hw [] p0 h0 n0 Z0 hc) (lenOf pd_52681284 rfl) (by decide) (by decide) (by decide) (by decide) rfl (W := 0) (Nat.le_of_eq rfl) (by decide) d2_1 rfl fun r1 T2 Lc3 X4 hQ5 => ?_
  obtain ⟨rfl, Nq6, eh7⟩ := hQ5
  have N8 := Fr.app N0 Nq6
  show Goes _ _ _ _ _ _ 4 _ [(.int (4 : Int32))]
  refine g_istoreN 5 rfl C X4 (4 : Int32) rfl #[.val (.int p0), .val (.ref b1), .val (.int (0 : Int32)), .val (.int (4 : Int32)), .unset] d2_4 rfl ?_
  refine g_iloadN 6 rfl C X4 d2_5 rfl ?_
  refine g_iconst 7 rfl C X4 (1 : Int32) d2_6 rfl ?_
  refine g_icmp_ne_t 16 C X4 d2_7 (by decide) (by decide) (by decide) ?_
  refine g_iloadN 17 rfl C X4 d2_16 rfl ?_
  refine g_iconst 18 rfl C X4 (1 : Int32) d2_17 rfl ?_
  refine g_isub 19 rfl C X4 d2_18 ?_
  refine g_istore 21 rfl C X4 (3 : Int32) (by decide) #[.val (.int p0), .val (.ref b1), .val (.int (0 : Int32)), .val (.int (4 : Int32)), .val (.int (3 : Int32))] d2_19 rfl ?_
  refine g_iload 23 rfl C X4 d2_21 rfl ?_
  refine g_if_le_f 26 rfl C X4 d2_23 (by decide) ?_
  refine g_aloadN 27 rfl C X4 d2_26 rfl rfl ?_
  refine g_iloadN 28 rfl C X4 d2_27 rfl ?_
  refine g_iload 30 rfl C X4 d2_28 rfl ?_
  refine g_iadd 31 rfl C X4 d2_30 ?_
  refine g_sipush 34 rfl C X4 (128 : Int32) d2_31 rfl ?_
  refine g_iloadN 35 rfl C X4 d2_34 rfl ?_
  refine g_bipush 37 rfl C X4 (63 : Int32) d2_35 rfl ?_
  refine g_iand 38 rfl C X4 d2_37 ?_
  refine g_ior 39 rfl C X4 d2_38 ?_
  refine g_i2b 40 rfl C X4 d2_39 ?_
  obtain ⟨w9, hw9⟩ : ∃ z : Int32, ((((((128 : Int32) ||| (p0 &&& (63 : Int32)))).toInt8.toInt32)).toInt8.toInt32) = z := ⟨_, rfl⟩
  refine g_bastore 41 rfl C X4 eh7 B_b1 3 (by decide) (by decide) w9 hw9 d2_40 N8 g_b1 fun T10 h11 ls12 X13 e14 W15 B16 N17 => ?_
  have Zs18 := Nat.le_trans Z0 (Nat.le_of_eq W15.size.symm)
  have Kp19 : Keep h0 h11 [b1] := (Keep.refl h0 [b1]).wr W15 (Or.inl (List.mem_of_getElem? (i := 0) rfl))
  refine g_iloadN 42 rfl C X13 d2_41 rfl ?_
  refine g_bipush 44 rfl C X13 (6 : Int32) d2_42 rfl ?_
  refine g_ishr 45 rfl C X13 d2_44 ?_
  obtain ⟨v20, hv20⟩ : ∃ z : Int32, (p0 >>> ((6 : Int32) &&& 31)) = z := ⟨_, rfl⟩
  refine g_istoreN 46 rfl C X13 v20 hv20 #[.val (.int v20), .val (.ref b1), .val (.int (0 : Int32)), .val (.int (4 : Int32)), .val (.int (3 : Int32))] d2_45 rfl ?_
  refine g_iinc 49 rfl C X13 (-1 : Int32) (2 : Int32) #[.val (.int v20), .val (.ref b1), .val (.int (0 : Int32)), .val (.int (4 : Int32)), .val (.int (2 : Int32))] d2_46 rfl rfl (by decide) rfl ?_
  refine g_goto 21 C X13 d2_49 (by decide) (by decide) ?_
  refine g_iload 23 rfl C X13 d2_21 rfl ?_
  refine g_if_le_f 26 rfl C X13 d2_23 (by decide) ?_
  refine g_aloadN 27 rfl C X13 d2_26 rfl rfl ?_
  refine g_iloadN 28 rfl C X13 d2_27 rfl ?_
  refine g_iload 30 rfl C X13 d2_28 rfl ?_
  refine g_iadd 31 rfl C X13 d2_30 ?_
  refine g_sipush 34 rfl C X13 (128 : Int32) d2_31 rfl ?_
  refine g_iloadN 35 rfl C X13 d2_34 rfl ?_
  refine g_bipush 37 rfl C X13 (63 : Int32) d2_35 rfl ?_
  refine g_iand 38 rfl C X13 d2_37 ?_
  refine g_ior 39 rfl C X13 d2_38 ?_
  refine g_i2b 40 rfl C X13 d2_39 ?_
  obtain ⟨w21, hw21⟩ : ∃ z : Int32, ((((((128 : Int32) ||| (v20 &&& (63 : Int32)))).toInt8.toInt32)).toInt8.toInt32) = z := ⟨_, rfl⟩
  refine g_bastore 41 rfl C X13 e14 B16 2 (by decide) (by decide) w21 hw21 d2_40 N17 g_b1 fun T22 h23 ls24 X25 e26 W27 B28 N29 => ?_
  have Zs30 := Nat.le_trans Zs18 (Nat.le_of_eq W27.size.symm)
  have Kp31 : Keep h0 h23 [b1] := Kp19.wr W27 (Or.inl (List.mem_of_getElem? (i := 0) rfl))
  refine g_iloadN 42 rfl C X25 d2_41 rfl ?_
  refine g_bipush 44 rfl C X25 (6 : Int32) d2_42 rfl ?_
  refine g_ishr 45 rfl C X25 d2_44 ?_
  obtain ⟨v32, hv32⟩ : ∃ z : Int32, (v20 >>> ((6 : Int32) &&& 31)) = z := ⟨_, rfl⟩
  refine g_istoreN 46 rfl C X25 v32 hv32 #[.val (.int v32), .val (.ref b1), .val (.int (0 : Int32)), .val (.int (4 : Int32)), .val (.int (2 : Int32))] d2_45 rfl ?_
  refine g_iinc 49 rfl C X25 (-1 : Int32) (1 : Int32) #[.val (.int v32), .val (.ref b1), .val (.int (0 : Int32)), .val (.int (4 : Int32)), .val (.int (1 : Int32))] d2_46 rfl rfl (by decide) rfl ?_
  refine g_goto 21 C X25 d2_49 (by decide) (by decide) ?_
  refine g_iload 23 rfl C X25 d2_21 rfl ?_
  refine g_if_le_f 26 rfl C X25 d2_23 (by decide) ?_
  refine g_aloadN 27 rfl C X25 d2_26 rfl rfl ?_
  refine g_iloadN 28 rfl C X25 d2_27 rfl ?_
  refine g_iload 30 rfl C X25 d2_28 rfl ?_
  refine g_iadd 31 rfl C X25 d2_30 ?_
  refine g_sipush 34 rfl C X25 (128 : Int32) d2_31 rfl ?_
  refine g_iloadN 35 rfl C X25 d2_34 rfl ?_
  refine g_bipush 37 rfl C X25 (63 : Int32) d2_35 rfl ?_
  refine g_iand 38 rfl C X25 d2_37 ?_
  refine g_ior 39 rfl C X25 d2_38 ?_
  refine g_i2b 40 rfl C X25 d2_39 ?_
  obtain ⟨w33, hw33⟩ : ∃ z : Int32, ((((((128 : Int32) ||| (v32 &&& (63 : Int32)))).toInt8.toInt32)).toInt8.toInt32) = z := ⟨_, rfl⟩
  refine g_bastore 41 rfl C X25 e26 B28 1 (by decide) (by decide) w33 hw33 d2_40 N29 g_b1 fun T34 h35 ls36 X37 e38 W39 B40 N41 => ?_
  have Zs42 := Nat.le_trans Zs30 (Nat.le_of_eq W39.size.symm)
  have Kp43 : Keep h0 h35 [b1] := Kp31.wr W39 (Or.inl (List.mem_of_getElem? (i := 0) rfl))
  refine g_iloadN 42 rfl C X37 d2_41 rfl ?_
  refine g_bipush 44 rfl C X37 (6 : Int32) d2_42 rfl ?_
  refine g_ishr 45 rfl C X37 d2_44 ?_
  obtain ⟨v44, hv44⟩ : ∃ z : Int32, (v32 >>> ((6 : Int32) &&& 31)) = z := ⟨_, rfl⟩
  refine g_istoreN 46 rfl C X37 v44 hv44 #[.val (.int v44), .val (.ref b1), .val (.int (0 : Int32)), .val (.int (4 : Int32)), .val (.int (1 : Int32))] d2_45 rfl ?_
  refine g_iinc 49 rfl C X37 (-1 : Int32) (0 : Int32) #[.val (.int v44), .val (.ref b1), .val (.int (0 : Int32)), .val (.int (4 : Int32)), .val (.int (0 : Int32))] d2_46 rfl rfl (by decide) rfl ?_
  refine g_goto 21 C X37 d2_49 (by decide) (by decide) ?_
  refine g_iload 23 rfl C X37 d2_21 rfl ?_
  refine g_if_le_t 52 C X37 d2_23 (by decide) (by decide) (by decide) ?_
  refine g_aloadN 53 rfl C X37 d2_52 rfl rfl ?_
  refine g_iloadN 54 rfl C X37 d2_53 rfl ?_
  refine g_ldc 56 rfl C X37 (hw _ (List.mem_of_getElem? (i := 19) rfl)) d2_54 ?_
  refine g_iloadN 57 rfl C X37 d2_56 rfl ?_
  refine g_ishr 58 rfl C X37 d2_57 ?_
  refine g_iloadN 59 rfl C X37 d2_58 rfl ?_
  refine g_ior 60 rfl C X37 d2_59 ?_
  refine g_i2b 61 rfl C X37 d2_60 ?_
  obtain ⟨w45, hw45⟩ : ∃ z : Int32, (((((((65280 : Int32) >>> ((4 : Int32) &&& 31)) ||| v44)).toInt8.toInt32)).toInt8.toInt32) = z := ⟨_, rfl⟩
  refine g_bastore 62 rfl C X37 e38 B40 0 (by decide) (by decide) w45 hw45 d2_61 N41 g_b1 fun T46 h47 ls48 X49 e50 W51 B52 N53 => ?_
  have Zs54 := Nat.le_trans Zs42 (Nat.le_of_eq W51.size.symm)
  have Kp55 : Keep h0 h47 [b1] := Kp43.wr W51 (Or.inl (List.mem_of_getElem? (i := 0) rfl))
  have fc56 : (4 : Int32).toInt = 4 := rfl
  have fc57 : (1 : Int32).toInt = 1 := rfl
  have fc58 : (3 : Int32).toInt = 3 := rfl
  have fc59 : (2 : Int32).toInt = 2 := rfl
  have fc60 : (0 : Int32).toInt = 0 := rfl
  have fr61 := rng32 p0
  have fr62 := rng32 w9
  have fc63 : (128 : Int32).toInt = 128 := rfl
  have fc64 : (63 : Int32).toInt = 63 := rfl
  have fo65 : (p0 &&& (63 : Int32)).toInt = p0.toInt % 64 := c_mask p0 (63 : Int32) 6 (by decide) (by decide)
  have fo66 := c_or (128 : Int32) (p0 &&& (63 : Int32)) 7 (by decide) 128 (by decide) (by omega) (by omega) (by omega)
  have fr67 := rng32 ((128 : Int32) ||| (p0 &&& (63 : Int32)))
  have fo68 := c_i2b ((128 : Int32) ||| (p0 &&& (63 : Int32)))
  have fo69 := c_i2b ((((128 : Int32) ||| (p0 &&& (63 : Int32)))).toInt8.toInt32)
  have fe70 : ((((((128 : Int32) ||| (p0 &&& (63 : Int32)))).toInt8.toInt32)).toInt8.toInt32).toInt = w9.toInt := congrArg Int32.toInt hw9
  have fr71 := rng32 w21
  have fr72 := rng32 v20
  have fc73 : (6 : Int32).toInt = 6 := rfl
  have fo74 : ((p0 >>> ((6 : Int32) &&& 31))).toInt = p0.toInt / 64 := c_ishr p0 (6 : Int32) 6 (by decide)
  have fe75 : (p0 >>> ((6 : Int32) &&& 31)).toInt = v20.toInt := congrArg Int32.toInt hv20
  have fo76 : (v20 &&& (63 : Int32)).toInt = v20.toInt % 64 := c_mask v20 (63 : Int32) 6 (by decide) (by decide)
  have fo77 := c_or (128 : Int32) (v20 &&& (63 : Int32)) 7 (by decide) 128 (by decide) (by omega) (by omega) (by omega)
  have fr78 := rng32 ((128 : Int32) ||| (v20 &&& (63 : Int32)))
  have fo79 := c_i2b ((128 : Int32) ||| (v20 &&& (63 : Int32)))
  have fo80 := c_i2b ((((128 : Int32) ||| (v20 &&& (63 : Int32)))).toInt8.toInt32)
  have fe81 : ((((((128 : Int32) ||| (v20 &&& (63 : Int32)))).toInt8.toInt32)).toInt8.toInt32).toInt = w21.toInt := congrArg Int32.toInt hw21
  have fr82 := rng32 w33
  have fr83 := rng32 v32
  have fo84 : ((v20 >>> ((6 : Int32) &&& 31))).toInt = v20.toInt / 64 := c_ishr v20 (6 : Int32) 6 (by decide)
  have fe85 : (v20 >>> ((6 : Int32) &&& 31)).toInt = v32.toInt := congrArg Int32.toInt hv32
  have fo86 : (v32 &&& (63 : Int32)).toInt = v32.toInt % 64 := c_mask v32 (63 : Int32) 6 (by decide) (by decide)
  have fo87 := c_or (128 : Int32) (v32 &&& (63 : Int32)) 7 (by decide) 128 (by decide) (by omega) (by omega) (by omega)
  have fr88 := rng32 ((128 : Int32) ||| (v32 &&& (63 : Int32)))
  have fo89 := c_i2b ((128 : Int32) ||| (v32 &&& (63 : Int32)))
  have fo90 := c_i2b ((((128 : Int32) ||| (v32 &&& (63 : Int32)))).toInt8.toInt32)
  have fe91 : ((((((128 : Int32) ||| (v32 &&& (63 : Int32)))).toInt8.toInt32)).toInt8.toInt32).toInt = w33.toInt := congrArg Int32.toInt hw33
  have fr92 := rng32 w45
  have fc93 : ((65280 : Int32) >>> ((4 : Int32) &&& 31)).toInt = 4080 := by decide
  have fr94 := rng32 v44
  have fo95 : ((v32 >>> ((6 : Int32) &&& 31))).toInt = v32.toInt / 64 := c_ishr v32 (6 : Int32) 6 (by decide)
  have fe96 : (v32 >>> ((6 : Int32) &&& 31)).toInt = v44.toInt := congrArg Int32.toInt hv44
  have fo97 := c_or ((65280 : Int32) >>> ((4 : Int32) &&& 31)) v44 4 (by decide) 16 (by decide) (by omega) (by omega) (by omega)
  have fr98 := rng32 (((65280 : Int32) >>> ((4 : Int32) &&& 31)) ||| v44)
  have fo99 := c_i2b (((65280 : Int32) >>> ((4 : Int32) &&& 31)) ||| v44)
  have fo100 := c_i2b (((((65280 : Int32) >>> ((4 : Int32) &&& 31)) ||| v44)).toInt8.toInt32)
  have fe101 : (((((((65280 : Int32) >>> ((4 : Int32) &&& 31)) ||| v44)).toInt8.toInt32)).toInt8.toInt32).toInt = w45.toInt := congrArg Int32.toInt hw45
  have hv102 : ((upd (upd (upd (upd f 3 w9) 2 w21) 1 w33) 0 w45) 0).toInt = w45.toInt := congrArg Int32.toInt (upd_same (by omega))
  have hv103 : ((upd (upd (upd (upd f 3 w9) 2 w21) 1 w33) 0 w45) 1).toInt = w33.toInt := congrArg Int32.toInt ((upd_ne (by omega)).trans (upd_same (by omega)))
  have hv104 : ((upd (upd (upd (upd f 3 w9) 2 w21) 1 w33) 0 w45) 2).toInt = w21.toInt := congrArg Int32.toInt ((upd_ne (by omega)).trans ((upd_ne (by omega)).trans (upd_same (by omega))))
  have hv105 : ((upd (upd (upd (upd f 3 w9) 2 w21) 1 w33) 0 w45) 3).toInt = w9.toInt := congrArg Int32.toInt ((upd_ne (by omega)).trans ((upd_ne (by omega)).trans ((upd_ne (by omega)).trans (upd_same (by omega)))))
  exact g_retV C X49 rfl d2_62 e50 (by decide) (by decide) ⟨_, rfl, ⟨(by omega), (by omega), (by omega), (by omega)⟩, (fun k hk => congrArg Int32.toInt ((upd_ne (by omega)).trans ((upd_ne (by omega)).trans ((upd_ne (by omega)).trans (upd_ne (by omega)))))), N53, Kp55, B52⟩
theorem d3_0 : decode prog_50_method_3_code 0 = .ok (.aload_n 0, 1) := by decide +kernel
theorem d3_1 : decode prog_50_method_3_code 1 = .ok (.iload_n 1, 1) := by decide +kernel
theorem d3_2 : decode prog_50_method_3_code 2 = .ok (.baload, 1) := by decide +kernel
theorem d3_3 : decode prog_50_method_3_code 3 = .ok (.sipush 255, 3) := by decide +kernel
theorem d3_6 : decode prog_50_method_3_code 6 = .ok (.iand, 1) := by decide +kernel
theorem d3_7 : decode prog_50_method_3_code 7 = .ok (.istore_n 3, 1) := by decide +kernel
theorem d3_8 : decode prog_50_method_3_code 8 = .ok (.iload_n 3, 1) := by decide +kernel
theorem d3_9 : decode prog_50_method_3_code 9 = .ok (.sipush 128, 3) := by decide +kernel
theorem d3_12 : decode prog_50_method_3_code 12 = .ok (.if_icmp .ge 5, 3) := by decide +kernel
theorem d3_15 : decode prog_50_method_3_code 15 = .ok (.iconst 1, 1) := by decide +kernel
theorem d3_16 : decode prog_50_method_3_code 16 = .ok (.ireturn, 1) := by decide +kernel
theorem ef_3_1 (m : MethodId) (b0 : Addr) : entryFrame m #[(.ref b0), (.int (0 : Int32)), (.int (5 : Int32))] 9 = mkF m 0 #[.val (.ref b0), .val (.int (0 : Int32)), .val (.int (5 : Int32)), .unset, .unset, .unset, .unset, .unset, .unset] [] := by first | (simp [entryFrame, mkF, argsToLocals, Value.category]; done) | rfl
def Q3_1 (Z : State) (b0 : Addr) (f : Nat → Int32) (x0 : Int32) (h0 : Heap) (n0 : Nat) (v : Option Value) (h : Heap) (L : List Loc) : Prop := v = some (.int 1) ∧ Fr n0 L ∧ h = h0
set_option maxRecDepth 65536 in
set_option maxHeartbeats 40000000 in
theorem rm3_1 (l : Launch) (Z : State) (a0 : Array Value) (hw : ∀ d ∈ tables_1, d.before a0 Z = true) (ws : List Jvm.Cond) (b0 : Addr) (f : Nat → Int32) (x0 : Int32) (h0 : Heap) (n0 : Nat) (Z0 : n0 ≤ h0.size) (B_b0 : Ba Z h0 b0 .byte 5 f) (hx0 : f 0 = x0) (hr0 : -128 ≤ x0.toInt ∧ x0.toInt < 128) (hsq : 0 ≤ x0.toInt) :
    MetFree l (⟨"com/example/schedario/schedario/records/Utf8", "sequence", "([BII)I"⟩ : MethodName) (head1 (Jvm.Cond.code (⟨"com/example/schedario/schedario/records/Utf8", "sequence", "([BII)I"⟩ : MethodName) prog_50_method_3_code 9 (some .int) :: ws) ({ frames := 0, cells := 0, slots := 0, locals := 0 } : Room)) (fun a U => a = #[(.ref b0), (.int (0 : Int32)), (.int (5 : Int32))] ∧ Z.Warmed39 U.vm ∧ U.heap = h0) (fun _ _ _ _ _ => True) (fun _ U o U' => ∃ v L, o = .returned v ∧ Q3_1 Z b0 f x0 h0 n0 v U'.heap L ∧ FrameEnd U o U' L ({ frames := 0, cells := 0, slots := 0, locals := 0 } : Room).cells ({ frames := 0, cells := 0, slots := 0, locals := 0 } : Room).slots) := by
  refine MetFree.of_bodySF (plainFor_of_name pn_41208506) hisR ?_
  intro p e s m args below meth c s₁ Bd hml0 hP hK
  obtain ⟨rfl, hZ, hh⟩ := hP
  have C : Ctx p s m meth c Z "com/example/schedario/schedario/records/Utf8" "sequence" prog_50_method_3_code 9 (some .int) := Ctx.of Bd hml0 hZ
  have X0 : Stand p l e ({ frames := 0, cells := 0, slots := 0, locals := 0 } : Room) s m #[(.ref b0), (.int (0 : Int32)), (.int (5 : Int32))] below meth c s₁ [] 0 0 := Stand.of_body Bd
  have e0 : s₁.heap = h0 := by rw [← hh, Bd.state]; rfl
  have N0 := Fr.nil n0
  refine Goes.enter (ef_3_1 m b0) ?_
  clear hK hml0 hh
  refine g_aloadN 1 rfl C X0 d3_0 rfl rfl ?_
  refine g_iloadN 2 rfl C X0 d3_1 rfl ?_
  refine g_baload 3 rfl C X0 e0 B_b0 0 (by decide) (by decide) x0 hx0 d3_2 ?_
  refine g_sipush 6 rfl C X0 (255 : Int32) d3_3 rfl ?_
  refine g_iand 7 rfl C X0 d3_6 ?_
  obtain ⟨v1, hv1⟩ : ∃ z : Int32, (x0 &&& (255 : Int32)) = z := ⟨_, rfl⟩
  refine g_istoreN 8 rfl C X0 v1 hv1 #[.val (.ref b0), .val (.int (0 : Int32)), .val (.int (5 : Int32)), .val (.int v1), .unset, .unset, .unset, .unset, .unset] d3_7 rfl ?_
  refine g_iloadN 9 rfl C X0 d3_8 rfl ?_
  refine g_sipush 12 rfl C X0 (128 : Int32) d3_9 rfl ?_
  have hq3 : v1.toInt < (128 : Int32).toInt := by
    have fr4 := rng32 v1
    have fr5 := rng32 x0
    have fc6 : (255 : Int32).toInt = 255 := rfl
    have fo7 : (x0 &&& (255 : Int32)).toInt = x0.toInt % 256 := c_mask x0 (255 : Int32) 8 (by decide) (by decide)
    have fe8 : (x0 &&& (255 : Int32)).toInt = v1.toInt := congrArg Int32.toInt hv1
    have fc9 : (128 : Int32).toInt = 128 := rfl
    omega
  refine g_icmp_ge_f 15 rfl C X0 d3_12 hq3 ?_
  refine g_iconst 16 rfl C X0 (1 : Int32) d3_15 rfl ?_
  exact g_retI C X0 rfl d3_16 e0 (by decide) (by decide) ⟨rfl, N0, rfl⟩
theorem d3_17 : decode prog_50_method_3_code 17 = .ok (.sipush 128, 3) := by decide +kernel
theorem d3_20 : decode prog_50_method_3_code 20 = .ok (.istore 5, 2) := by decide +kernel
theorem d3_22 : decode prog_50_method_3_code 22 = .ok (.sipush 191, 3) := by decide +kernel
theorem d3_25 : decode prog_50_method_3_code 25 = .ok (.istore 6, 2) := by decide +kernel
theorem d3_27 : decode prog_50_method_3_code 27 = .ok (.iload_n 3, 1) := by decide +kernel
theorem d3_28 : decode prog_50_method_3_code 28 = .ok (.sipush 194, 3) := by decide +kernel
theorem d3_31 : decode prog_50_method_3_code 31 = .ok (.if_icmp .ge 5, 3) := by decide +kernel
theorem d3_36 : decode prog_50_method_3_code 36 = .ok (.iload_n 3, 1) := by decide +kernel
theorem d3_37 : decode prog_50_method_3_code 37 = .ok (.sipush 224, 3) := by decide +kernel
theorem d3_40 : decode prog_50_method_3_code 40 = .ok (.if_icmp .ge 9, 3) := by decide +kernel
theorem d3_43 : decode prog_50_method_3_code 43 = .ok (.iconst 1, 1) := by decide +kernel
theorem d3_44 : decode prog_50_method_3_code 44 = .ok (.istore 4, 2) := by decide +kernel
theorem d3_46 : decode prog_50_method_3_code 46 = .ok (.goto 85, 3) := by decide +kernel
theorem d3_131 : decode prog_50_method_3_code 131 = .ok (.iload_n 1, 1) := by decide +kernel
theorem d3_132 : decode prog_50_method_3_code 132 = .ok (.iload 4, 2) := by decide +kernel
theorem d3_134 : decode prog_50_method_3_code 134 = .ok (.iadd, 1) := by decide +kernel
theorem d3_135 : decode prog_50_method_3_code 135 = .ok (.iload_n 2, 1) := by decide +kernel
theorem d3_136 : decode prog_50_method_3_code 136 = .ok (.if_icmp .lt 5, 3) := by decide +kernel
theorem d3_141 : decode prog_50_method_3_code 141 = .ok (.aload_n 0, 1) := by decide +kernel
theorem d3_142 : decode prog_50_method_3_code 142 = .ok (.iload_n 1, 1) := by decide +kernel
theorem d3_143 : decode prog_50_method_3_code 143 = .ok (.iconst 1, 1) := by decide +kernel
theorem d3_144 : decode prog_50_method_3_code 144 = .ok (.iadd, 1) := by decide +kernel
theorem d3_145 : decode prog_50_method_3_code 145 = .ok (.baload, 1) := by decide +kernel
theorem d3_146 : decode prog_50_method_3_code 146 = .ok (.sipush 255, 3) := by decide +kernel
theorem d3_149 : decode prog_50_method_3_code 149 = .ok (.iand, 1) := by decide +kernel
theorem d3_150 : decode prog_50_method_3_code 150 = .ok (.istore 7, 2) := by decide +kernel
theorem d3_152 : decode prog_50_method_3_code 152 = .ok (.iload 7, 2) := by decide +kernel
theorem d3_154 : decode prog_50_method_3_code 154 = .ok (.iload 5, 2) := by decide +kernel
theorem d3_156 : decode prog_50_method_3_code 156 = .ok (.if_icmp .lt 10, 3) := by decide +kernel
theorem d3_159 : decode prog_50_method_3_code 159 = .ok (.iload 7, 2) := by decide +kernel
theorem d3_161 : decode prog_50_method_3_code 161 = .ok (.iload 6, 2) := by decide +kernel
theorem d3_163 : decode prog_50_method_3_code 163 = .ok (.if_icmp .le 5, 3) := by decide +kernel
theorem d3_168 : decode prog_50_method_3_code 168 = .ok (.iconst 2, 1) := by decide +kernel
theorem d3_169 : decode prog_50_method_3_code 169 = .ok (.istore 8, 2) := by decide +kernel
theorem d3_171 : decode prog_50_method_3_code 171 = .ok (.iload 8, 2) := by decide +kernel
theorem d3_173 : decode prog_50_method_3_code 173 = .ok (.iload 4, 2) := by decide +kernel
theorem d3_175 : decode prog_50_method_3_code 175 = .ok (.if_icmp .gt 27, 3) := by decide +kernel
theorem d3_202 : decode prog_50_method_3_code 202 = .ok (.iload 4, 2) := by decide +kernel
theorem d3_204 : decode prog_50_method_3_code 204 = .ok (.iconst 1, 1) := by decide +kernel
theorem d3_205 : decode prog_50_method_3_code 205 = .ok (.iadd, 1) := by decide +kernel
theorem d3_206 : decode prog_50_method_3_code 206 = .ok (.ireturn, 1) := by decide +kernel
theorem ef_3_2 (m : MethodId) (b0 : Addr) : entryFrame m #[(.ref b0), (.int (0 : Int32)), (.int (5 : Int32))] 9 = mkF m 0 #[.val (.ref b0), .val (.int (0 : Int32)), .val (.int (5 : Int32)), .unset, .unset, .unset, .unset, .unset, .unset] [] := by first | (simp [entryFrame, mkF, argsToLocals, Value.category]; done) | rfl
def Q3_2 (Z : State) (b0 : Addr) (f : Nat → Int32) (x0 : Int32) (x1 : Int32) (h0 : Heap) (n0 : Nat) (v : Option Value) (h : Heap) (L : List Loc) : Prop := v = some (.int 2) ∧ Fr n0 L ∧ h = h0
set_option maxRecDepth 65536 in
set_option maxHeartbeats 40000000 in
theorem rm3_2 (l : Launch) (Z : State) (a0 : Array Value) (hw : ∀ d ∈ tables_1, d.before a0 Z = true) (ws : List Jvm.Cond) (b0 : Addr) (f : Nat → Int32) (x0 : Int32) (x1 : Int32) (h0 : Heap) (n0 : Nat) (Z0 : n0 ≤ h0.size) (B_b0 : Ba Z h0 b0 .byte 5 f) (hx0 : f 0 = x0) (hx1 : f 1 = x1) (hr0 : -128 ≤ x0.toInt ∧ x0.toInt < 128) (hr1 : -128 ≤ x1.toInt ∧ x1.toInt < 128) (hsq : -62 ≤ x0.toInt ∧ x0.toInt ≤ -33 ∧ x1.toInt < -64) :
    MetFree l (⟨"com/example/schedario/schedario/records/Utf8", "sequence", "([BII)I"⟩ : MethodName) (head1 (Jvm.Cond.code (⟨"com/example/schedario/schedario/records/Utf8", "sequence", "([BII)I"⟩ : MethodName) prog_50_method_3_code 9 (some .int) :: ws) ({ frames := 0, cells := 0, slots := 0, locals := 0 } : Room)) (fun a U => a = #[(.ref b0), (.int (0 : Int32)), (.int (5 : Int32))] ∧ Z.Warmed39 U.vm ∧ U.heap = h0) (fun _ _ _ _ _ => True) (fun _ U o U' => ∃ v L, o = .returned v ∧ Q3_2 Z b0 f x0 x1 h0 n0 v U'.heap L ∧ FrameEnd U o U' L ({ frames := 0, cells := 0, slots := 0, locals := 0 } : Room).cells ({ frames := 0, cells := 0, slots := 0, locals := 0 } : Room).slots) := by
  refine MetFree.of_bodySF (plainFor_of_name pn_41208506) hisR ?_
  intro p e s m args below meth c s₁ Bd hml0 hP hK
  obtain ⟨rfl, hZ, hh⟩ := hP
  have C : Ctx p s m meth c Z "com/example/schedario/schedario/records/Utf8" "sequence" prog_50_method_3_code 9 (some .int) := Ctx.of Bd hml0 hZ
  have X0 : Stand p l e ({ frames := 0, cells := 0, slots := 0, locals := 0 } : Room) s m #[(.ref b0), (.int (0 : Int32)), (.int (5 : Int32))] below meth c s₁ [] 0 0 := Stand.of_body Bd
  have e0 : s₁.heap = h0 := by rw [← hh, Bd.state]; rfl
  have N0 := Fr.nil n0
  refine Goes.enter (ef_3_2 m b0) ?_
  clear hK hml0 hh
  refine g_aloadN 1 rfl C X0 d3_0 rfl rfl ?_
  refine g_iloadN 2 rfl C X0 d3_1 rfl ?_
  refine g_baload 3 rfl C X0 e0 B_b0 0 (by decide) (by decide) x0 hx0 d3_2 ?_
  refine g_sipush 6 rfl C X0 (255 : Int32) d3_3 rfl ?_
  refine g_iand 7 rfl C X0 d3_6 ?_
  obtain ⟨v1, hv1⟩ : ∃ z : Int32, (x0 &&& (255 : Int32)) = z := ⟨_, rfl⟩
  refine g_istoreN 8 rfl C X0 v1 hv1 #[.val (.ref b0), .val (.int (0 : Int32)), .val (.int (5 : Int32)), .val (.int v1), .unset, .unset, .unset, .unset, .unset] d3_7 rfl ?_
  refine g_iloadN 9 rfl C X0 d3_8 rfl ?_
  refine g_sipush 12 rfl C X0 (128 : Int32) d3_9 rfl ?_
  have hq3 : ¬ (v1.toInt < (128 : Int32).toInt) := by
    have fr4 := rng32 v1
    have fr5 := rng32 x0
    have fc6 : (255 : Int32).toInt = 255 := rfl
    have fo7 : (x0 &&& (255 : Int32)).toInt = x0.toInt % 256 := c_mask x0 (255 : Int32) 8 (by decide) (by decide)
    have fe8 : (x0 &&& (255 : Int32)).toInt = v1.toInt := congrArg Int32.toInt hv1
    have fc9 : (128 : Int32).toInt = 128 := rfl
    have fr10 := rng32 x1
    omega
  refine g_icmp_ge_t 17 C X0 d3_12 (by decide) (by decide) hq3 ?_
  refine g_sipush 20 rfl C X0 (128 : Int32) d3_17 rfl ?_
  refine g_istore 22 rfl C X0 (128 : Int32) rfl #[.val (.ref b0), .val (.int (0 : Int32)), .val (.int (5 : Int32)), .val (.int v1), .unset, .val (.int (128 : Int32)), .unset, .unset, .unset] d3_20 rfl ?_
  refine g_sipush 25 rfl C X0 (191 : Int32) d3_22 rfl ?_
  refine g_istore 27 rfl C X0 (191 : Int32) rfl #[.val (.ref b0), .val (.int (0 : Int32)), .val (.int (5 : Int32)), .val (.int v1), .unset, .val (.int (128 : Int32)), .val (.int (191 : Int32)), .unset, .unset] d3_25 rfl ?_
  refine g_iloadN 28 rfl C X0 d3_27 rfl ?_
  refine g_sipush 31 rfl C X0 (194 : Int32) d3_28 rfl ?_
  have hq12 : ¬ (v1.toInt < (194 : Int32).toInt) := by
    have fr13 := rng32 v1
    have fr14 := rng32 x0
    have fc15 : (255 : Int32).toInt = 255 := rfl
    have fo16 : (x0 &&& (255 : Int32)).toInt = x0.toInt % 256 := c_mask x0 (255 : Int32) 8 (by decide) (by decide)
    have fe17 : (x0 &&& (255 : Int32)).toInt = v1.toInt := congrArg Int32.toInt hv1
    have fc18 : (194 : Int32).toInt = 194 := rfl
    have fc19 : (128 : Int32).toInt = 128 := rfl
    have fr20 := rng32 x1
    omega
  refine g_icmp_ge_t 36 C X0 d3_31 (by decide) (by decide) hq12 ?_
  refine g_iloadN 37 rfl C X0 d3_36 rfl ?_
  refine g_sipush 40 rfl C X0 (224 : Int32) d3_37 rfl ?_
  have hq22 : v1.toInt < (224 : Int32).toInt := by
    have fr23 := rng32 v1
    have fr24 := rng32 x0
    have fc25 : (255 : Int32).toInt = 255 := rfl
    have fo26 : (x0 &&& (255 : Int32)).toInt = x0.toInt % 256 := c_mask x0 (255 : Int32) 8 (by decide) (by decide)
    have fe27 : (x0 &&& (255 : Int32)).toInt = v1.toInt := congrArg Int32.toInt hv1
    have fc28 : (224 : Int32).toInt = 224 := rfl
    have fc29 : (128 : Int32).toInt = 128 := rfl
    have fc30 : (194 : Int32).toInt = 194 := rfl
    have fr31 := rng32 x1
    omega
  refine g_icmp_ge_f 43 rfl C X0 d3_40 hq22 ?_
  refine g_iconst 44 rfl C X0 (1 : Int32) d3_43 rfl ?_
  refine g_istore 46 rfl C X0 (1 : Int32) rfl #[.val (.ref b0), .val (.int (0 : Int32)), .val (.int (5 : Int32)), .val (.int v1), .val (.int (1 : Int32)), .val (.int (128 : Int32)), .val (.int (191 : Int32)), .unset, .unset] d3_44 rfl ?_
  refine g_goto 131 C X0 d3_46 (by decide) (by decide) ?_
  refine g_iloadN 132 rfl C X0 d3_131 rfl ?_
  refine g_iload 134 rfl C X0 d3_132 rfl ?_
  refine g_iadd 135 rfl C X0 d3_134 ?_
  refine g_iloadN 136 rfl C X0 d3_135 rfl ?_
  refine g_icmp_lt_t 141 C X0 d3_136 (by decide) (by decide) (by decide) ?_
  refine g_aloadN 142 rfl C X0 d3_141 rfl rfl ?_
  refine g_iloadN 143 rfl C X0 d3_142 rfl ?_
  refine g_iconst 144 rfl C X0 (1 : Int32) d3_143 rfl ?_
  refine g_iadd 145 rfl C X0 d3_144 ?_
  refine g_baload 146 rfl C X0 e0 B_b0 1 (by decide) (by decide) x1 hx1 d3_145 ?_
  refine g_sipush 149 rfl C X0 (255 : Int32) d3_146 rfl ?_
  refine g_iand 150 rfl C X0 d3_149 ?_
  obtain ⟨v32, hv32⟩ : ∃ z : Int32, (x1 &&& (255 : Int32)) = z := ⟨_, rfl⟩
  refine g_istore 152 rfl C X0 v32 hv32 #[.val (.ref b0), .val (.int (0 : Int32)), .val (.int (5 : Int32)), .val (.int v1), .val (.int (1 : Int32)), .val (.int (128 : Int32)), .val (.int (191 : Int32)), .val (.int v32), .unset] d3_150 rfl ?_
  refine g_iload 154 rfl C X0 d3_152 rfl ?_
  refine g_iload 156 rfl C X0 d3_154 rfl ?_
  have hq34 : ¬ (v32.toInt < (128 : Int32).toInt) := by
    have fr35 := rng32 v32
    have fr36 := rng32 x1
    have fc37 : (255 : Int32).toInt = 255 := rfl
    have fo38 : (x1 &&& (255 : Int32)).toInt = x1.toInt % 256 := c_mask x1 (255 : Int32) 8 (by decide) (by decide)
    have fe39 : (x1 &&& (255 : Int32)).toInt = v32.toInt := congrArg Int32.toInt hv32
    have fc40 : (128 : Int32).toInt = 128 := rfl
    have fr41 := rng32 v1
    have fr42 := rng32 x0
    have fo43 : (x0 &&& (255 : Int32)).toInt = x0.toInt % 256 := c_mask x0 (255 : Int32) 8 (by decide) (by decide)
    have fe44 : (x0 &&& (255 : Int32)).toInt = v1.toInt := congrArg Int32.toInt hv1
    have fc45 : (194 : Int32).toInt = 194 := rfl
    have fc46 : (224 : Int32).toInt = 224 := rfl
    have fc47 : ((0 : Int32) + (1 : Int32)).toInt = 1 := by decide
    have fc48 : (5 : Int32).toInt = 5 := rfl
    omega
  refine g_icmp_lt_f 159 rfl C X0 d3_156 hq34 ?_
  refine g_iload 161 rfl C X0 d3_159 rfl ?_
  refine g_iload 163 rfl C X0 d3_161 rfl ?_
  have hq50 : ¬ ((191 : Int32).toInt < v32.toInt) := by
    have fr51 := rng32 v32
    have fr52 := rng32 x1
    have fc53 : (255 : Int32).toInt = 255 := rfl
    have fo54 : (x1 &&& (255 : Int32)).toInt = x1.toInt % 256 := c_mask x1 (255 : Int32) 8 (by decide) (by decide)
    have fe55 : (x1 &&& (255 : Int32)).toInt = v32.toInt := congrArg Int32.toInt hv32
    have fc56 : (191 : Int32).toInt = 191 := rfl
    have fr57 := rng32 v1
    have fr58 := rng32 x0
    have fo59 : (x0 &&& (255 : Int32)).toInt = x0.toInt % 256 := c_mask x0 (255 : Int32) 8 (by decide) (by decide)
    have fe60 : (x0 &&& (255 : Int32)).toInt = v1.toInt := congrArg Int32.toInt hv1
    have fc61 : (128 : Int32).toInt = 128 := rfl
    have fc62 : (194 : Int32).toInt = 194 := rfl
    have fc63 : (224 : Int32).toInt = 224 := rfl
    have fc64 : ((0 : Int32) + (1 : Int32)).toInt = 1 := by decide
    have fc65 : (5 : Int32).toInt = 5 := rfl
    omega
  refine g_icmp_le_t 168 C X0 d3_163 (by decide) (by decide) hq50 ?_
  refine g_iconst 169 rfl C X0 (2 : Int32) d3_168 rfl ?_
  refine g_istore 171 rfl C X0 (2 : Int32) rfl #[.val (.ref b0), .val (.int (0 : Int32)), .val (.int (5 : Int32)), .val (.int v1), .val (.int (1 : Int32)), .val (.int (128 : Int32)), .val (.int (191 : Int32)), .val (.int v32), .val (.int (2 : Int32))] d3_169 rfl ?_
  refine g_iload 173 rfl C X0 d3_171 rfl ?_
  refine g_iload 175 rfl C X0 d3_173 rfl ?_
  refine g_icmp_gt_t 202 C X0 d3_175 (by decide) (by decide) (by decide) ?_
  refine g_iload 204 rfl C X0 d3_202 rfl ?_
  refine g_iconst 205 rfl C X0 (1 : Int32) d3_204 rfl ?_
  refine g_iadd 206 rfl C X0 d3_205 ?_
  exact g_retI C X0 rfl d3_206 e0 (by decide) (by decide) ⟨congrArg (fun z => some (Value.int z)) (by decide), N0, rfl⟩
theorem d3_49 : decode prog_50_method_3_code 49 = .ok (.iload_n 3, 1) := by decide +kernel
theorem d3_50 : decode prog_50_method_3_code 50 = .ok (.sipush 240, 3) := by decide +kernel
theorem d3_53 : decode prog_50_method_3_code 53 = .ok (.if_icmp .ge 36, 3) := by decide +kernel
theorem d3_56 : decode prog_50_method_3_code 56 = .ok (.iconst 2, 1) := by decide +kernel
theorem d3_57 : decode prog_50_method_3_code 57 = .ok (.istore 4, 2) := by decide +kernel
theorem d3_59 : decode prog_50_method_3_code 59 = .ok (.iload_n 3, 1) := by decide +kernel
theorem d3_60 : decode prog_50_method_3_code 60 = .ok (.sipush 224, 3) := by decide +kernel
theorem d3_63 : decode prog_50_method_3_code 63 = .ok (.if_icmp .ne 11, 3) := by decide +kernel
theorem d3_66 : decode prog_50_method_3_code 66 = .ok (.sipush 160, 3) := by decide +kernel
theorem d3_69 : decode prog_50_method_3_code 69 = .ok (.istore 5, 2) := by decide +kernel
theorem d3_71 : decode prog_50_method_3_code 71 = .ok (.goto 60, 3) := by decide +kernel
theorem d3_178 : decode prog_50_method_3_code 178 = .ok (.aload_n 0, 1) := by decide +kernel
theorem d3_179 : decode prog_50_method_3_code 179 = .ok (.iload_n 1, 1) := by decide +kernel
theorem d3_180 : decode prog_50_method_3_code 180 = .ok (.iload 8, 2) := by decide +kernel
theorem d3_182 : decode prog_50_method_3_code 182 = .ok (.iadd, 1) := by decide +kernel
theorem d3_183 : decode prog_50_method_3_code 183 = .ok (.baload, 1) := by decide +kernel
theorem d3_184 : decode prog_50_method_3_code 184 = .ok (.sipush 192, 3) := by decide +kernel
theorem d3_187 : decode prog_50_method_3_code 187 = .ok (.iand, 1) := by decide +kernel
theorem d3_188 : decode prog_50_method_3_code 188 = .ok (.sipush 128, 3) := by decide +kernel
theorem d3_191 : decode prog_50_method_3_code 191 = .ok (.if_icmp .eq 5, 3) := by decide +kernel
theorem d3_196 : decode prog_50_method_3_code 196 = .ok (.iinc 8 1, 3) := by decide +kernel
theorem d3_199 : decode prog_50_method_3_code 199 = .ok (.goto (-28), 3) := by decide +kernel
theorem d3_74 : decode prog_50_method_3_code 74 = .ok (.iload_n 3, 1) := by decide +kernel
theorem d3_75 : decode prog_50_method_3_code 75 = .ok (.sipush 237, 3) := by decide +kernel
theorem d3_78 : decode prog_50_method_3_code 78 = .ok (.if_icmp .ne 53, 3) := by decide +kernel
theorem d3_81 : decode prog_50_method_3_code 81 = .ok (.sipush 159, 3) := by decide +kernel
theorem d3_84 : decode prog_50_method_3_code 84 = .ok (.istore 6, 2) := by decide +kernel
theorem d3_86 : decode prog_50_method_3_code 86 = .ok (.goto 45, 3) := by decide +kernel
theorem ef_3_3 (m : MethodId) (b0 : Addr) : entryFrame m #[(.ref b0), (.int (0 : Int32)), (.int (5 : Int32))] 9 = mkF m 0 #[.val (.ref b0), .val (.int (0 : Int32)), .val (.int (5 : Int32)), .unset, .unset, .unset, .unset, .unset, .unset] [] := by first | (simp [entryFrame, mkF, argsToLocals, Value.category]; done) | rfl
def Q3_3 (Z : State) (b0 : Addr) (f : Nat → Int32) (x0 : Int32) (x1 : Int32) (x2 : Int32) (h0 : Heap) (n0 : Nat) (v : Option Value) (h : Heap) (L : List Loc) : Prop := v = some (.int 3) ∧ Fr n0 L ∧ h = h0
set_option maxRecDepth 65536 in
set_option maxHeartbeats 40000000 in
theorem rm3_3 (l : Launch) (Z : State) (a0 : Array Value) (hw : ∀ d ∈ tables_1, d.before a0 Z = true) (ws : List Jvm.Cond) (b0 : Addr) (f : Nat → Int32) (x0 : Int32) (x1 : Int32) (x2 : Int32) (h0 : Heap) (n0 : Nat) (Z0 : n0 ≤ h0.size) (B_b0 : Ba Z h0 b0 .byte 5 f) (hx0 : f 0 = x0) (hx1 : f 1 = x1) (hx2 : f 2 = x2) (hr0 : -128 ≤ x0.toInt ∧ x0.toInt < 128) (hr1 : -128 ≤ x1.toInt ∧ x1.toInt < 128) (hr2 : -128 ≤ x2.toInt ∧ x2.toInt < 128) (hsq : -32 ≤ x0.toInt ∧ x0.toInt ≤ -17 ∧ x1.toInt < -64 ∧ x2.toInt < -64 ∧ (x0.toInt = -32 → -96 ≤ x1.toInt) ∧ (x0.toInt = -19 → x1.toInt ≤ -97)) :
    MetFree l (⟨"com/example/schedario/schedario/records/Utf8", "sequence", "([BII)I"⟩ : MethodName) (head1 (Jvm.Cond.code (⟨"com/example/schedario/schedario/records/Utf8", "sequence", "([BII)I"⟩ : MethodName) prog_50_method_3_code 9 (some .int) :: ws) ({ frames := 0, cells := 0, slots := 0, locals := 0 } : Room)) (fun a U => a = #[(.ref b0), (.int (0 : Int32)), (.int (5 : Int32))] ∧ Z.Warmed39 U.vm ∧ U.heap = h0) (fun _ _ _ _ _ => True) (fun _ U o U' => ∃ v L, o = .returned v ∧ Q3_3 Z b0 f x0 x1 x2 h0 n0 v U'.heap L ∧ FrameEnd U o U' L ({ frames := 0, cells := 0, slots := 0, locals := 0 } : Room).cells ({ frames := 0, cells := 0, slots := 0, locals := 0 } : Room).slots) := by
  refine MetFree.of_bodySF (plainFor_of_name pn_41208506) hisR ?_
  intro p e s m args below meth c s₁ Bd hml0 hP hK
  obtain ⟨rfl, hZ, hh⟩ := hP
  have C : Ctx p s m meth c Z "com/example/schedario/schedario/records/Utf8" "sequence" prog_50_method_3_code 9 (some .int) := Ctx.of Bd hml0 hZ
  have X0 : Stand p l e ({ frames := 0, cells := 0, slots := 0, locals := 0 } : Room) s m #[(.ref b0), (.int (0 : Int32)), (.int (5 : Int32))] below meth c s₁ [] 0 0 := Stand.of_body Bd
  have e0 : s₁.heap = h0 := by rw [← hh, Bd.state]; rfl
  have N0 := Fr.nil n0
  refine Goes.enter (ef_3_3 m b0) ?_
  clear hK hml0 hh
  refine g_aloadN 1 rfl C X0 d3_0 rfl rfl ?_
  refine g_iloadN 2 rfl C X0 d3_1 rfl ?_
  refine g_baload 3 rfl C X0 e0 B_b0 0 (by decide) (by decide) x0 hx0 d3_2 ?_
  refine g_sipush 6 rfl C X0 (255 : Int32) d3_3 rfl ?_
  refine g_iand 7 rfl C X0 d3_6 ?_
  obtain ⟨v1, hv1⟩ : ∃ z : Int32, (x0 &&& (255 : Int32)) = z := ⟨_, rfl⟩
  refine g_istoreN 8 rfl C X0 v1 hv1 #[.val (.ref b0), .val (.int (0 : Int32)), .val (.int (5 : Int32)), .val (.int v1), .unset, .unset, .unset, .unset, .unset] d3_7 rfl ?_
  refine g_iloadN 9 rfl C X0 d3_8 rfl ?_
  refine g_sipush 12 rfl C X0 (128 : Int32) d3_9 rfl ?_
  have hq3 : ¬ (v1.toInt < (128 : Int32).toInt) := by
    have fr4 := rng32 v1
    have fr5 := rng32 x0
    have fc6 : (255 : Int32).toInt = 255 := rfl
    have fo7 : (x0 &&& (255 : Int32)).toInt = x0.toInt % 256 := c_mask x0 (255 : Int32) 8 (by decide) (by decide)
    have fe8 : (x0 &&& (255 : Int32)).toInt = v1.toInt := congrArg Int32.toInt hv1
    have fc9 : (128 : Int32).toInt = 128 := rfl
    have fr10 := rng32 x1
    have fr11 := rng32 x2
    omega
  refine g_icmp_ge_t 17 C X0 d3_12 (by decide) (by decide) hq3 ?_
  refine g_sipush 20 rfl C X0 (128 : Int32) d3_17 rfl ?_
  refine g_istore 22 rfl C X0 (128 : Int32) rfl #[.val (.ref b0), .val (.int (0 : Int32)), .val (.int (5 : Int32)), .val (.int v1), .unset, .val (.int (128 : Int32)), .unset, .unset, .unset] d3_20 rfl ?_
  refine g_sipush 25 rfl C X0 (191 : Int32) d3_22 rfl ?_
  refine g_istore 27 rfl C X0 (191 : Int32) rfl #[.val (.ref b0), .val (.int (0 : Int32)), .val (.int (5 : Int32)), .val (.int v1), .unset, .val (.int (128 : Int32)), .val (.int (191 : Int32)), .unset, .unset] d3_25 rfl ?_
  refine g_iloadN 28 rfl C X0 d3_27 rfl ?_
  refine g_sipush 31 rfl C X0 (194 : Int32) d3_28 rfl ?_
  have hq13 : ¬ (v1.toInt < (194 : Int32).toInt) := by
    have fr14 := rng32 v1
    have fr15 := rng32 x0
    have fc16 : (255 : Int32).toInt = 255 := rfl
    have fo17 : (x0 &&& (255 : Int32)).toInt = x0.toInt % 256 := c_mask x0 (255 : Int32) 8 (by decide) (by decide)
    have fe18 : (x0 &&& (255 : Int32)).toInt = v1.toInt := congrArg Int32.toInt hv1
    have fc19 : (194 : Int32).toInt = 194 := rfl
    have fc20 : (128 : Int32).toInt = 128 := rfl
    have fr21 := rng32 x1
    have fr22 := rng32 x2
    omega
  refine g_icmp_ge_t 36 C X0 d3_31 (by decide) (by decide) hq13 ?_
  refine g_iloadN 37 rfl C X0 d3_36 rfl ?_
  refine g_sipush 40 rfl C X0 (224 : Int32) d3_37 rfl ?_
  have hq24 : ¬ (v1.toInt < (224 : Int32).toInt) := by
    have fr25 := rng32 v1
    have fr26 := rng32 x0
    have fc27 : (255 : Int32).toInt = 255 := rfl
    have fo28 : (x0 &&& (255 : Int32)).toInt = x0.toInt % 256 := c_mask x0 (255 : Int32) 8 (by decide) (by decide)
    have fe29 : (x0 &&& (255 : Int32)).toInt = v1.toInt := congrArg Int32.toInt hv1
    have fc30 : (224 : Int32).toInt = 224 := rfl
    have fc31 : (128 : Int32).toInt = 128 := rfl
    have fc32 : (194 : Int32).toInt = 194 := rfl
    have fr33 := rng32 x1
    have fr34 := rng32 x2
    omega
  refine g_icmp_ge_t 49 C X0 d3_40 (by decide) (by decide) hq24 ?_
  refine g_iloadN 50 rfl C X0 d3_49 rfl ?_
  refine g_sipush 53 rfl C X0 (240 : Int32) d3_50 rfl ?_
  have hq36 : v1.toInt < (240 : Int32).toInt := by
    have fr37 := rng32 v1
    have fr38 := rng32 x0
    have fc39 : (255 : Int32).toInt = 255 := rfl
    have fo40 : (x0 &&& (255 : Int32)).toInt = x0.toInt % 256 := c_mask x0 (255 : Int32) 8 (by decide) (by decide)
    have fe41 : (x0 &&& (255 : Int32)).toInt = v1.toInt := congrArg Int32.toInt hv1
    have fc42 : (240 : Int32).toInt = 240 := rfl
    have fc43 : (128 : Int32).toInt = 128 := rfl
    have fc44 : (194 : Int32).toInt = 194 := rfl
    have fc45 : (224 : Int32).toInt = 224 := rfl
    have fr46 := rng32 x1
    have fr47 := rng32 x2
    omega
  refine g_icmp_ge_f 56 rfl C X0 d3_53 hq36 ?_
  refine g_iconst 57 rfl C X0 (2 : Int32) d3_56 rfl ?_
  refine g_istore 59 rfl C X0 (2 : Int32) rfl #[.val (.ref b0), .val (.int (0 : Int32)), .val (.int (5 : Int32)), .val (.int v1), .val (.int (2 : Int32)), .val (.int (128 : Int32)), .val (.int (191 : Int32)), .unset, .unset] d3_57 rfl ?_
  refine g_iloadN 60 rfl C X0 d3_59 rfl ?_
  refine g_sipush 63 rfl C X0 (224 : Int32) d3_60 rfl ?_
  by_cases hb48 : v1.toInt = (224 : Int32).toInt
  · skip
    refine g_icmp_ne_f 66 rfl C X0 d3_63 hb48 ?_
    refine g_sipush 69 rfl C X0 (160 : Int32) d3_66 rfl ?_
    refine g_istore 71 rfl C X0 (160 : Int32) rfl #[.val (.ref b0), .val (.int (0 : Int32)), .val (.int (5 : Int32)), .val (.int v1), .val (.int (2 : Int32)), .val (.int (160 : Int32)), .val (.int (191 : Int32)), .unset, .unset] d3_69 rfl ?_
    refine g_goto 131 C X0 d3_71 (by decide) (by decide) ?_
    refine g_iloadN 132 rfl C X0 d3_131 rfl ?_
    refine g_iload 134 rfl C X0 d3_132 rfl ?_
    refine g_iadd 135 rfl C X0 d3_134 ?_
    refine g_iloadN 136 rfl C X0 d3_135 rfl ?_
    refine g_icmp_lt_t 141 C X0 d3_136 (by decide) (by decide) (by decide) ?_
    refine g_aloadN 142 rfl C X0 d3_141 rfl rfl ?_
    refine g_iloadN 143 rfl C X0 d3_142 rfl ?_
    refine g_iconst 144 rfl C X0 (1 : Int32) d3_143 rfl ?_
    refine g_iadd 145 rfl C X0 d3_144 ?_
    refine g_baload 146 rfl C X0 e0 B_b0 1 (by decide) (by decide) x1 hx1 d3_145 ?_
    refine g_sipush 149 rfl C X0 (255 : Int32) d3_146 rfl ?_
    refine g_iand 150 rfl C X0 d3_149 ?_
    obtain ⟨v49, hv49⟩ : ∃ z : Int32, (x1 &&& (255 : Int32)) = z := ⟨_, rfl⟩
    refine g_istore 152 rfl C X0 v49 hv49 #[.val (.ref b0), .val (.int (0 : Int32)), .val (.int (5 : Int32)), .val (.int v1), .val (.int (2 : Int32)), .val (.int (160 : Int32)), .val (.int (191 : Int32)), .val (.int v49), .unset] d3_150 rfl ?_
    refine g_iload 154 rfl C X0 d3_152 rfl ?_
    refine g_iload 156 rfl C X0 d3_154 rfl ?_
    have hq51 : ¬ (v49.toInt < (160 : Int32).toInt) := by
      have fr52 := rng32 v49
      have fr53 := rng32 x1
      have fc54 : (255 : Int32).toInt = 255 := rfl
      have fo55 : (x1 &&& (255 : Int32)).toInt = x1.toInt % 256 := c_mask x1 (255 : Int32) 8 (by decide) (by decide)
      have fe56 : (x1 &&& (255 : Int32)).toInt = v49.toInt := congrArg Int32.toInt hv49
      have fc57 : (160 : Int32).toInt = 160 := rfl
      have fr58 := rng32 v1
      have fr59 := rng32 x0
      have fo60 : (x0 &&& (255 : Int32)).toInt = x0.toInt % 256 := c_mask x0 (255 : Int32) 8 (by decide) (by decide)
      have fe61 : (x0 &&& (255 : Int32)).toInt = v1.toInt := congrArg Int32.toInt hv1
      have fc62 : (128 : Int32).toInt = 128 := rfl
      have fc63 : (194 : Int32).toInt = 194 := rfl
      have fc64 : (224 : Int32).toInt = 224 := rfl
      have fc65 : (240 : Int32).toInt = 240 := rfl
      have fc66 : ((0 : Int32) + (2 : Int32)).toInt = 2 := by decide
      have fc67 : (5 : Int32).toInt = 5 := rfl
      have fr68 := rng32 x2
      omega
    refine g_icmp_lt_f 159 rfl C X0 d3_156 hq51 ?_
    refine g_iload 161 rfl C X0 d3_159 rfl ?_
    refine g_iload 163 rfl C X0 d3_161 rfl ?_
    have hq70 : ¬ ((191 : Int32).toInt < v49.toInt) := by
      have fr71 := rng32 v49
      have fr72 := rng32 x1
      have fc73 : (255 : Int32).toInt = 255 := rfl
      have fo74 : (x1 &&& (255 : Int32)).toInt = x1.toInt % 256 := c_mask x1 (255 : Int32) 8 (by decide) (by decide)
      have fe75 : (x1 &&& (255 : Int32)).toInt = v49.toInt := congrArg Int32.toInt hv49
      have fc76 : (191 : Int32).toInt = 191 := rfl
      have fr77 := rng32 v1
      have fr78 := rng32 x0
      have fo79 : (x0 &&& (255 : Int32)).toInt = x0.toInt % 256 := c_mask x0 (255 : Int32) 8 (by decide) (by decide)
      have fe80 : (x0 &&& (255 : Int32)).toInt = v1.toInt := congrArg Int32.toInt hv1
      have fc81 : (128 : Int32).toInt = 128 := rfl
      have fc82 : (194 : Int32).toInt = 194 := rfl
      have fc83 : (224 : Int32).toInt = 224 := rfl
      have fc84 : (240 : Int32).toInt = 240 := rfl
      have fc85 : ((0 : Int32) + (2 : Int32)).toInt = 2 := by decide
      have fc86 : (5 : Int32).toInt = 5 := rfl
      have fc87 : (160 : Int32).toInt = 160 := rfl
      have fr88 := rng32 x2
      omega
    refine g_icmp_le_t 168 C X0 d3_163 (by decide) (by decide) hq70 ?_
    refine g_iconst 169 rfl C X0 (2 : Int32) d3_168 rfl ?_
    refine g_istore 171 rfl C X0 (2 : Int32) rfl #[.val (.ref b0), .val (.int (0 : Int32)), .val (.int (5 : Int32)), .val (.int v1), .val (.int (2 : Int32)), .val (.int (160 : Int32)), .val (.int (191 : Int32)), .val (.int v49), .val (.int (2 : Int32))] d3_169 rfl ?_
    refine g_iload 173 rfl C X0 d3_171 rfl ?_
    refine g_iload 175 rfl C X0 d3_173 rfl ?_
    refine g_icmp_gt_f 178 rfl C X0 d3_175 (by decide) ?_
    refine g_aloadN 179 rfl C X0 d3_178 rfl rfl ?_
    refine g_iloadN 180 rfl C X0 d3_179 rfl ?_
    refine g_iload 182 rfl C X0 d3_180 rfl ?_
    refine g_iadd 183 rfl C X0 d3_182 ?_
    refine g_baload 184 rfl C X0 e0 B_b0 2 (by decide) (by decide) x2 hx2 d3_183 ?_
    refine g_sipush 187 rfl C X0 (192 : Int32) d3_184 rfl ?_
    refine g_iand 188 rfl C X0 d3_187 ?_
    refine g_sipush 191 rfl C X0 (128 : Int32) d3_188 rfl ?_
    have hq90 : (x2 &&& (192 : Int32)).toInt = (128 : Int32).toInt := by
      have fr91 := rng32 x2
      have fc92 : (192 : Int32).toInt = 192 := rfl
      have fc94 : (63 : Int32).toInt = 63 := rfl
      have fo95 : (x2 &&& (63 : Int32)).toInt = x2.toInt % 64 := c_mask x2 (63 : Int32) 6 (by decide) (by decide)
      have fc96 : (255 : Int32).toInt = 255 := rfl
      have fo97 : (x2 &&& (255 : Int32)).toInt = x2.toInt % 256 := c_mask x2 (255 : Int32) 8 (by decide) (by decide)
      have fo93 := own_blk x2 (192 : Int32) (63 : Int32) (255 : Int32) (by decide) (by decide)
      have fo98 := c_and x2 (192 : Int32) (by decide)
      have fr99 := rng32 (x2 &&& (192 : Int32))
      have fc100 : (128 : Int32).toInt = 128 := rfl
      have fr101 := rng32 v1
      have fr102 := rng32 x0
      have fo103 : (x0 &&& (255 : Int32)).toInt = x0.toInt % 256 := c_mask x0 (255 : Int32) 8 (by decide) (by decide)
      have fe104 : (x0 &&& (255 : Int32)).toInt = v1.toInt := congrArg Int32.toInt hv1
      have fc105 : (194 : Int32).toInt = 194 := rfl
      have fc106 : (224 : Int32).toInt = 224 := rfl
      have fc107 : (240 : Int32).toInt = 240 := rfl
      have fc108 : ((0 : Int32) + (2 : Int32)).toInt = 2 := by decide
      have fc109 : (5 : Int32).toInt = 5 := rfl
      have fr110 := rng32 v49
      have fr111 := rng32 x1
      have fo112 : (x1 &&& (255 : Int32)).toInt = x1.toInt % 256 := c_mask x1 (255 : Int32) 8 (by decide) (by decide)
      have fe113 : (x1 &&& (255 : Int32)).toInt = v49.toInt := congrArg Int32.toInt hv49
      have fc114 : (160 : Int32).toInt = 160 := rfl
      have fc115 : (191 : Int32).toInt = 191 := rfl
      have fc116 : (2 : Int32).toInt = 2 := rfl
      omega
    refine g_icmp_eq_t 196 C X0 d3_191 (by decide) (by decide) hq90 ?_
    refine g_iinc 199 rfl C X0 (1 : Int32) (3 : Int32) #[.val (.ref b0), .val (.int (0 : Int32)), .val (.int (5 : Int32)), .val (.int v1), .val (.int (2 : Int32)), .val (.int (160 : Int32)), .val (.int (191 : Int32)), .val (.int v49), .val (.int (3 : Int32))] d3_196 rfl rfl (by decide) rfl ?_
    refine g_goto 171 C X0 d3_199 (by decide) (by decide) ?_
    refine g_iload 173 rfl C X0 d3_171 rfl ?_
    refine g_iload 175 rfl C X0 d3_173 rfl ?_
    refine g_icmp_gt_t 202 C X0 d3_175 (by decide) (by decide) (by decide) ?_
    refine g_iload 204 rfl C X0 d3_202 rfl ?_
    refine g_iconst 205 rfl C X0 (1 : Int32) d3_204 rfl ?_
    refine g_iadd 206 rfl C X0 d3_205 ?_
    exact g_retI C X0 rfl d3_206 e0 (by decide) (by decide) ⟨congrArg (fun z => some (Value.int z)) (by decide), N0, rfl⟩
  · skip
    refine g_icmp_ne_t 74 C X0 d3_63 (by decide) (by decide) hb48 ?_
    refine g_iloadN 75 rfl C X0 d3_74 rfl ?_
    refine g_sipush 78 rfl C X0 (237 : Int32) d3_75 rfl ?_
    by_cases hb117 : v1.toInt = (237 : Int32).toInt
    · skip
      refine g_icmp_ne_f 81 rfl C X0 d3_78 hb117 ?_
      refine g_sipush 84 rfl C X0 (159 : Int32) d3_81 rfl ?_
      refine g_istore 86 rfl C X0 (159 : Int32) rfl #[.val (.ref b0), .val (.int (0 : Int32)), .val (.int (5 : Int32)), .val (.int v1), .val (.int (2 : Int32)), .val (.int (128 : Int32)), .val (.int (159 : Int32)), .unset, .unset] d3_84 rfl ?_
      refine g_goto 131 C X0 d3_86 (by decide) (by decide) ?_
      refine g_iloadN 132 rfl C X0 d3_131 rfl ?_
      refine g_iload 134 rfl C X0 d3_132 rfl ?_
      refine g_iadd 135 rfl C X0 d3_134 ?_
      refine g_iloadN 136 rfl C X0 d3_135 rfl ?_
      refine g_icmp_lt_t 141 C X0 d3_136 (by decide) (by decide) (by decide) ?_
      refine g_aloadN 142 rfl C X0 d3_141 rfl rfl ?_
      refine g_iloadN 143 rfl C X0 d3_142 rfl ?_
      refine g_iconst 144 rfl C X0 (1 : Int32) d3_143 rfl ?_
      refine g_iadd 145 rfl C X0 d3_144 ?_
      refine g_baload 146 rfl C X0 e0 B_b0 1 (by decide) (by decide) x1 hx1 d3_145 ?_
      refine g_sipush 149 rfl C X0 (255 : Int32) d3_146 rfl ?_
      refine g_iand 150 rfl C X0 d3_149 ?_
      obtain ⟨v118, hv118⟩ : ∃ z : Int32, (x1 &&& (255 : Int32)) = z := ⟨_, rfl⟩
      refine g_istore 152 rfl C X0 v118 hv118 #[.val (.ref b0), .val (.int (0 : Int32)), .val (.int (5 : Int32)), .val (.int v1), .val (.int (2 : Int32)), .val (.int (128 : Int32)), .val (.int (159 : Int32)), .val (.int v118), .unset] d3_150 rfl ?_
      refine g_iload 154 rfl C X0 d3_152 rfl ?_
      refine g_iload 156 rfl C X0 d3_154 rfl ?_
      have hq120 : ¬ (v118.toInt < (128 : Int32).toInt) := by
        have fr121 := rng32 v118
        have fr122 := rng32 x1
        have fc123 : (255 : Int32).toInt = 255 := rfl
        have fo124 : (x1 &&& (255 : Int32)).toInt = x1.toInt % 256 := c_mask x1 (255 : Int32) 8 (by decide) (by decide)
        have fe125 : (x1 &&& (255 : Int32)).toInt = v118.toInt := congrArg Int32.toInt hv118
        have fc126 : (128 : Int32).toInt = 128 := rfl
        have fr127 := rng32 v1
        have fr128 := rng32 x0
        have fo129 : (x0 &&& (255 : Int32)).toInt = x0.toInt % 256 := c_mask x0 (255 : Int32) 8 (by decide) (by decide)
        have fe130 : (x0 &&& (255 : Int32)).toInt = v1.toInt := congrArg Int32.toInt hv1
        have fc131 : (194 : Int32).toInt = 194 := rfl
        have fc132 : (224 : Int32).toInt = 224 := rfl
        have fc133 : (240 : Int32).toInt = 240 := rfl
        have fc134 : (237 : Int32).toInt = 237 := rfl
        have fc135 : ((0 : Int32) + (2 : Int32)).toInt = 2 := by decide
        have fc136 : (5 : Int32).toInt = 5 := rfl
        have fr137 := rng32 x2
        omega
      refine g_icmp_lt_f 159 rfl C X0 d3_156 hq120 ?_
      refine g_iload 161 rfl C X0 d3_159 rfl ?_
      refine g_iload 163 rfl C X0 d3_161 rfl ?_
      have hq139 : ¬ ((159 : Int32).toInt < v118.toInt) := by
        have fr140 := rng32 v118
        have fr141 := rng32 x1
        have fc142 : (255 : Int32).toInt = 255 := rfl
        have fo143 : (x1 &&& (255 : Int32)).toInt = x1.toInt % 256 := c_mask x1 (255 : Int32) 8 (by decide) (by decide)
        have fe144 : (x1 &&& (255 : Int32)).toInt = v118.toInt := congrArg Int32.toInt hv118
        have fc145 : (159 : Int32).toInt = 159 := rfl
        have fr146 := rng32 v1
        have fr147 := rng32 x0
        have fo148 : (x0 &&& (255 : Int32)).toInt = x0.toInt % 256 := c_mask x0 (255 : Int32) 8 (by decide) (by decide)
        have fe149 : (x0 &&& (255 : Int32)).toInt = v1.toInt := congrArg Int32.toInt hv1
        have fc150 : (128 : Int32).toInt = 128 := rfl
        have fc151 : (194 : Int32).toInt = 194 := rfl
        have fc152 : (224 : Int32).toInt = 224 := rfl
        have fc153 : (240 : Int32).toInt = 240 := rfl
        have fc154 : (237 : Int32).toInt = 237 := rfl
        have fc155 : ((0 : Int32) + (2 : Int32)).toInt = 2 := by decide
        have fc156 : (5 : Int32).toInt = 5 := rfl
        have fr157 := rng32 x2
        omega
      refine g_icmp_le_t 168 C X0 d3_163 (by decide) (by decide) hq139 ?_
      refine g_iconst 169 rfl C X0 (2 : Int32) d3_168 rfl ?_
      refine g_istore 171 rfl C X0 (2 : Int32) rfl #[.val (.ref b0), .val (.int (0 : Int32)), .val (.int (5 : Int32)), .val (.int v1), .val (.int (2 : Int32)), .val (.int (128 : Int32)), .val (.int (159 : Int32)), .val (.int v118), .val (.int (2 : Int32))] d3_169 rfl ?_
      refine g_iload 173 rfl C X0 d3_171 rfl ?_
      refine g_iload 175 rfl C X0 d3_173 rfl ?_
      refine g_icmp_gt_f 178 rfl C X0 d3_175 (by decide) ?_
      refine g_aloadN 179 rfl C X0 d3_178 rfl rfl ?_
      refine g_iloadN 180 rfl C X0 d3_179 rfl ?_
      refine g_iload 182 rfl C X0 d3_180 rfl ?_
      refine g_iadd 183 rfl C X0 d3_182 ?_
      refine g_baload 184 rfl C X0 e0 B_b0 2 (by decide) (by decide) x2 hx2 d3_183 ?_
      refine g_sipush 187 rfl C X0 (192 : Int32) d3_184 rfl ?_
      refine g_iand 188 rfl C X0 d3_187 ?_
      refine g_sipush 191 rfl C X0 (128 : Int32) d3_188 rfl ?_
      have hq159 : (x2 &&& (192 : Int32)).toInt = (128 : Int32).toInt := by
        have fr160 := rng32 x2
        have fc161 : (192 : Int32).toInt = 192 := rfl
        have fc163 : (63 : Int32).toInt = 63 := rfl
        have fo164 : (x2 &&& (63 : Int32)).toInt = x2.toInt % 64 := c_mask x2 (63 : Int32) 6 (by decide) (by decide)
        have fc165 : (255 : Int32).toInt = 255 := rfl
        have fo166 : (x2 &&& (255 : Int32)).toInt = x2.toInt % 256 := c_mask x2 (255 : Int32) 8 (by decide) (by decide)
        have fo162 := own_blk x2 (192 : Int32) (63 : Int32) (255 : Int32) (by decide) (by decide)
        have fo167 := c_and x2 (192 : Int32) (by decide)
        have fr168 := rng32 (x2 &&& (192 : Int32))
        have fc169 : (128 : Int32).toInt = 128 := rfl
        have fr170 := rng32 v1
        have fr171 := rng32 x0
        have fo172 : (x0 &&& (255 : Int32)).toInt = x0.toInt % 256 := c_mask x0 (255 : Int32) 8 (by decide) (by decide)
        have fe173 : (x0 &&& (255 : Int32)).toInt = v1.toInt := congrArg Int32.toInt hv1
        have fc174 : (194 : Int32).toInt = 194 := rfl
        have fc175 : (224 : Int32).toInt = 224 := rfl
        have fc176 : (240 : Int32).toInt = 240 := rfl
        have fc177 : (237 : Int32).toInt = 237 := rfl
        have fc178 : ((0 : Int32) + (2 : Int32)).toInt = 2 := by decide
        have fc179 : (5 : Int32).toInt = 5 := rfl
        have fr180 := rng32 v118
        have fr181 := rng32 x1
        have fo182 : (x1 &&& (255 : Int32)).toInt = x1.toInt % 256 := c_mask x1 (255 : Int32) 8 (by decide) (by decide)
        have fe183 : (x1 &&& (255 : Int32)).toInt = v118.toInt := congrArg Int32.toInt hv118
        have fc184 : (159 : Int32).toInt = 159 := rfl
        have fc185 : (2 : Int32).toInt = 2 := rfl
        omega
      refine g_icmp_eq_t 196 C X0 d3_191 (by decide) (by decide) hq159 ?_
      refine g_iinc 199 rfl C X0 (1 : Int32) (3 : Int32) #[.val (.ref b0), .val (.int (0 : Int32)), .val (.int (5 : Int32)), .val (.int v1), .val (.int (2 : Int32)), .val (.int (128 : Int32)), .val (.int (159 : Int32)), .val (.int v118), .val (.int (3 : Int32))] d3_196 rfl rfl (by decide) rfl ?_
      refine g_goto 171 C X0 d3_199 (by decide) (by decide) ?_
      refine g_iload 173 rfl C X0 d3_171 rfl ?_
      refine g_iload 175 rfl C X0 d3_173 rfl ?_
      refine g_icmp_gt_t 202 C X0 d3_175 (by decide) (by decide) (by decide) ?_
      refine g_iload 204 rfl C X0 d3_202 rfl ?_
      refine g_iconst 205 rfl C X0 (1 : Int32) d3_204 rfl ?_
      refine g_iadd 206 rfl C X0 d3_205 ?_
      exact g_retI C X0 rfl d3_206 e0 (by decide) (by decide) ⟨congrArg (fun z => some (Value.int z)) (by decide), N0, rfl⟩
    · skip
      refine g_icmp_ne_t 131 C X0 d3_78 (by decide) (by decide) hb117 ?_
      refine g_iloadN 132 rfl C X0 d3_131 rfl ?_
      refine g_iload 134 rfl C X0 d3_132 rfl ?_
      refine g_iadd 135 rfl C X0 d3_134 ?_
      refine g_iloadN 136 rfl C X0 d3_135 rfl ?_
      refine g_icmp_lt_t 141 C X0 d3_136 (by decide) (by decide) (by decide) ?_
      refine g_aloadN 142 rfl C X0 d3_141 rfl rfl ?_
      refine g_iloadN 143 rfl C X0 d3_142 rfl ?_
      refine g_iconst 144 rfl C X0 (1 : Int32) d3_143 rfl ?_
      refine g_iadd 145 rfl C X0 d3_144 ?_
      refine g_baload 146 rfl C X0 e0 B_b0 1 (by decide) (by decide) x1 hx1 d3_145 ?_
      refine g_sipush 149 rfl C X0 (255 : Int32) d3_146 rfl ?_
      refine g_iand 150 rfl C X0 d3_149 ?_
      obtain ⟨v186, hv186⟩ : ∃ z : Int32, (x1 &&& (255 : Int32)) = z := ⟨_, rfl⟩
      refine g_istore 152 rfl C X0 v186 hv186 #[.val (.ref b0), .val (.int (0 : Int32)), .val (.int (5 : Int32)), .val (.int v1), .val (.int (2 : Int32)), .val (.int (128 : Int32)), .val (.int (191 : Int32)), .val (.int v186), .unset] d3_150 rfl ?_
      refine g_iload 154 rfl C X0 d3_152 rfl ?_
      refine g_iload 156 rfl C X0 d3_154 rfl ?_
      have hq188 : ¬ (v186.toInt < (128 : Int32).toInt) := by
        have fr189 := rng32 v186
        have fr190 := rng32 x1
        have fc191 : (255 : Int32).toInt = 255 := rfl
        have fo192 : (x1 &&& (255 : Int32)).toInt = x1.toInt % 256 := c_mask x1 (255 : Int32) 8 (by decide) (by decide)
        have fe193 : (x1 &&& (255 : Int32)).toInt = v186.toInt := congrArg Int32.toInt hv186
        have fc194 : (128 : Int32).toInt = 128 := rfl
        have fr195 := rng32 v1
        have fr196 := rng32 x0
        have fo197 : (x0 &&& (255 : Int32)).toInt = x0.toInt % 256 := c_mask x0 (255 : Int32) 8 (by decide) (by decide)
        have fe198 : (x0 &&& (255 : Int32)).toInt = v1.toInt := congrArg Int32.toInt hv1
        have fc199 : (194 : Int32).toInt = 194 := rfl
        have fc200 : (224 : Int32).toInt = 224 := rfl
        have fc201 : (240 : Int32).toInt = 240 := rfl
        have fc202 : (237 : Int32).toInt = 237 := rfl
        have fc203 : ((0 : Int32) + (2 : Int32)).toInt = 2 := by decide
        have fc204 : (5 : Int32).toInt = 5 := rfl
        have fr205 := rng32 x2
        omega
      refine g_icmp_lt_f 159 rfl C X0 d3_156 hq188 ?_
      refine g_iload 161 rfl C X0 d3_159 rfl ?_
      refine g_iload 163 rfl C X0 d3_161 rfl ?_
      have hq207 : ¬ ((191 : Int32).toInt < v186.toInt) := by
        have fr208 := rng32 v186
        have fr209 := rng32 x1
        have fc210 : (255 : Int32).toInt = 255 := rfl
        have fo211 : (x1 &&& (255 : Int32)).toInt = x1.toInt % 256 := c_mask x1 (255 : Int32) 8 (by decide) (by decide)
        have fe212 : (x1 &&& (255 : Int32)).toInt = v186.toInt := congrArg Int32.toInt hv186
        have fc213 : (191 : Int32).toInt = 191 := rfl
        have fr214 := rng32 v1
        have fr215 := rng32 x0
        have fo216 : (x0 &&& (255 : Int32)).toInt = x0.toInt % 256 := c_mask x0 (255 : Int32) 8 (by decide) (by decide)
        have fe217 : (x0 &&& (255 : Int32)).toInt = v1.toInt := congrArg Int32.toInt hv1
        have fc218 : (128 : Int32).toInt = 128 := rfl
        have fc219 : (194 : Int32).toInt = 194 := rfl
        have fc220 : (224 : Int32).toInt = 224 := rfl
        have fc221 : (240 : Int32).toInt = 240 := rfl
        have fc222 : (237 : Int32).toInt = 237 := rfl
        have fc223 : ((0 : Int32) + (2 : Int32)).toInt = 2 := by decide
        have fc224 : (5 : Int32).toInt = 5 := rfl
        have fr225 := rng32 x2
        omega
      refine g_icmp_le_t 168 C X0 d3_163 (by decide) (by decide) hq207 ?_
      refine g_iconst 169 rfl C X0 (2 : Int32) d3_168 rfl ?_
      refine g_istore 171 rfl C X0 (2 : Int32) rfl #[.val (.ref b0), .val (.int (0 : Int32)), .val (.int (5 : Int32)), .val (.int v1), .val (.int (2 : Int32)), .val (.int (128 : Int32)), .val (.int (191 : Int32)), .val (.int v186), .val (.int (2 : Int32))] d3_169 rfl ?_
      refine g_iload 173 rfl C X0 d3_171 rfl ?_
      refine g_iload 175 rfl C X0 d3_173 rfl ?_
      refine g_icmp_gt_f 178 rfl C X0 d3_175 (by decide) ?_
      refine g_aloadN 179 rfl C X0 d3_178 rfl rfl ?_
      refine g_iloadN 180 rfl C X0 d3_179 rfl ?_
      refine g_iload 182 rfl C X0 d3_180 rfl ?_
      refine g_iadd 183 rfl C X0 d3_182 ?_
      refine g_baload 184 rfl C X0 e0 B_b0 2 (by decide) (by decide) x2 hx2 d3_183 ?_
      refine g_sipush 187 rfl C X0 (192 : Int32) d3_184 rfl ?_
      refine g_iand 188 rfl C X0 d3_187 ?_
      refine g_sipush 191 rfl C X0 (128 : Int32) d3_188 rfl ?_
      have hq227 : (x2 &&& (192 : Int32)).toInt = (128 : Int32).toInt := by
        have fr228 := rng32 x2
        have fc229 : (192 : Int32).toInt = 192 := rfl
        have fc231 : (63 : Int32).toInt = 63 := rfl
        have fo232 : (x2 &&& (63 : Int32)).toInt = x2.toInt % 64 := c_mask x2 (63 : Int32) 6 (by decide) (by decide)
        have fc233 : (255 : Int32).toInt = 255 := rfl
        have fo234 : (x2 &&& (255 : Int32)).toInt = x2.toInt % 256 := c_mask x2 (255 : Int32) 8 (by decide) (by decide)
        have fo230 := own_blk x2 (192 : Int32) (63 : Int32) (255 : Int32) (by decide) (by decide)
        have fo235 := c_and x2 (192 : Int32) (by decide)
        have fr236 := rng32 (x2 &&& (192 : Int32))
        have fc237 : (128 : Int32).toInt = 128 := rfl
        have fr238 := rng32 v1
        have fr239 := rng32 x0
        have fo240 : (x0 &&& (255 : Int32)).toInt = x0.toInt % 256 := c_mask x0 (255 : Int32) 8 (by decide) (by decide)
        have fe241 : (x0 &&& (255 : Int32)).toInt = v1.toInt := congrArg Int32.toInt hv1
        have fc242 : (194 : Int32).toInt = 194 := rfl
        have fc243 : (224 : Int32).toInt = 224 := rfl
        have fc244 : (240 : Int32).toInt = 240 := rfl
        have fc245 : (237 : Int32).toInt = 237 := rfl
        have fc246 : ((0 : Int32) + (2 : Int32)).toInt = 2 := by decide
        have fc247 : (5 : Int32).toInt = 5 := rfl
        have fr248 := rng32 v186
        have fr249 := rng32 x1
        have fo250 : (x1 &&& (255 : Int32)).toInt = x1.toInt % 256 := c_mask x1 (255 : Int32) 8 (by decide) (by decide)
        have fe251 : (x1 &&& (255 : Int32)).toInt = v186.toInt := congrArg Int32.toInt hv186
        have fc252 : (191 : Int32).toInt = 191 := rfl
        have fc253 : (2 : Int32).toInt = 2 := rfl
        omega
      refine g_icmp_eq_t 196 C X0 d3_191 (by decide) (by decide) hq227 ?_
      refine g_iinc 199 rfl C X0 (1 : Int32) (3 : Int32) #[.val (.ref b0), .val (.int (0 : Int32)), .val (.int (5 : Int32)), .val (.int v1), .val (.int (2 : Int32)), .val (.int (128 : Int32)), .val (.int (191 : Int32)), .val (.int v186), .val (.int (3 : Int32))] d3_196 rfl rfl (by decide) rfl ?_
      refine g_goto 171 C X0 d3_199 (by decide) (by decide) ?_
      refine g_iload 173 rfl C X0 d3_171 rfl ?_
      refine g_iload 175 rfl C X0 d3_173 rfl ?_
      refine g_icmp_gt_t 202 C X0 d3_175 (by decide) (by decide) (by decide) ?_
      refine g_iload 204 rfl C X0 d3_202 rfl ?_
      refine g_iconst 205 rfl C X0 (1 : Int32) d3_204 rfl ?_
      refine g_iadd 206 rfl C X0 d3_205 ?_
      exact g_retI C X0 rfl d3_206 e0 (by decide) (by decide) ⟨congrArg (fun z => some (Value.int z)) (by decide), N0, rfl⟩
theorem d3_89 : decode prog_50_method_3_code 89 = .ok (.iload_n 3, 1) := by decide +kernel
theorem d3_90 : decode prog_50_method_3_code 90 = .ok (.sipush 245, 3) := by decide +kernel
theorem d3_93 : decode prog_50_method_3_code 93 = .ok (.if_icmp .ge 36, 3) := by decide +kernel
theorem d3_96 : decode prog_50_method_3_code 96 = .ok (.iconst 3, 1) := by decide +kernel
theorem d3_97 : decode prog_50_method_3_code 97 = .ok (.istore 4, 2) := by decide +kernel
theorem d3_99 : decode prog_50_method_3_code 99 = .ok (.iload_n 3, 1) := by decide +kernel
theorem d3_100 : decode prog_50_method_3_code 100 = .ok (.sipush 240, 3) := by decide +kernel
theorem d3_103 : decode prog_50_method_3_code 103 = .ok (.if_icmp .ne 11, 3) := by decide +kernel
theorem d3_106 : decode prog_50_method_3_code 106 = .ok (.sipush 144, 3) := by decide +kernel
theorem d3_109 : decode prog_50_method_3_code 109 = .ok (.istore 5, 2) := by decide +kernel
theorem d3_111 : decode prog_50_method_3_code 111 = .ok (.goto 20, 3) := by decide +kernel
theorem d3_114 : decode prog_50_method_3_code 114 = .ok (.iload_n 3, 1) := by decide +kernel
theorem d3_115 : decode prog_50_method_3_code 115 = .ok (.sipush 244, 3) := by decide +kernel
theorem d3_118 : decode prog_50_method_3_code 118 = .ok (.if_icmp .ne 13, 3) := by decide +kernel
theorem d3_121 : decode prog_50_method_3_code 121 = .ok (.sipush 143, 3) := by decide +kernel
theorem d3_124 : decode prog_50_method_3_code 124 = .ok (.istore 6, 2) := by decide +kernel
theorem d3_126 : decode prog_50_method_3_code 126 = .ok (.goto 5, 3) := by decide +kernel
theorem ef_3_4 (m : MethodId) (b0 : Addr) : entryFrame m #[(.ref b0), (.int (0 : Int32)), (.int (5 : Int32))] 9 = mkF m 0 #[.val (.ref b0), .val (.int (0 : Int32)), .val (.int (5 : Int32)), .unset, .unset, .unset, .unset, .unset, .unset] [] := by first | (simp [entryFrame, mkF, argsToLocals, Value.category]; done) | rfl
def Q3_4 (Z : State) (b0 : Addr) (f : Nat → Int32) (x0 : Int32) (x1 : Int32) (x2 : Int32) (x3 : Int32) (h0 : Heap) (n0 : Nat) (v : Option Value) (h : Heap) (L : List Loc) : Prop := v = some (.int 4) ∧ Fr n0 L ∧ h = h0
set_option maxRecDepth 65536 in
set_option maxHeartbeats 40000000 in
theorem rm3_4 (l : Launch) (Z : State) (a0 : Array Value) (hw : ∀ d ∈ tables_1, d.before a0 Z = true) (ws : List Jvm.Cond) (b0 : Addr) (f : Nat → Int32) (x0 : Int32) (x1 : Int32) (x2 : Int32) (x3 : Int32) (h0 : Heap) (n0 : Nat) (Z0 : n0 ≤ h0.size) (B_b0 : Ba Z h0 b0 .byte 5 f) (hx0 : f 0 = x0) (hx1 : f 1 = x1) (hx2 : f 2 = x2) (hx3 : f 3 = x3) (hr0 : -128 ≤ x0.toInt ∧ x0.toInt < 128) (hr1 : -128 ≤ x1.toInt ∧ x1.toInt < 128) (hr2 : -128 ≤ x2.toInt ∧ x2.toInt < 128) (hr3 : -128 ≤ x3.toInt ∧ x3.toInt < 128) (hsq : -16 ≤ x0.toInt ∧ x0.toInt ≤ -12 ∧ x1.toInt < -64 ∧ x2.toInt < -64 ∧ x3.toInt < -64 ∧ (x0.toInt = -16 → -112 ≤ x1.toInt) ∧ (x0.toInt = -12 → x1.toInt ≤ -113)) :
    MetFree l (⟨"com/example/schedario/schedario/records/Utf8", "sequence", "([BII)I"⟩ : MethodName) (head1 (Jvm.Cond.code (⟨"com/example/schedario/schedario/records/Utf8", "sequence", "([BII)I"⟩ : MethodName) prog_50_method_3_code 9 (some .int) :: ws) ({ frames := 0, cells := 0, slots := 0, locals := 0 } : Room)) (fun a U => a = #[(.ref b0), (.int (0 : Int32)), (.int (5 : Int32))] ∧ Z.Warmed39 U.vm ∧ U.heap = h0) (fun _ _ _ _ _ => True) (fun _ U o U' => ∃ v L, o = .returned v ∧ Q3_4 Z b0 f x0 x1 x2 x3 h0 n0 v U'.heap L ∧ FrameEnd U o U' L ({ frames := 0, cells := 0, slots := 0, locals := 0 } : Room).cells ({ frames := 0, cells := 0, slots := 0, locals := 0 } : Room).slots) := by
  refine MetFree.of_bodySF (plainFor_of_name pn_41208506) hisR ?_
  intro p e s m args below meth c s₁ Bd hml0 hP hK
  obtain ⟨rfl, hZ, hh⟩ := hP
  have C : Ctx p s m meth c Z "com/example/schedario/schedario/records/Utf8" "sequence" prog_50_method_3_code 9 (some .int) := Ctx.of Bd hml0 hZ
  have X0 : Stand p l e ({ frames := 0, cells := 0, slots := 0, locals := 0 } : Room) s m #[(.ref b0), (.int (0 : Int32)), (.int (5 : Int32))] below meth c s₁ [] 0 0 := Stand.of_body Bd
  have e0 : s₁.heap = h0 := by rw [← hh, Bd.state]; rfl
  have N0 := Fr.nil n0
  refine Goes.enter (ef_3_4 m b0) ?_
  clear hK hml0 hh
  refine g_aloadN 1 rfl C X0 d3_0 rfl rfl ?_
  refine g_iloadN 2 rfl C X0 d3_1 rfl ?_
  refine g_baload 3 rfl C X0 e0 B_b0 0 (by decide) (by decide) x0 hx0 d3_2 ?_
  refine g_sipush 6 rfl C X0 (255 : Int32) d3_3 rfl ?_
  refine g_iand 7 rfl C X0 d3_6 ?_
  obtain ⟨v1, hv1⟩ : ∃ z : Int32, (x0 &&& (255 : Int32)) = z := ⟨_, rfl⟩
  refine g_istoreN 8 rfl C X0 v1 hv1 #[.val (.ref b0), .val (.int (0 : Int32)), .val (.int (5 : Int32)), .val (.int v1), .unset, .unset, .unset, .unset, .unset] d3_7 rfl ?_
  refine g_iloadN 9 rfl C X0 d3_8 rfl ?_
  refine g_sipush 12 rfl C X0 (128 : Int32) d3_9 rfl ?_
  have hq3 : ¬ (v1.toInt < (128 : Int32).toInt) := by
    have fr4 := rng32 v1
    have fr5 := rng32 x0
    have fc6 : (255 : Int32).toInt = 255 := rfl
    have fo7 : (x0 &&& (255 : Int32)).toInt = x0.toInt % 256 := c_mask x0 (255 : Int32) 8 (by decide) (by decide)
    have fe8 : (x0 &&& (255 : Int32)).toInt = v1.toInt := congrArg Int32.toInt hv1
    have fc9 : (128 : Int32).toInt = 128 := rfl
    have fr10 := rng32 x1
    have fr11 := rng32 x2
    have fr12 := rng32 x3
    omega
  refine g_icmp_ge_t 17 C X0 d3_12 (by decide) (by decide) hq3 ?_
  refine g_sipush 20 rfl C X0 (128 : Int32) d3_17 rfl ?_
  refine g_istore 22 rfl C X0 (128 : Int32) rfl #[.val (.ref b0), .val (.int (0 : Int32)), .val (.int (5 : Int32)), .val (.int v1), .unset, .val (.int (128 : Int32)), .unset, .unset, .unset] d3_20 rfl ?_
  refine g_sipush 25 rfl C X0 (191 : Int32) d3_22 rfl ?_
  refine g_istore 27 rfl C X0 (191 : Int32) rfl #[.val (.ref b0), .val (.int (0 : Int32)), .val (.int (5 : Int32)), .val (.int v1), .unset, .val (.int (128 : Int32)), .val (.int (191 : Int32)), .unset, .unset] d3_25 rfl ?_
  refine g_iloadN 28 rfl C X0 d3_27 rfl ?_
  refine g_sipush 31 rfl C X0 (194 : Int32) d3_28 rfl ?_
  have hq14 : ¬ (v1.toInt < (194 : Int32).toInt) := by
    have fr15 := rng32 v1
    have fr16 := rng32 x0
    have fc17 : (255 : Int32).toInt = 255 := rfl
    have fo18 : (x0 &&& (255 : Int32)).toInt = x0.toInt % 256 := c_mask x0 (255 : Int32) 8 (by decide) (by decide)
    have fe19 : (x0 &&& (255 : Int32)).toInt = v1.toInt := congrArg Int32.toInt hv1
    have fc20 : (194 : Int32).toInt = 194 := rfl
    have fc21 : (128 : Int32).toInt = 128 := rfl
    have fr22 := rng32 x1
    have fr23 := rng32 x2
    have fr24 := rng32 x3
    omega
  refine g_icmp_ge_t 36 C X0 d3_31 (by decide) (by decide) hq14 ?_
  refine g_iloadN 37 rfl C X0 d3_36 rfl ?_
  refine g_sipush 40 rfl C X0 (224 : Int32) d3_37 rfl ?_
  have hq26 : ¬ (v1.toInt < (224 : Int32).toInt) := by
    have fr27 := rng32 v1
    have fr28 := rng32 x0
    have fc29 : (255 : Int32).toInt = 255 := rfl
    have fo30 : (x0 &&& (255 : Int32)).toInt = x0.toInt % 256 := c_mask x0 (255 : Int32) 8 (by decide) (by decide)
    have fe31 : (x0 &&& (255 : Int32)).toInt = v1.toInt := congrArg Int32.toInt hv1
    have fc32 : (224 : Int32).toInt = 224 := rfl
    have fc33 : (128 : Int32).toInt = 128 := rfl
    have fc34 : (194 : Int32).toInt = 194 := rfl
    have fr35 := rng32 x1
    have fr36 := rng32 x2
    have fr37 := rng32 x3
    omega
  refine g_icmp_ge_t 49 C X0 d3_40 (by decide) (by decide) hq26 ?_
  refine g_iloadN 50 rfl C X0 d3_49 rfl ?_
  refine g_sipush 53 rfl C X0 (240 : Int32) d3_50 rfl ?_
  have hq39 : ¬ (v1.toInt < (240 : Int32).toInt) := by
    have fr40 := rng32 v1
    have fr41 := rng32 x0
    have fc42 : (255 : Int32).toInt = 255 := rfl
    have fo43 : (x0 &&& (255 : Int32)).toInt = x0.toInt % 256 := c_mask x0 (255 : Int32) 8 (by decide) (by decide)
    have fe44 : (x0 &&& (255 : Int32)).toInt = v1.toInt := congrArg Int32.toInt hv1
    have fc45 : (240 : Int32).toInt = 240 := rfl
    have fc46 : (128 : Int32).toInt = 128 := rfl
    have fc47 : (194 : Int32).toInt = 194 := rfl
    have fc48 : (224 : Int32).toInt = 224 := rfl
    have fr49 := rng32 x1
    have fr50 := rng32 x2
    have fr51 := rng32 x3
    omega
  refine g_icmp_ge_t 89 C X0 d3_53 (by decide) (by decide) hq39 ?_
  refine g_iloadN 90 rfl C X0 d3_89 rfl ?_
  refine g_sipush 93 rfl C X0 (245 : Int32) d3_90 rfl ?_
  have hq53 : v1.toInt < (245 : Int32).toInt := by
    have fr54 := rng32 v1
    have fr55 := rng32 x0
    have fc56 : (255 : Int32).toInt = 255 := rfl
    have fo57 : (x0 &&& (255 : Int32)).toInt = x0.toInt % 256 := c_mask x0 (255 : Int32) 8 (by decide) (by decide)
    have fe58 : (x0 &&& (255 : Int32)).toInt = v1.toInt := congrArg Int32.toInt hv1
    have fc59 : (245 : Int32).toInt = 245 := rfl
    have fc60 : (128 : Int32).toInt = 128 := rfl
    have fc61 : (194 : Int32).toInt = 194 := rfl
    have fc62 : (224 : Int32).toInt = 224 := rfl
    have fc63 : (240 : Int32).toInt = 240 := rfl
    have fr64 := rng32 x1
    have fr65 := rng32 x2
    have fr66 := rng32 x3
    omega
  refine g_icmp_ge_f 96 rfl C X0 d3_93 hq53 ?_
  refine g_iconst 97 rfl C X0 (3 : Int32) d3_96 rfl ?_
  refine g_istore 99 rfl C X0 (3 : Int32) rfl #[.val (.ref b0), .val (.int (0 : Int32)), .val (.int (5 : Int32)), .val (.int v1), .val (.int (3 : Int32)), .val (.int (128 : Int32)), .val (.int (191 : Int32)), .unset, .unset] d3_97 rfl ?_
  refine g_iloadN 100 rfl C X0 d3_99 rfl ?_
  refine g_sipush 103 rfl C X0 (240 : Int32) d3_100 rfl ?_
  by_cases hb67 : v1.toInt = (240 : Int32).toInt
  · skip
    refine g_icmp_ne_f 106 rfl C X0 d3_103 hb67 ?_
    refine g_sipush 109 rfl C X0 (144 : Int32) d3_106 rfl ?_
    refine g_istore 111 rfl C X0 (144 : Int32) rfl #[.val (.ref b0), .val (.int (0 : Int32)), .val (.int (5 : Int32)), .val (.int v1), .val (.int (3 : Int32)), .val (.int (144 : Int32)), .val (.int (191 : Int32)), .unset, .unset] d3_109 rfl ?_
    refine g_goto 131 C X0 d3_111 (by decide) (by decide) ?_
    refine g_iloadN 132 rfl C X0 d3_131 rfl ?_
    refine g_iload 134 rfl C X0 d3_132 rfl ?_
    refine g_iadd 135 rfl C X0 d3_134 ?_
    refine g_iloadN 136 rfl C X0 d3_135 rfl ?_
    refine g_icmp_lt_t 141 C X0 d3_136 (by decide) (by decide) (by decide) ?_
    refine g_aloadN 142 rfl C X0 d3_141 rfl rfl ?_
    refine g_iloadN 143 rfl C X0 d3_142 rfl ?_
    refine g_iconst 144 rfl C X0 (1 : Int32) d3_143 rfl ?_
    refine g_iadd 145 rfl C X0 d3_144 ?_
    refine g_baload 146 rfl C X0 e0 B_b0 1 (by decide) (by decide) x1 hx1 d3_145 ?_
    refine g_sipush 149 rfl C X0 (255 : Int32) d3_146 rfl ?_
    refine g_iand 150 rfl C X0 d3_149 ?_
    obtain ⟨v68, hv68⟩ : ∃ z : Int32, (x1 &&& (255 : Int32)) = z := ⟨_, rfl⟩
    refine g_istore 152 rfl C X0 v68 hv68 #[.val (.ref b0), .val (.int (0 : Int32)), .val (.int (5 : Int32)), .val (.int v1), .val (.int (3 : Int32)), .val (.int (144 : Int32)), .val (.int (191 : Int32)), .val (.int v68), .unset] d3_150 rfl ?_
    refine g_iload 154 rfl C X0 d3_152 rfl ?_
    refine g_iload 156 rfl C X0 d3_154 rfl ?_
    have hq70 : ¬ (v68.toInt < (144 : Int32).toInt) := by
      have fr71 := rng32 v68
      have fr72 := rng32 x1
      have fc73 : (255 : Int32).toInt = 255 := rfl
      have fo74 : (x1 &&& (255 : Int32)).toInt = x1.toInt % 256 := c_mask x1 (255 : Int32) 8 (by decide) (by decide)
      have fe75 : (x1 &&& (255 : Int32)).toInt = v68.toInt := congrArg Int32.toInt hv68
      have fc76 : (144 : Int32).toInt = 144 := rfl
      have fr77 := rng32 v1
      have fr78 := rng32 x0
      have fo79 : (x0 &&& (255 : Int32)).toInt = x0.toInt % 256 := c_mask x0 (255 : Int32) 8 (by decide) (by decide)
      have fe80 : (x0 &&& (255 : Int32)).toInt = v1.toInt := congrArg Int32.toInt hv1
      have fc81 : (128 : Int32).toInt = 128 := rfl
      have fc82 : (194 : Int32).toInt = 194 := rfl
      have fc83 : (224 : Int32).toInt = 224 := rfl
      have fc84 : (240 : Int32).toInt = 240 := rfl
      have fc85 : (245 : Int32).toInt = 245 := rfl
      have fc86 : ((0 : Int32) + (3 : Int32)).toInt = 3 := by decide
      have fc87 : (5 : Int32).toInt = 5 := rfl
      have fr88 := rng32 x2
      have fr89 := rng32 x3
      omega
    refine g_icmp_lt_f 159 rfl C X0 d3_156 hq70 ?_
    refine g_iload 161 rfl C X0 d3_159 rfl ?_
    refine g_iload 163 rfl C X0 d3_161 rfl ?_
    have hq91 : ¬ ((191 : Int32).toInt < v68.toInt) := by
      have fr92 := rng32 v68
      have fr93 := rng32 x1
      have fc94 : (255 : Int32).toInt = 255 := rfl
      have fo95 : (x1 &&& (255 : Int32)).toInt = x1.toInt % 256 := c_mask x1 (255 : Int32) 8 (by decide) (by decide)
      have fe96 : (x1 &&& (255 : Int32)).toInt = v68.toInt := congrArg Int32.toInt hv68
      have fc97 : (191 : Int32).toInt = 191 := rfl
      have fr98 := rng32 v1
      have fr99 := rng32 x0
      have fo100 : (x0 &&& (255 : Int32)).toInt = x0.toInt % 256 := c_mask x0 (255 : Int32) 8 (by decide) (by decide)
      have fe101 : (x0 &&& (255 : Int32)).toInt = v1.toInt := congrArg Int32.toInt hv1
      have fc102 : (128 : Int32).toInt = 128 := rfl
      have fc103 : (194 : Int32).toInt = 194 := rfl
      have fc104 : (224 : Int32).toInt = 224 := rfl
      have fc105 : (240 : Int32).toInt = 240 := rfl
      have fc106 : (245 : Int32).toInt = 245 := rfl
      have fc107 : ((0 : Int32) + (3 : Int32)).toInt = 3 := by decide
      have fc108 : (5 : Int32).toInt = 5 := rfl
      have fc109 : (144 : Int32).toInt = 144 := rfl
      have fr110 := rng32 x2
      have fr111 := rng32 x3
      omega
    refine g_icmp_le_t 168 C X0 d3_163 (by decide) (by decide) hq91 ?_
    refine g_iconst 169 rfl C X0 (2 : Int32) d3_168 rfl ?_
    refine g_istore 171 rfl C X0 (2 : Int32) rfl #[.val (.ref b0), .val (.int (0 : Int32)), .val (.int (5 : Int32)), .val (.int v1), .val (.int (3 : Int32)), .val (.int (144 : Int32)), .val (.int (191 : Int32)), .val (.int v68), .val (.int (2 : Int32))] d3_169 rfl ?_
    refine g_iload 173 rfl C X0 d3_171 rfl ?_
    refine g_iload 175 rfl C X0 d3_173 rfl ?_
    refine g_icmp_gt_f 178 rfl C X0 d3_175 (by decide) ?_
    refine g_aloadN 179 rfl C X0 d3_178 rfl rfl ?_
    refine g_iloadN 180 rfl C X0 d3_179 rfl ?_
    refine g_iload 182 rfl C X0 d3_180 rfl ?_
    refine g_iadd 183 rfl C X0 d3_182 ?_
    refine g_baload 184 rfl C X0 e0 B_b0 2 (by decide) (by decide) x2 hx2 d3_183 ?_
    refine g_sipush 187 rfl C X0 (192 : Int32) d3_184 rfl ?_
    refine g_iand 188 rfl C X0 d3_187 ?_
    refine g_sipush 191 rfl C X0 (128 : Int32) d3_188 rfl ?_
    have hq113 : (x2 &&& (192 : Int32)).toInt = (128 : Int32).toInt := by
      have fr114 := rng32 x2
      have fc115 : (192 : Int32).toInt = 192 := rfl
      have fc117 : (63 : Int32).toInt = 63 := rfl
      have fo118 : (x2 &&& (63 : Int32)).toInt = x2.toInt % 64 := c_mask x2 (63 : Int32) 6 (by decide) (by decide)
      have fc119 : (255 : Int32).toInt = 255 := rfl
      have fo120 : (x2 &&& (255 : Int32)).toInt = x2.toInt % 256 := c_mask x2 (255 : Int32) 8 (by decide) (by decide)
      have fo116 := own_blk x2 (192 : Int32) (63 : Int32) (255 : Int32) (by decide) (by decide)
      have fo121 := c_and x2 (192 : Int32) (by decide)
      have fr122 := rng32 (x2 &&& (192 : Int32))
      have fc123 : (128 : Int32).toInt = 128 := rfl
      have fr124 := rng32 v1
      have fr125 := rng32 x0
      have fo126 : (x0 &&& (255 : Int32)).toInt = x0.toInt % 256 := c_mask x0 (255 : Int32) 8 (by decide) (by decide)
      have fe127 : (x0 &&& (255 : Int32)).toInt = v1.toInt := congrArg Int32.toInt hv1
      have fc128 : (194 : Int32).toInt = 194 := rfl
      have fc129 : (224 : Int32).toInt = 224 := rfl
      have fc130 : (240 : Int32).toInt = 240 := rfl
      have fc131 : (245 : Int32).toInt = 245 := rfl
      have fc132 : ((0 : Int32) + (3 : Int32)).toInt = 3 := by decide
      have fc133 : (5 : Int32).toInt = 5 := rfl
      have fr134 := rng32 v68
      have fr135 := rng32 x1
      have fo136 : (x1 &&& (255 : Int32)).toInt = x1.toInt % 256 := c_mask x1 (255 : Int32) 8 (by decide) (by decide)
      have fe137 : (x1 &&& (255 : Int32)).toInt = v68.toInt := congrArg Int32.toInt hv68
      have fc138 : (144 : Int32).toInt = 144 := rfl
      have fc139 : (191 : Int32).toInt = 191 := rfl
      have fc140 : (2 : Int32).toInt = 2 := rfl
      have fc141 : (3 : Int32).toInt = 3 := rfl
      have fr142 := rng32 x3
      omega
    refine g_icmp_eq_t 196 C X0 d3_191 (by decide) (by decide) hq113 ?_
    refine g_iinc 199 rfl C X0 (1 : Int32) (3 : Int32) #[.val (.ref b0), .val (.int (0 : Int32)), .val (.int (5 : Int32)), .val (.int v1), .val (.int (3 : Int32)), .val (.int (144 : Int32)), .val (.int (191 : Int32)), .val (.int v68), .val (.int (3 : Int32))] d3_196 rfl rfl (by decide) rfl ?_
    refine g_goto 171 C X0 d3_199 (by decide) (by decide) ?_
    refine g_iload 173 rfl C X0 d3_171 rfl ?_
    refine g_iload 175 rfl C X0 d3_173 rfl ?_
    refine g_icmp_gt_f 178 rfl C X0 d3_175 (by decide) ?_
    refine g_aloadN 179 rfl C X0 d3_178 rfl rfl ?_
    refine g_iloadN 180 rfl C X0 d3_179 rfl ?_
    refine g_iload 182 rfl C X0 d3_180 rfl ?_
    refine g_iadd 183 rfl C X0 d3_182 ?_
    refine g_baload 184 rfl C X0 e0 B_b0 3 (by decide) (by decide) x3 hx3 d3_183 ?_
    refine g_sipush 187 rfl C X0 (192 : Int32) d3_184 rfl ?_
    refine g_iand 188 rfl C X0 d3_187 ?_
    refine g_sipush 191 rfl C X0 (128 : Int32) d3_188 rfl ?_
    have hq144 : (x3 &&& (192 : Int32)).toInt = (128 : Int32).toInt := by
      have fr145 := rng32 x3
      have fc146 : (192 : Int32).toInt = 192 := rfl
      have fc148 : (63 : Int32).toInt = 63 := rfl
      have fo149 : (x3 &&& (63 : Int32)).toInt = x3.toInt % 64 := c_mask x3 (63 : Int32) 6 (by decide) (by decide)
      have fc150 : (255 : Int32).toInt = 255 := rfl
      have fo151 : (x3 &&& (255 : Int32)).toInt = x3.toInt % 256 := c_mask x3 (255 : Int32) 8 (by decide) (by decide)
      have fo147 := own_blk x3 (192 : Int32) (63 : Int32) (255 : Int32) (by decide) (by decide)
      have fo152 := c_and x3 (192 : Int32) (by decide)
      have fr153 := rng32 (x3 &&& (192 : Int32))
      have fc154 : (128 : Int32).toInt = 128 := rfl
      have fr155 := rng32 v1
      have fr156 := rng32 x0
      have fo157 : (x0 &&& (255 : Int32)).toInt = x0.toInt % 256 := c_mask x0 (255 : Int32) 8 (by decide) (by decide)
      have fe158 : (x0 &&& (255 : Int32)).toInt = v1.toInt := congrArg Int32.toInt hv1
      have fc159 : (194 : Int32).toInt = 194 := rfl
      have fc160 : (224 : Int32).toInt = 224 := rfl
      have fc161 : (240 : Int32).toInt = 240 := rfl
      have fc162 : (245 : Int32).toInt = 245 := rfl
      have fc163 : ((0 : Int32) + (3 : Int32)).toInt = 3 := by decide
      have fc164 : (5 : Int32).toInt = 5 := rfl
      have fr165 := rng32 v68
      have fr166 := rng32 x1
      have fo167 : (x1 &&& (255 : Int32)).toInt = x1.toInt % 256 := c_mask x1 (255 : Int32) 8 (by decide) (by decide)
      have fe168 : (x1 &&& (255 : Int32)).toInt = v68.toInt := congrArg Int32.toInt hv68
      have fc169 : (144 : Int32).toInt = 144 := rfl
      have fc170 : (191 : Int32).toInt = 191 := rfl
      have fc171 : (2 : Int32).toInt = 2 := rfl
      have fc172 : (3 : Int32).toInt = 3 := rfl
      have fr173 := rng32 x2
      have fo175 : (x2 &&& (63 : Int32)).toInt = x2.toInt % 64 := c_mask x2 (63 : Int32) 6 (by decide) (by decide)
      have fo176 : (x2 &&& (255 : Int32)).toInt = x2.toInt % 256 := c_mask x2 (255 : Int32) 8 (by decide) (by decide)
      have fo174 := own_blk x2 (192 : Int32) (63 : Int32) (255 : Int32) (by decide) (by decide)
      have fo177 := c_and x2 (192 : Int32) (by decide)
      have fr178 := rng32 (x2 &&& (192 : Int32))
      omega
    refine g_icmp_eq_t 196 C X0 d3_191 (by decide) (by decide) hq144 ?_
    refine g_iinc 199 rfl C X0 (1 : Int32) (4 : Int32) #[.val (.ref b0), .val (.int (0 : Int32)), .val (.int (5 : Int32)), .val (.int v1), .val (.int (3 : Int32)), .val (.int (144 : Int32)), .val (.int (191 : Int32)), .val (.int v68), .val (.int (4 : Int32))] d3_196 rfl rfl (by decide) rfl ?_
    refine g_goto 171 C X0 d3_199 (by decide) (by decide) ?_
    refine g_iload 173 rfl C X0 d3_171 rfl ?_
    refine g_iload 175 rfl C X0 d3_173 rfl ?_
    refine g_icmp_gt_t 202 C X0 d3_175 (by decide) (by decide) (by decide) ?_
    refine g_iload 204 rfl C X0 d3_202 rfl ?_
    refine g_iconst 205 rfl C X0 (1 : Int32) d3_204 rfl ?_
    refine g_iadd 206 rfl C X0 d3_205 ?_
    exact g_retI C X0 rfl d3_206 e0 (by decide) (by decide) ⟨congrArg (fun z => some (Value.int z)) (by decide), N0, rfl⟩
  · skip
    refine g_icmp_ne_t 114 C X0 d3_103 (by decide) (by decide) hb67 ?_
    refine g_iloadN 115 rfl C X0 d3_114 rfl ?_
    refine g_sipush 118 rfl C X0 (244 : Int32) d3_115 rfl ?_
    by_cases hb179 : v1.toInt = (244 : Int32).toInt
    · skip
      refine g_icmp_ne_f 121 rfl C X0 d3_118 hb179 ?_
      refine g_sipush 124 rfl C X0 (143 : Int32) d3_121 rfl ?_
      refine g_istore 126 rfl C X0 (143 : Int32) rfl #[.val (.ref b0), .val (.int (0 : Int32)), .val (.int (5 : Int32)), .val (.int v1), .val (.int (3 : Int32)), .val (.int (128 : Int32)), .val (.int (143 : Int32)), .unset, .unset] d3_124 rfl ?_
      refine g_goto 131 C X0 d3_126 (by decide) (by decide) ?_
      refine g_iloadN 132 rfl C X0 d3_131 rfl ?_
      refine g_iload 134 rfl C X0 d3_132 rfl ?_
      refine g_iadd 135 rfl C X0 d3_134 ?_
      refine g_iloadN 136 rfl C X0 d3_135 rfl ?_
      refine g_icmp_lt_t 141 C X0 d3_136 (by decide) (by decide) (by decide) ?_
      refine g_aloadN 142 rfl C X0 d3_141 rfl rfl ?_
      refine g_iloadN 143 rfl C X0 d3_142 rfl ?_
      refine g_iconst 144 rfl C X0 (1 : Int32) d3_143 rfl ?_
      refine g_iadd 145 rfl C X0 d3_144 ?_
      refine g_baload 146 rfl C X0 e0 B_b0 1 (by decide) (by decide) x1 hx1 d3_145 ?_
      refine g_sipush 149 rfl C X0 (255 : Int32) d3_146 rfl ?_
      refine g_iand 150 rfl C X0 d3_149 ?_
      obtain ⟨v180, hv180⟩ : ∃ z : Int32, (x1 &&& (255 : Int32)) = z := ⟨_, rfl⟩
      refine g_istore 152 rfl C X0 v180 hv180 #[.val (.ref b0), .val (.int (0 : Int32)), .val (.int (5 : Int32)), .val (.int v1), .val (.int (3 : Int32)), .val (.int (128 : Int32)), .val (.int (143 : Int32)), .val (.int v180), .unset] d3_150 rfl ?_
      refine g_iload 154 rfl C X0 d3_152 rfl ?_
      refine g_iload 156 rfl C X0 d3_154 rfl ?_
      have hq182 : ¬ (v180.toInt < (128 : Int32).toInt) := by
        have fr183 := rng32 v180
        have fr184 := rng32 x1
        have fc185 : (255 : Int32).toInt = 255 := rfl
        have fo186 : (x1 &&& (255 : Int32)).toInt = x1.toInt % 256 := c_mask x1 (255 : Int32) 8 (by decide) (by decide)
        have fe187 : (x1 &&& (255 : Int32)).toInt = v180.toInt := congrArg Int32.toInt hv180
        have fc188 : (128 : Int32).toInt = 128 := rfl
        have fr189 := rng32 v1
        have fr190 := rng32 x0
        have fo191 : (x0 &&& (255 : Int32)).toInt = x0.toInt % 256 := c_mask x0 (255 : Int32) 8 (by decide) (by decide)
        have fe192 : (x0 &&& (255 : Int32)).toInt = v1.toInt := congrArg Int32.toInt hv1
        have fc193 : (194 : Int32).toInt = 194 := rfl
        have fc194 : (224 : Int32).toInt = 224 := rfl
        have fc195 : (240 : Int32).toInt = 240 := rfl
        have fc196 : (245 : Int32).toInt = 245 := rfl
        have fc197 : (244 : Int32).toInt = 244 := rfl
        have fc198 : ((0 : Int32) + (3 : Int32)).toInt = 3 := by decide
        have fc199 : (5 : Int32).toInt = 5 := rfl
        have fr200 := rng32 x2
        have fr201 := rng32 x3
        omega
      refine g_icmp_lt_f 159 rfl C X0 d3_156 hq182 ?_
      refine g_iload 161 rfl C X0 d3_159 rfl ?_
      refine g_iload 163 rfl C X0 d3_161 rfl ?_
      have hq203 : ¬ ((143 : Int32).toInt < v180.toInt) := by
        have fr204 := rng32 v180
        have fr205 := rng32 x1
        have fc206 : (255 : Int32).toInt = 255 := rfl
        have fo207 : (x1 &&& (255 : Int32)).toInt = x1.toInt % 256 := c_mask x1 (255 : Int32) 8 (by decide) (by decide)
        have fe208 : (x1 &&& (255 : Int32)).toInt = v180.toInt := congrArg Int32.toInt hv180
        have fc209 : (143 : Int32).toInt = 143 := rfl
        have fr210 := rng32 v1
        have fr211 := rng32 x0
        have fo212 : (x0 &&& (255 : Int32)).toInt = x0.toInt % 256 := c_mask x0 (255 : Int32) 8 (by decide) (by decide)
        have fe213 : (x0 &&& (255 : Int32)).toInt = v1.toInt := congrArg Int32.toInt hv1
        have fc214 : (128 : Int32).toInt = 128 := rfl
        have fc215 : (194 : Int32).toInt = 194 := rfl
        have fc216 : (224 : Int32).toInt = 224 := rfl
        have fc217 : (240 : Int32).toInt = 240 := rfl
        have fc218 : (245 : Int32).toInt = 245 := rfl
        have fc219 : (244 : Int32).toInt = 244 := rfl
        have fc220 : ((0 : Int32) + (3 : Int32)).toInt = 3 := by decide
        have fc221 : (5 : Int32).toInt = 5 := rfl
        have fr222 := rng32 x2
        have fr223 := rng32 x3
        omega
      refine g_icmp_le_t 168 C X0 d3_163 (by decide) (by decide) hq203 ?_
      refine g_iconst 169 rfl C X0 (2 : Int32) d3_168 rfl ?_
      refine g_istore 171 rfl C X0 (2 : Int32) rfl #[.val (.ref b0), .val (.int (0 : Int32)), .val (.int (5 : Int32)), .val (.int v1), .val (.int (3 : Int32)), .val (.int (128 : Int32)), .val (.int (143 : Int32)), .val (.int v180), .val (.int (2 : Int32))] d3_169 rfl ?_
      refine g_iload 173 rfl C X0 d3_171 rfl ?_
      refine g_iload 175 rfl C X0 d3_173 rfl ?_
      refine g_icmp_gt_f 178 rfl C X0 d3_175 (by decide) ?_
      refine g_aloadN 179 rfl C X0 d3_178 rfl rfl ?_
      refine g_iloadN 180 rfl C X0 d3_179 rfl ?_
      refine g_iload 182 rfl C X0 d3_180 rfl ?_
      refine g_iadd 183 rfl C X0 d3_182 ?_
      refine g_baload 184 rfl C X0 e0 B_b0 2 (by decide) (by decide) x2 hx2 d3_183 ?_
      refine g_sipush 187 rfl C X0 (192 : Int32) d3_184 rfl ?_
      refine g_iand 188 rfl C X0 d3_187 ?_
      refine g_sipush 191 rfl C X0 (128 : Int32) d3_188 rfl ?_
      have hq225 : (x2 &&& (192 : Int32)).toInt = (128 : Int32).toInt := by
        have fr226 := rng32 x2
        have fc227 : (192 : Int32).toInt = 192 := rfl
        have fc229 : (63 : Int32).toInt = 63 := rfl
        have fo230 : (x2 &&& (63 : Int32)).toInt = x2.toInt % 64 := c_mask x2 (63 : Int32) 6 (by decide) (by decide)
        have fc231 : (255 : Int32).toInt = 255 := rfl
        have fo232 : (x2 &&& (255 : Int32)).toInt = x2.toInt % 256 := c_mask x2 (255 : Int32) 8 (by decide) (by decide)
        have fo228 := own_blk x2 (192 : Int32) (63 : Int32) (255 : Int32) (by decide) (by decide)
        have fo233 := c_and x2 (192 : Int32) (by decide)
        have fr234 := rng32 (x2 &&& (192 : Int32))
        have fc235 : (128 : Int32).toInt = 128 := rfl
        have fr236 := rng32 v1
        have fr237 := rng32 x0
        have fo238 : (x0 &&& (255 : Int32)).toInt = x0.toInt % 256 := c_mask x0 (255 : Int32) 8 (by decide) (by decide)
        have fe239 : (x0 &&& (255 : Int32)).toInt = v1.toInt := congrArg Int32.toInt hv1
        have fc240 : (194 : Int32).toInt = 194 := rfl
        have fc241 : (224 : Int32).toInt = 224 := rfl
        have fc242 : (240 : Int32).toInt = 240 := rfl
        have fc243 : (245 : Int32).toInt = 245 := rfl
        have fc244 : (244 : Int32).toInt = 244 := rfl
        have fc245 : ((0 : Int32) + (3 : Int32)).toInt = 3 := by decide
        have fc246 : (5 : Int32).toInt = 5 := rfl
        have fr247 := rng32 v180
        have fr248 := rng32 x1
        have fo249 : (x1 &&& (255 : Int32)).toInt = x1.toInt % 256 := c_mask x1 (255 : Int32) 8 (by decide) (by decide)
        have fe250 : (x1 &&& (255 : Int32)).toInt = v180.toInt := congrArg Int32.toInt hv180
        have fc251 : (143 : Int32).toInt = 143 := rfl
        have fc252 : (2 : Int32).toInt = 2 := rfl
        have fc253 : (3 : Int32).toInt = 3 := rfl
        have fr254 := rng32 x3
        omega
      refine g_icmp_eq_t 196 C X0 d3_191 (by decide) (by decide) hq225 ?_
      refine g_iinc 199 rfl C X0 (1 : Int32) (3 : Int32) #[.val (.ref b0), .val (.int (0 : Int32)), .val (.int (5 : Int32)), .val (.int v1), .val (.int (3 : Int32)), .val (.int (128 : Int32)), .val (.int (143 : Int32)), .val (.int v180), .val (.int (3 : Int32))] d3_196 rfl rfl (by decide) rfl ?_
      refine g_goto 171 C X0 d3_199 (by decide) (by decide) ?_
      refine g_iload 173 rfl C X0 d3_171 rfl ?_
      refine g_iload 175 rfl C X0 d3_173 rfl ?_
      refine g_icmp_gt_f 178 rfl C X0 d3_175 (by decide) ?_
      refine g_aloadN 179 rfl C X0 d3_178 rfl rfl ?_
      refine g_iloadN 180 rfl C X0 d3_179 rfl ?_
      refine g_iload 182 rfl C X0 d3_180 rfl ?_
      refine g_iadd 183 rfl C X0 d3_182 ?_
      refine g_baload 184 rfl C X0 e0 B_b0 3 (by decide) (by decide) x3 hx3 d3_183 ?_
      refine g_sipush 187 rfl C X0 (192 : Int32) d3_184 rfl ?_
      refine g_iand 188 rfl C X0 d3_187 ?_
      refine g_sipush 191 rfl C X0 (128 : Int32) d3_188 rfl ?_
      have hq256 : (x3 &&& (192 : Int32)).toInt = (128 : Int32).toInt := by
        have fr257 := rng32 x3
        have fc258 : (192 : Int32).toInt = 192 := rfl
        have fc260 : (63 : Int32).toInt = 63 := rfl
        have fo261 : (x3 &&& (63 : Int32)).toInt = x3.toInt % 64 := c_mask x3 (63 : Int32) 6 (by decide) (by decide)
        have fc262 : (255 : Int32).toInt = 255 := rfl
        have fo263 : (x3 &&& (255 : Int32)).toInt = x3.toInt % 256 := c_mask x3 (255 : Int32) 8 (by decide) (by decide)
        have fo259 := own_blk x3 (192 : Int32) (63 : Int32) (255 : Int32) (by decide) (by decide)
        have fo264 := c_and x3 (192 : Int32) (by decide)
        have fr265 := rng32 (x3 &&& (192 : Int32))
        have fc266 : (128 : Int32).toInt = 128 := rfl
        have fr267 := rng32 v1
        have fr268 := rng32 x0
        have fo269 : (x0 &&& (255 : Int32)).toInt = x0.toInt % 256 := c_mask x0 (255 : Int32) 8 (by decide) (by decide)
        have fe270 : (x0 &&& (255 : Int32)).toInt = v1.toInt := congrArg Int32.toInt hv1
        have fc271 : (194 : Int32).toInt = 194 := rfl
        have fc272 : (224 : Int32).toInt = 224 := rfl
        have fc273 : (240 : Int32).toInt = 240 := rfl
        have fc274 : (245 : Int32).toInt = 245 := rfl
        have fc275 : (244 : Int32).toInt = 244 := rfl
        have fc276 : ((0 : Int32) + (3 : Int32)).toInt = 3 := by decide
        have fc277 : (5 : Int32).toInt = 5 := rfl
        have fr278 := rng32 v180
        have fr279 := rng32 x1
        have fo280 : (x1 &&& (255 : Int32)).toInt = x1.toInt % 256 := c_mask x1 (255 : Int32) 8 (by decide) (by decide)
        have fe281 : (x1 &&& (255 : Int32)).toInt = v180.toInt := congrArg Int32.toInt hv180
        have fc282 : (143 : Int32).toInt = 143 := rfl
        have fc283 : (2 : Int32).toInt = 2 := rfl
        have fc284 : (3 : Int32).toInt = 3 := rfl
        have fr285 := rng32 x2
        have fo287 : (x2 &&& (63 : Int32)).toInt = x2.toInt % 64 := c_mask x2 (63 : Int32) 6 (by decide) (by decide)
        have fo288 : (x2 &&& (255 : Int32)).toInt = x2.toInt % 256 := c_mask x2 (255 : Int32) 8 (by decide) (by decide)
        have fo286 := own_blk x2 (192 : Int32) (63 : Int32) (255 : Int32) (by decide) (by decide)
        have fo289 := c_and x2 (192 : Int32) (by decide)
        have fr290 := rng32 (x2 &&& (192 : Int32))
        omega
      refine g_icmp_eq_t 196 C X0 d3_191 (by decide) (by decide) hq256 ?_
      refine g_iinc 199 rfl C X0 (1 : Int32) (4 : Int32) #[.val (.ref b0), .val (.int (0 : Int32)), .val (.int (5 : Int32)), .val (.int v1), .val (.int (3 : Int32)), .val (.int (128 : Int32)), .val (.int (143 : Int32)), .val (.int v180), .val (.int (4 : Int32))] d3_196 rfl rfl (by decide) rfl ?_
      refine g_goto 171 C X0 d3_199 (by decide) (by decide) ?_
      refine g_iload 173 rfl C X0 d3_171 rfl ?_
      refine g_iload 175 rfl C X0 d3_173 rfl ?_
      refine g_icmp_gt_t 202 C X0 d3_175 (by decide) (by decide) (by decide) ?_
      refine g_iload 204 rfl C X0 d3_202 rfl ?_
      refine g_iconst 205 rfl C X0 (1 : Int32) d3_204 rfl ?_
      refine g_iadd 206 rfl C X0 d3_205 ?_
      exact g_retI C X0 rfl d3_206 e0 (by decide) (by decide) ⟨congrArg (fun z => some (Value.int z)) (by decide), N0, rfl⟩
    · skip
      refine g_icmp_ne_t 131 C X0 d3_118 (by decide) (by decide) hb179 ?_
      refine g_iloadN 132 rfl C X0 d3_131 rfl ?_
      refine g_iload 134 rfl C X0 d3_132 rfl ?_
      refine g_iadd 135 rfl C X0 d3_134 ?_
      refine g_iloadN 136 rfl C X0 d3_135 rfl ?_
      refine g_icmp_lt_t 141 C X0 d3_136 (by decide) (by decide) (by decide) ?_
      refine g_aloadN 142 rfl C X0 d3_141 rfl rfl ?_
      refine g_iloadN 143 rfl C X0 d3_142 rfl ?_
      refine g_iconst 144 rfl C X0 (1 : Int32) d3_143 rfl ?_
      refine g_iadd 145 rfl C X0 d3_144 ?_
      refine g_baload 146 rfl C X0 e0 B_b0 1 (by decide) (by decide) x1 hx1 d3_145 ?_
      refine g_sipush 149 rfl C X0 (255 : Int32) d3_146 rfl ?_
      refine g_iand 150 rfl C X0 d3_149 ?_
      obtain ⟨v291, hv291⟩ : ∃ z : Int32, (x1 &&& (255 : Int32)) = z := ⟨_, rfl⟩
      refine g_istore 152 rfl C X0 v291 hv291 #[.val (.ref b0), .val (.int (0 : Int32)), .val (.int (5 : Int32)), .val (.int v1), .val (.int (3 : Int32)), .val (.int (128 : Int32)), .val (.int (191 : Int32)), .val (.int v291), .unset] d3_150 rfl ?_
      refine g_iload 154 rfl C X0 d3_152 rfl ?_
      refine g_iload 156 rfl C X0 d3_154 rfl ?_
      have hq293 : ¬ (v291.toInt < (128 : Int32).toInt) := by
        have fr294 := rng32 v291
        have fr295 := rng32 x1
        have fc296 : (255 : Int32).toInt = 255 := rfl
        have fo297 : (x1 &&& (255 : Int32)).toInt = x1.toInt % 256 := c_mask x1 (255 : Int32) 8 (by decide) (by decide)
        have fe298 : (x1 &&& (255 : Int32)).toInt = v291.toInt := congrArg Int32.toInt hv291
        have fc299 : (128 : Int32).toInt = 128 := rfl
        have fr300 := rng32 v1
        have fr301 := rng32 x0
        have fo302 : (x0 &&& (255 : Int32)).toInt = x0.toInt % 256 := c_mask x0 (255 : Int32) 8 (by decide) (by decide)
        have fe303 : (x0 &&& (255 : Int32)).toInt = v1.toInt := congrArg Int32.toInt hv1
        have fc304 : (194 : Int32).toInt = 194 := rfl
        have fc305 : (224 : Int32).toInt = 224 := rfl
        have fc306 : (240 : Int32).toInt = 240 := rfl
        have fc307 : (245 : Int32).toInt = 245 := rfl
        have fc308 : (244 : Int32).toInt = 244 := rfl
        have fc309 : ((0 : Int32) + (3 : Int32)).toInt = 3 := by decide
        have fc310 : (5 : Int32).toInt = 5 := rfl
        have fr311 := rng32 x2
        have fr312 := rng32 x3
        omega
      refine g_icmp_lt_f 159 rfl C X0 d3_156 hq293 ?_
      refine g_iload 161 rfl C X0 d3_159 rfl ?_
      refine g_iload 163 rfl C X0 d3_161 rfl ?_
      have hq314 : ¬ ((191 : Int32).toInt < v291.toInt) := by
        have fr315 := rng32 v291
        have fr316 := rng32 x1
        have fc317 : (255 : Int32).toInt = 255 := rfl
        have fo318 : (x1 &&& (255 : Int32)).toInt = x1.toInt % 256 := c_mask x1 (255 : Int32) 8 (by decide) (by decide)
        have fe319 : (x1 &&& (255 : Int32)).toInt = v291.toInt := congrArg Int32.toInt hv291
        have fc320 : (191 : Int32).toInt = 191 := rfl
        have fr321 := rng32 v1
        have fr322 := rng32 x0
        have fo323 : (x0 &&& (255 : Int32)).toInt = x0.toInt % 256 := c_mask x0 (255 : Int32) 8 (by decide) (by decide)
        have fe324 : (x0 &&& (255 : Int32)).toInt = v1.toInt := congrArg Int32.toInt hv1
        have fc325 : (128 : Int32).toInt = 128 := rfl
        have fc326 : (194 : Int32).toInt = 194 := rfl
        have fc327 : (224 : Int32).toInt = 224 := rfl
        have fc328 : (240 : Int32).toInt = 240 := rfl
        have fc329 : (245 : Int32).toInt = 245 := rfl
        have fc330 : (244 : Int32).toInt = 244 := rfl
        have fc331 : ((0 : Int32) + (3 : Int32)).toInt = 3 := by decide
        have fc332 : (5 : Int32).toInt = 5 := rfl
        have fr333 := rng32 x2
        have fr334 := rng32 x3
        omega
      refine g_icmp_le_t 168 C X0 d3_163 (by decide) (by decide) hq314 ?_
      refine g_iconst 169 rfl C X0 (2 : Int32) d3_168 rfl ?_
      refine g_istore 171 rfl C X0 (2 : Int32) rfl #[.val (.ref b0), .val (.int (0 : Int32)), .val (.int (5 : Int32)), .val (.int v1), .val (.int (3 : Int32)), .val (.int (128 : Int32)), .val (.int (191 : Int32)), .val (.int v291), .val (.int (2 : Int32))] d3_169 rfl ?_
      refine g_iload 173 rfl C X0 d3_171 rfl ?_
      refine g_iload 175 rfl C X0 d3_173 rfl ?_
      refine g_icmp_gt_f 178 rfl C X0 d3_175 (by decide) ?_
      refine g_aloadN 179 rfl C X0 d3_178 rfl rfl ?_
      refine g_iloadN 180 rfl C X0 d3_179 rfl ?_
      refine g_iload 182 rfl C X0 d3_180 rfl ?_
      refine g_iadd 183 rfl C X0 d3_182 ?_
      refine g_baload 184 rfl C X0 e0 B_b0 2 (by decide) (by decide) x2 hx2 d3_183 ?_
      refine g_sipush 187 rfl C X0 (192 : Int32) d3_184 rfl ?_
      refine g_iand 188 rfl C X0 d3_187 ?_
      refine g_sipush 191 rfl C X0 (128 : Int32) d3_188 rfl ?_
      have hq336 : (x2 &&& (192 : Int32)).toInt = (128 : Int32).toInt := by
        have fr337 := rng32 x2
        have fc338 : (192 : Int32).toInt = 192 := rfl
        have fc340 : (63 : Int32).toInt = 63 := rfl
        have fo341 : (x2 &&& (63 : Int32)).toInt = x2.toInt % 64 := c_mask x2 (63 : Int32) 6 (by decide) (by decide)
        have fc342 : (255 : Int32).toInt = 255 := rfl
        have fo343 : (x2 &&& (255 : Int32)).toInt = x2.toInt % 256 := c_mask x2 (255 : Int32) 8 (by decide) (by decide)
        have fo339 := own_blk x2 (192 : Int32) (63 : Int32) (255 : Int32) (by decide) (by decide)
        have fo344 := c_and x2 (192 : Int32) (by decide)
        have fr345 := rng32 (x2 &&& (192 : Int32))
        have fc346 : (128 : Int32).toInt = 128 := rfl
        have fr347 := rng32 v1
        have fr348 := rng32 x0
        have fo349 : (x0 &&& (255 : Int32)).toInt = x0.toInt % 256 := c_mask x0 (255 : Int32) 8 (by decide) (by decide)
        have fe350 : (x0 &&& (255 : Int32)).toInt = v1.toInt := congrArg Int32.toInt hv1
        have fc351 : (194 : Int32).toInt = 194 := rfl
        have fc352 : (224 : Int32).toInt = 224 := rfl
        have fc353 : (240 : Int32).toInt = 240 := rfl
        have fc354 : (245 : Int32).toInt = 245 := rfl
        have fc355 : (244 : Int32).toInt = 244 := rfl
        have fc356 : ((0 : Int32) + (3 : Int32)).toInt = 3 := by decide
        have fc357 : (5 : Int32).toInt = 5 := rfl
        have fr358 := rng32 v291
        have fr359 := rng32 x1
        have fo360 : (x1 &&& (255 : Int32)).toInt = x1.toInt % 256 := c_mask x1 (255 : Int32) 8 (by decide) (by decide)
        have fe361 : (x1 &&& (255 : Int32)).toInt = v291.toInt := congrArg Int32.toInt hv291
        have fc362 : (191 : Int32).toInt = 191 := rfl
        have fc363 : (2 : Int32).toInt = 2 := rfl
        have fc364 : (3 : Int32).toInt = 3 := rfl
        have fr365 := rng32 x3
        omega
      refine g_icmp_eq_t 196 C X0 d3_191 (by decide) (by decide) hq336 ?_
      refine g_iinc 199 rfl C X0 (1 : Int32) (3 : Int32) #[.val (.ref b0), .val (.int (0 : Int32)), .val (.int (5 : Int32)), .val (.int v1), .val (.int (3 : Int32)), .val (.int (128 : Int32)), .val (.int (191 : Int32)), .val (.int v291), .val (.int (3 : Int32))] d3_196 rfl rfl (by decide) rfl ?_
      refine g_goto 171 C X0 d3_199 (by decide) (by decide) ?_
      refine g_iload 173 rfl C X0 d3_171 rfl ?_
      refine g_iload 175 rfl C X0 d3_173 rfl ?_
      refine g_icmp_gt_f 178 rfl C X0 d3_175 (by decide) ?_
      refine g_aloadN 179 rfl C X0 d3_178 rfl rfl ?_
      refine g_iloadN 180 rfl C X0 d3_179 rfl ?_
      refine g_iload 182 rfl C X0 d3_180 rfl ?_
      refine g_iadd 183 rfl C X0 d3_182 ?_
      refine g_baload 184 rfl C X0 e0 B_b0 3 (by decide) (by decide) x3 hx3 d3_183 ?_
      refine g_sipush 187 rfl C X0 (192 : Int32) d3_184 rfl ?_
      refine g_iand 188 rfl C X0 d3_187 ?_
      refine g_sipush 191 rfl C X0 (128 : Int32) d3_188 rfl ?_
      have hq367 : (x3 &&& (192 : Int32)).toInt = (128 : Int32).toInt := by
        have fr368 := rng32 x3
        have fc369 : (192 : Int32).toInt = 192 := rfl
        have fc371 : (63 : Int32).toInt = 63 := rfl
        have fo372 : (x3 &&& (63 : Int32)).toInt = x3.toInt % 64 := c_mask x3 (63 : Int32) 6 (by decide) (by decide)
        have fc373 : (255 : Int32).toInt = 255 := rfl
        have fo374 : (x3 &&& (255 : Int32)).toInt = x3.toInt % 256 := c_mask x3 (255 : Int32) 8 (by decide) (by decide)
        have fo370 := own_blk x3 (192 : Int32) (63 : Int32) (255 : Int32) (by decide) (by decide)
        have fo375 := c_and x3 (192 : Int32) (by decide)
        have fr376 := rng32 (x3 &&& (192 : Int32))
        have fc377 : (128 : Int32).toInt = 128 := rfl
        have fr378 := rng32 v1
        have fr379 := rng32 x0
        have fo380 : (x0 &&& (255 : Int32)).toInt = x0.toInt % 256 := c_mask x0 (255 : Int32) 8 (by decide) (by decide)
        have fe381 : (x0 &&& (255 : Int32)).toInt = v1.toInt := congrArg Int32.toInt hv1
        have fc382 : (194 : Int32).toInt = 194 := rfl
        have fc383 : (224 : Int32).toInt = 224 := rfl
        have fc384 : (240 : Int32).toInt = 240 := rfl
        have fc385 : (245 : Int32).toInt = 245 := rfl
        have fc386 : (244 : Int32).toInt = 244 := rfl
        have fc387 : ((0 : Int32) + (3 : Int32)).toInt = 3 := by decide
        have fc388 : (5 : Int32).toInt = 5 := rfl
        have fr389 := rng32 v291
        have fr390 := rng32 x1
        have fo391 : (x1 &&& (255 : Int32)).toInt = x1.toInt % 256 := c_mask x1 (255 : Int32) 8 (by decide) (by decide)
        have fe392 : (x1 &&& (255 : Int32)).toInt = v291.toInt := congrArg Int32.toInt hv291
        have fc393 : (191 : Int32).toInt = 191 := rfl
        have fc394 : (2 : Int32).toInt = 2 := rfl
        have fc395 : (3 : Int32).toInt = 3 := rfl
        have fr396 := rng32 x2
        have fo398 : (x2 &&& (63 : Int32)).toInt = x2.toInt % 64 := c_mask x2 (63 : Int32) 6 (by decide) (by decide)
        have fo399 : (x2 &&& (255 : Int32)).toInt = x2.toInt % 256 := c_mask x2 (255 : Int32) 8 (by decide) (by decide)
        have fo397 := own_blk x2 (192 : Int32) (63 : Int32) (255 : Int32) (by decide) (by decide)
        have fo400 := c_and x2 (192 : Int32) (by decide)
        have fr401 := rng32 (x2 &&& (192 : Int32))
        omega
      refine g_icmp_eq_t 196 C X0 d3_191 (by decide) (by decide) hq367 ?_
      refine g_iinc 199 rfl C X0 (1 : Int32) (4 : Int32) #[.val (.ref b0), .val (.int (0 : Int32)), .val (.int (5 : Int32)), .val (.int v1), .val (.int (3 : Int32)), .val (.int (128 : Int32)), .val (.int (191 : Int32)), .val (.int v291), .val (.int (4 : Int32))] d3_196 rfl rfl (by decide) rfl ?_
      refine g_goto 171 C X0 d3_199 (by decide) (by decide) ?_
      refine g_iload 173 rfl C X0 d3_171 rfl ?_
      refine g_iload 175 rfl C X0 d3_173 rfl ?_
      refine g_icmp_gt_t 202 C X0 d3_175 (by decide) (by decide) (by decide) ?_
      refine g_iload 204 rfl C X0 d3_202 rfl ?_
      refine g_iconst 205 rfl C X0 (1 : Int32) d3_204 rfl ?_
      refine g_iadd 206 rfl C X0 d3_205 ?_
      exact g_retI C X0 rfl d3_206 e0 (by decide) (by decide) ⟨congrArg (fun z => some (Value.int z)) (by decide), N0, rfl⟩
theorem d4_0 : decode prog_50_method_4_code 0 = .ok (.iload_n 2, 1) := by decide +kernel
theorem d4_1 : decode prog_50_method_4_code 1 = .ok (.iconst 1, 1) := by decide +kernel
theorem d4_2 : decode prog_50_method_4_code 2 = .ok (.if_icmp .ne 7, 3) := by decide +kernel
theorem d4_5 : decode prog_50_method_4_code 5 = .ok (.aload_n 0, 1) := by decide +kernel
theorem d4_6 : decode prog_50_method_4_code 6 = .ok (.iload_n 1, 1) := by decide +kernel
theorem d4_7 : decode prog_50_method_4_code 7 = .ok (.baload, 1) := by decide +kernel
theorem d4_8 : decode prog_50_method_4_code 8 = .ok (.ireturn, 1) := by decide +kernel
theorem ef_4_1 (m : MethodId) (b0 : Addr) : entryFrame m #[(.ref b0), (.int (0 : Int32)), (.int (1 : Int32))] 5 = mkF m 0 #[.val (.ref b0), .val (.int (0 : Int32)), .val (.int (1 : Int32)), .unset, .unset] [] := by first | (simp [entryFrame, mkF, argsToLocals, Value.category]; done) | rfl
def Q4_1 (Z : State) (b0 : Addr) (f : Nat → Int32) (x0 : Int32) (h0 : Heap) (n0 : Nat) (v : Option Value) (h : Heap) (L : List Loc) : Prop := ∃ r : Int32, v = some (.int r) ∧ (r.toInt = x0.toInt) ∧ Fr n0 L ∧ h = h0
set_option maxRecDepth 65536 in
set_option maxHeartbeats 40000000 in
theorem rm4_1 (l : Launch) (Z : State) (a0 : Array Value) (hw : ∀ d ∈ tables_1, d.before a0 Z = true) (ws : List Jvm.Cond) (b0 : Addr) (f : Nat → Int32) (x0 : Int32) (h0 : Heap) (n0 : Nat) (Z0 : n0 ≤ h0.size) (B_b0 : Ba Z h0 b0 .byte 5 f) (hx0 : f 0 = x0) :
    MetFree l (⟨"com/example/schedario/schedario/records/Utf8", "codePoint", "([BII)I"⟩ : MethodName) (head1 (Jvm.Cond.code (⟨"com/example/schedario/schedario/records/Utf8", "codePoint", "([BII)I"⟩ : MethodName) prog_50_method_4_code 5 (some .int) :: ws) ({ frames := 0, cells := 0, slots := 0, locals := 0 } : Room)) (fun a U => a = #[(.ref b0), (.int (0 : Int32)), (.int (1 : Int32))] ∧ Z.Warmed39 U.vm ∧ U.heap = h0) (fun _ _ _ _ _ => True) (fun _ U o U' => ∃ v L, o = .returned v ∧ Q4_1 Z b0 f x0 h0 n0 v U'.heap L ∧ FrameEnd U o U' L ({ frames := 0, cells := 0, slots := 0, locals := 0 } : Room).cells ({ frames := 0, cells := 0, slots := 0, locals := 0 } : Room).slots) := by
  refine MetFree.of_bodySF (plainFor_of_name pn_41208506) hisR ?_
  intro p e s m args below meth c s₁ Bd hml0 hP hK
  obtain ⟨rfl, hZ, hh⟩ := hP
  have C : Ctx p s m meth c Z "com/example/schedario/schedario/records/Utf8" "codePoint" prog_50_method_4_code 5 (some .int) := Ctx.of Bd hml0 hZ
  have X0 : Stand p l e ({ frames := 0, cells := 0, slots := 0, locals := 0 } : Room) s m #[(.ref b0), (.int (0 : Int32)), (.int (1 : Int32))] below meth c s₁ [] 0 0 := Stand.of_body Bd
  have e0 : s₁.heap = h0 := by rw [← hh, Bd.state]; rfl
  have N0 := Fr.nil n0
  refine Goes.enter (ef_4_1 m b0) ?_
  clear hK hml0 hh
  refine g_iloadN 1 rfl C X0 d4_0 rfl ?_
  refine g_iconst 2 rfl C X0 (1 : Int32) d4_1 rfl ?_
  refine g_icmp_ne_f 5 rfl C X0 d4_2 (by decide) ?_
  refine g_aloadN 6 rfl C X0 d4_5 rfl rfl ?_
  refine g_iloadN 7 rfl C X0 d4_6 rfl ?_
  refine g_baload 8 rfl C X0 e0 B_b0 0 (by decide) (by decide) x0 hx0 d4_7 ?_
  have fc1 : (1 : Int32).toInt = 1 := rfl
  have fr2 := rng32 x0
  exact g_retI C X0 rfl d4_8 e0 (by decide) (by decide) ⟨_, rfl, by omega, N0, rfl⟩
theorem d4_9 : decode prog_50_method_4_code 9 = .ok (.aload_n 0, 1) := by decide +kernel
theorem d4_10 : decode prog_50_method_4_code 10 = .ok (.iload_n 1, 1) := by decide +kernel
theorem d4_11 : decode prog_50_method_4_code 11 = .ok (.baload, 1) := by decide +kernel
theorem d4_12 : decode prog_50_method_4_code 12 = .ok (.bipush 127, 2) := by decide +kernel
theorem d4_14 : decode prog_50_method_4_code 14 = .ok (.iload_n 2, 1) := by decide +kernel
theorem d4_15 : decode prog_50_method_4_code 15 = .ok (.ishr, 1) := by decide +kernel
theorem d4_16 : decode prog_50_method_4_code 16 = .ok (.iand, 1) := by decide +kernel
theorem d4_17 : decode prog_50_method_4_code 17 = .ok (.istore_n 3, 1) := by decide +kernel
theorem d4_18 : decode prog_50_method_4_code 18 = .ok (.iconst 1, 1) := by decide +kernel
theorem d4_19 : decode prog_50_method_4_code 19 = .ok (.istore 4, 2) := by decide +kernel
theorem d4_21 : decode prog_50_method_4_code 21 = .ok (.iload 4, 2) := by decide +kernel
theorem d4_23 : decode prog_50_method_4_code 23 = .ok (.iload_n 2, 1) := by decide +kernel
theorem d4_24 : decode prog_50_method_4_code 24 = .ok (.if_icmp .ge 24, 3) := by decide +kernel
theorem d4_27 : decode prog_50_method_4_code 27 = .ok (.iload_n 3, 1) := by decide +kernel
theorem d4_28 : decode prog_50_method_4_code 28 = .ok (.bipush 6, 2) := by decide +kernel
theorem d4_30 : decode prog_50_method_4_code 30 = .ok (.ishl, 1) := by decide +kernel
theorem d4_31 : decode prog_50_method_4_code 31 = .ok (.aload_n 0, 1) := by decide +kernel
theorem d4_32 : decode prog_50_method_4_code 32 = .ok (.iload_n 1, 1) := by decide +kernel
theorem d4_33 : decode prog_50_method_4_code 33 = .ok (.iload 4, 2) := by decide +kernel
theorem d4_35 : decode prog_50_method_4_code 35 = .ok (.iadd, 1) := by decide +kernel
theorem d4_36 : decode prog_50_method_4_code 36 = .ok (.baload, 1) := by decide +kernel
theorem d4_37 : decode prog_50_method_4_code 37 = .ok (.bipush 63, 2) := by decide +kernel
theorem d4_39 : decode prog_50_method_4_code 39 = .ok (.iand, 1) := by decide +kernel
theorem d4_40 : decode prog_50_method_4_code 40 = .ok (.ior, 1) := by decide +kernel
theorem d4_41 : decode prog_50_method_4_code 41 = .ok (.istore_n 3, 1) := by decide +kernel
theorem d4_42 : decode prog_50_method_4_code 42 = .ok (.iinc 4 1, 3) := by decide +kernel
theorem d4_45 : decode prog_50_method_4_code 45 = .ok (.goto (-24), 3) := by decide +kernel
theorem d4_48 : decode prog_50_method_4_code 48 = .ok (.iload_n 3, 1) := by decide +kernel
theorem d4_49 : decode prog_50_method_4_code 49 = .ok (.ireturn, 1) := by decide +kernel
theorem ef_4_2 (m : MethodId) (b0 : Addr) : entryFrame m #[(.ref b0), (.int (0 : Int32)), (.int (2 : Int32))] 5 = mkF m 0 #[.val (.ref b0), .val (.int (0 : Int32)), .val (.int (2 : Int32)), .unset, .unset] [] := by first | (simp [entryFrame, mkF, argsToLocals, Value.category]; done) | rfl
def Q4_2 (Z : State) (b0 : Addr) (f : Nat → Int32) (x0 : Int32) (x1 : Int32) (h0 : Heap) (n0 : Nat) (v : Option Value) (h : Heap) (L : List Loc) : Prop := ∃ r : Int32, v = some (.int r) ∧ (r.toInt = x0.toInt % 32 * 64 + x1.toInt % 64) ∧ Fr n0 L ∧ h = h0
set_option maxRecDepth 65536 in
set_option maxHeartbeats 40000000 in
theorem rm4_2 (l : Launch) (Z : State) (a0 : Array Value) (hw : ∀ d ∈ tables_1, d.before a0 Z = true) (ws : List Jvm.Cond) (b0 : Addr) (f : Nat → Int32) (x0 : Int32) (x1 : Int32) (h0 : Heap) (n0 : Nat) (Z0 : n0 ≤ h0.size) (B_b0 : Ba Z h0 b0 .byte 5 f) (hx0 : f 0 = x0) (hx1 : f 1 = x1) :
    MetFree l (⟨"com/example/schedario/schedario/records/Utf8", "codePoint", "([BII)I"⟩ : MethodName) (head1 (Jvm.Cond.code (⟨"com/example/schedario/schedario/records/Utf8", "codePoint", "([BII)I"⟩ : MethodName) prog_50_method_4_code 5 (some .int) :: ws) ({ frames := 0, cells := 0, slots := 0, locals := 0 } : Room)) (fun a U => a = #[(.ref b0), (.int (0 : Int32)), (.int (2 : Int32))] ∧ Z.Warmed39 U.vm ∧ U.heap = h0) (fun _ _ _ _ _ => True) (fun _ U o U' => ∃ v L, o = .returned v ∧ Q4_2 Z b0 f x0 x1 h0 n0 v U'.heap L ∧ FrameEnd U o U' L ({ frames := 0, cells := 0, slots := 0, locals := 0 } : Room).cells ({ frames := 0, cells := 0, slots := 0, locals := 0 } : Room).slots) := by
  refine MetFree.of_bodySF (plainFor_of_name pn_41208506) hisR ?_
  intro p e s m args below meth c s₁ Bd hml0 hP hK
  obtain ⟨rfl, hZ, hh⟩ := hP
  have C : Ctx p s m meth c Z "com/example/schedario/schedario/records/Utf8" "codePoint" prog_50_method_4_code 5 (some .int) := Ctx.of Bd hml0 hZ
  have X0 : Stand p l e ({ frames := 0, cells := 0, slots := 0, locals := 0 } : Room) s m #[(.ref b0), (.int (0 : Int32)), (.int (2 : Int32))] below meth c s₁ [] 0 0 := Stand.of_body Bd
  have e0 : s₁.heap = h0 := by rw [← hh, Bd.state]; rfl
  have N0 := Fr.nil n0
  refine Goes.enter (ef_4_2 m b0) ?_
  clear hK hml0 hh
  refine g_iloadN 1 rfl C X0 d4_0 rfl ?_
  refine g_iconst 2 rfl C X0 (1 : Int32) d4_1 rfl ?_
  refine g_icmp_ne_t 9 C X0 d4_2 (by decide) (by decide) (by decide) ?_
  refine g_aloadN 10 rfl C X0 d4_9 rfl rfl ?_
  refine g_iloadN 11 rfl C X0 d4_10 rfl ?_
  refine g_baload 12 rfl C X0 e0 B_b0 0 (by decide) (by decide) x0 hx0 d4_11 ?_
  refine g_bipush 14 rfl C X0 (127 : Int32) d4_12 rfl ?_
  refine g_iloadN 15 rfl C X0 d4_14 rfl ?_
  refine g_ishr 16 rfl C X0 d4_15 ?_
  refine g_iand 17 rfl C X0 d4_16 ?_
  obtain ⟨v1, hv1⟩ : ∃ z : Int32, (x0 &&& ((127 : Int32) >>> ((2 : Int32) &&& 31))) = z := ⟨_, rfl⟩
  refine g_istoreN 18 rfl C X0 v1 hv1 #[.val (.ref b0), .val (.int (0 : Int32)), .val (.int (2 : Int32)), .val (.int v1), .unset] d4_17 rfl ?_
  refine g_iconst 19 rfl C X0 (1 : Int32) d4_18 rfl ?_
  refine g_istore 21 rfl C X0 (1 : Int32) rfl #[.val (.ref b0), .val (.int (0 : Int32)), .val (.int (2 : Int32)), .val (.int v1), .val (.int (1 : Int32))] d4_19 rfl ?_
  refine g_iload 23 rfl C X0 d4_21 rfl ?_
  refine g_iloadN 24 rfl C X0 d4_23 rfl ?_
  refine g_icmp_ge_f 27 rfl C X0 d4_24 (by decide) ?_
  refine g_iloadN 28 rfl C X0 d4_27 rfl ?_
  refine g_bipush 30 rfl C X0 (6 : Int32) d4_28 rfl ?_
  refine g_ishl 31 rfl C X0 d4_30 ?_
  refine g_aloadN 32 rfl C X0 d4_31 rfl rfl ?_
  refine g_iloadN 33 rfl C X0 d4_32 rfl ?_
  refine g_iload 35 rfl C X0 d4_33 rfl ?_
  refine g_iadd 36 rfl C X0 d4_35 ?_
  refine g_baload 37 rfl C X0 e0 B_b0 1 (by decide) (by decide) x1 hx1 d4_36 ?_
  refine g_bipush 39 rfl C X0 (63 : Int32) d4_37 rfl ?_
  refine g_iand 40 rfl C X0 d4_39 ?_
  refine g_ior 41 rfl C X0 d4_40 ?_
  obtain ⟨v2, hv2⟩ : ∃ z : Int32, ((v1 <<< ((6 : Int32) &&& 31)) ||| (x1 &&& (63 : Int32))) = z := ⟨_, rfl⟩
  refine g_istoreN 42 rfl C X0 v2 hv2 #[.val (.ref b0), .val (.int (0 : Int32)), .val (.int (2 : Int32)), .val (.int v2), .val (.int (1 : Int32))] d4_41 rfl ?_
  refine g_iinc 45 rfl C X0 (1 : Int32) (2 : Int32) #[.val (.ref b0), .val (.int (0 : Int32)), .val (.int (2 : Int32)), .val (.int v2), .val (.int (2 : Int32))] d4_42 rfl rfl (by decide) rfl ?_
  refine g_goto 21 C X0 d4_45 (by decide) (by decide) ?_
  refine g_iload 23 rfl C X0 d4_21 rfl ?_
  refine g_iloadN 24 rfl C X0 d4_23 rfl ?_
  refine g_icmp_ge_t 48 C X0 d4_24 (by decide) (by decide) (by decide) ?_
  refine g_iloadN 49 rfl C X0 d4_48 rfl ?_
  have fc3 : (2 : Int32).toInt = 2 := rfl
  have fc4 : (1 : Int32).toInt = 1 := rfl
  have fr5 := rng32 v2
  have fr6 := rng32 v1
  have fr7 := rng32 x0
  have fc8 : ((127 : Int32) >>> ((2 : Int32) &&& 31)).toInt = 31 := by decide
  have fo9 : (x0 &&& ((127 : Int32) >>> ((2 : Int32) &&& 31))).toInt = x0.toInt % 32 := c_mask x0 ((127 : Int32) >>> ((2 : Int32) &&& 31)) 5 (by decide) (by decide)
  have fe10 : (x0 &&& ((127 : Int32) >>> ((2 : Int32) &&& 31))).toInt = v1.toInt := congrArg Int32.toInt hv1
  have fc11 : (6 : Int32).toInt = 6 := rfl
  have fo12 : (((v1 <<< ((6 : Int32) &&& 31))).toInt - v1.toInt * 64) % 4294967296 = 0 := c_ishl v1 (6 : Int32) 6 (by decide)
  have fr13 := rng32 (v1 <<< ((6 : Int32) &&& 31))
  have fr14 := rng32 x1
  have fc15 : (63 : Int32).toInt = 63 := rfl
  have fo16 : (x1 &&& (63 : Int32)).toInt = x1.toInt % 64 := c_mask x1 (63 : Int32) 6 (by decide) (by decide)
  have fo17 := c_or (v1 <<< ((6 : Int32) &&& 31)) (x1 &&& (63 : Int32)) 6 (by decide) 64 (by decide) (by omega) (by omega) (by omega)
  have fr18 := rng32 ((v1 <<< ((6 : Int32) &&& 31)) ||| (x1 &&& (63 : Int32)))
  have fe19 : ((v1 <<< ((6 : Int32) &&& 31)) ||| (x1 &&& (63 : Int32))).toInt = v2.toInt := congrArg Int32.toInt hv2
  exact g_retI C X0 rfl d4_49 e0 (by decide) (by decide) ⟨_, rfl, by omega, N0, rfl⟩
theorem ef_4_3 (m : MethodId) (b0 : Addr) : entryFrame m #[(.ref b0), (.int (0 : Int32)), (.int (3 : Int32))] 5 = mkF m 0 #[.val (.ref b0), .val (.int (0 : Int32)), .val (.int (3 : Int32)), .unset, .unset] [] := by first | (simp [entryFrame, mkF, argsToLocals, Value.category]; done) | rfl
def Q4_3 (Z : State) (b0 : Addr) (f : Nat → Int32) (x0 : Int32) (x1 : Int32) (x2 : Int32) (h0 : Heap) (n0 : Nat) (v : Option Value) (h : Heap) (L : List Loc) : Prop := ∃ r : Int32, v = some (.int r) ∧ (r.toInt = x0.toInt % 16 * 4096 + x1.toInt % 64 * 64 + x2.toInt % 64) ∧ Fr n0 L ∧ h = h0
set_option maxRecDepth 65536 in
set_option maxHeartbeats 40000000 in
theorem rm4_3 (l : Launch) (Z : State) (a0 : Array Value) (hw : ∀ d ∈ tables_1, d.before a0 Z = true) (ws : List Jvm.Cond) (b0 : Addr) (f : Nat → Int32) (x0 : Int32) (x1 : Int32) (x2 : Int32) (h0 : Heap) (n0 : Nat) (Z0 : n0 ≤ h0.size) (B_b0 : Ba Z h0 b0 .byte 5 f) (hx0 : f 0 = x0) (hx1 : f 1 = x1) (hx2 : f 2 = x2) :
    MetFree l (⟨"com/example/schedario/schedario/records/Utf8", "codePoint", "([BII)I"⟩ : MethodName) (head1 (Jvm.Cond.code (⟨"com/example/schedario/schedario/records/Utf8", "codePoint", "([BII)I"⟩ : MethodName) prog_50_method_4_code 5 (some .int) :: ws) ({ frames := 0, cells := 0, slots := 0, locals := 0 } : Room)) (fun a U => a = #[(.ref b0), (.int (0 : Int32)), (.int (3 : Int32))] ∧ Z.Warmed39 U.vm ∧ U.heap = h0) (fun _ _ _ _ _ => True) (fun _ U o U' => ∃ v L, o = .returned v ∧ Q4_3 Z b0 f x0 x1 x2 h0 n0 v U'.heap L ∧ FrameEnd U o U' L ({ frames := 0, cells := 0, slots := 0, locals := 0 } : Room).cells ({ frames := 0, cells := 0, slots := 0, locals := 0 } : Room).slots) := by
  refine MetFree.of_bodySF (plainFor_of_name pn_41208506) hisR ?_
  intro p e s m args below meth c s₁ Bd hml0 hP hK
  obtain ⟨rfl, hZ, hh⟩ := hP
  have C : Ctx p s m meth c Z "com/example/schedario/schedario/records/Utf8" "codePoint" prog_50_method_4_code 5 (some .int) := Ctx.of Bd hml0 hZ
  have X0 : Stand p l e ({ frames := 0, cells := 0, slots := 0, locals := 0 } : Room) s m #[(.ref b0), (.int (0 : Int32)), (.int (3 : Int32))] below meth c s₁ [] 0 0 := Stand.of_body Bd
  have e0 : s₁.heap = h0 := by rw [← hh, Bd.state]; rfl
  have N0 := Fr.nil n0
  refine Goes.enter (ef_4_3 m b0) ?_
  clear hK hml0 hh
  refine g_iloadN 1 rfl C X0 d4_0 rfl ?_
  refine g_iconst 2 rfl C X0 (1 : Int32) d4_1 rfl ?_
  refine g_icmp_ne_t 9 C X0 d4_2 (by decide) (by decide) (by decide) ?_
  refine g_aloadN 10 rfl C X0 d4_9 rfl rfl ?_
  refine g_iloadN 11 rfl C X0 d4_10 rfl ?_
  refine g_baload 12 rfl C X0 e0 B_b0 0 (by decide) (by decide) x0 hx0 d4_11 ?_
  refine g_bipush 14 rfl C X0 (127 : Int32) d4_12 rfl ?_
  refine g_iloadN 15 rfl C X0 d4_14 rfl ?_
  refine g_ishr 16 rfl C X0 d4_15 ?_
  refine g_iand 17 rfl C X0 d4_16 ?_
  obtain ⟨v1, hv1⟩ : ∃ z : Int32, (x0 &&& ((127 : Int32) >>> ((3 : Int32) &&& 31))) = z := ⟨_, rfl⟩
  refine g_istoreN 18 rfl C X0 v1 hv1 #[.val (.ref b0), .val (.int (0 : Int32)), .val (.int (3 : Int32)), .val (.int v1), .unset] d4_17 rfl ?_
  refine g_iconst 19 rfl C X0 (1 : Int32) d4_18 rfl ?_
  refine g_istore 21 rfl C X0 (1 : Int32) rfl #[.val (.ref b0), .val (.int (0 : Int32)), .val (.int (3 : Int32)), .val (.int v1), .val (.int (1 : Int32))] d4_19 rfl ?_
  refine g_iload 23 rfl C X0 d4_21 rfl ?_
  refine g_iloadN 24 rfl C X0 d4_23 rfl ?_
  refine g_icmp_ge_f 27 rfl C X0 d4_24 (by decide) ?_
  refine g_iloadN 28 rfl C X0 d4_27 rfl ?_
  refine g_bipush 30 rfl C X0 (6 : Int32) d4_28 rfl ?_
  refine g_ishl 31 rfl C X0 d4_30 ?_
  refine g_aloadN 32 rfl C X0 d4_31 rfl rfl ?_
  refine g_iloadN 33 rfl C X0 d4_32 rfl ?_
  refine g_iload 35 rfl C X0 d4_33 rfl ?_
  refine g_iadd 36 rfl C X0 d4_35 ?_
  refine g_baload 37 rfl C X0 e0 B_b0 1 (by decide) (by decide) x1 hx1 d4_36 ?_
  refine g_bipush 39 rfl C X0 (63 : Int32) d4_37 rfl ?_
  refine g_iand 40 rfl C X0 d4_39 ?_
  refine g_ior 41 rfl C X0 d4_40 ?_
  obtain ⟨v2, hv2⟩ : ∃ z : Int32, ((v1 <<< ((6 : Int32) &&& 31)) ||| (x1 &&& (63 : Int32))) = z := ⟨_, rfl⟩
  refine g_istoreN 42 rfl C X0 v2 hv2 #[.val (.ref b0), .val (.int (0 : Int32)), .val (.int (3 : Int32)), .val (.int v2), .val (.int (1 : Int32))] d4_41 rfl ?_
  refine g_iinc 45 rfl C X0 (1 : Int32) (2 : Int32) #[.val (.ref b0), .val (.int (0 : Int32)), .val (.int (3 : Int32)), .val (.int v2), .val (.int (2 : Int32))] d4_42 rfl rfl (by decide) rfl ?_
  refine g_goto 21 C X0 d4_45 (by decide) (by decide) ?_
  refine g_iload 23 rfl C X0 d4_21 rfl ?_
  refine g_iloadN 24 rfl C X0 d4_23 rfl ?_
  refine g_icmp_ge_f 27 rfl C X0 d4_24 (by decide) ?_
  refine g_iloadN 28 rfl C X0 d4_27 rfl ?_
  refine g_bipush 30 rfl C X0 (6 : Int32) d4_28 rfl ?_
  refine g_ishl 31 rfl C X0 d4_30 ?_
  refine g_aloadN 32 rfl C X0 d4_31 rfl rfl ?_
  refine g_iloadN 33 rfl C X0 d4_32 rfl ?_
  refine g_iload 35 rfl C X0 d4_33 rfl ?_
  refine g_iadd 36 rfl C X0 d4_35 ?_
  refine g_baload 37 rfl C X0 e0 B_b0 2 (by decide) (by decide) x2 hx2 d4_36 ?_
  refine g_bipush 39 rfl C X0 (63 : Int32) d4_37 rfl ?_
  refine g_iand 40 rfl C X0 d4_39 ?_
  refine g_ior 41 rfl C X0 d4_40 ?_
  obtain ⟨v3, hv3⟩ : ∃ z : Int32, ((v2 <<< ((6 : Int32) &&& 31)) ||| (x2 &&& (63 : Int32))) = z := ⟨_, rfl⟩
  refine g_istoreN 42 rfl C X0 v3 hv3 #[.val (.ref b0), .val (.int (0 : Int32)), .val (.int (3 : Int32)), .val (.int v3), .val (.int (2 : Int32))] d4_41 rfl ?_
  refine g_iinc 45 rfl C X0 (1 : Int32) (3 : Int32) #[.val (.ref b0), .val (.int (0 : Int32)), .val (.int (3 : Int32)), .val (.int v3), .val (.int (3 : Int32))] d4_42 rfl rfl (by decide) rfl ?_
  refine g_goto 21 C X0 d4_45 (by decide) (by decide) ?_
  refine g_iload 23 rfl C X0 d4_21 rfl ?_
  refine g_iloadN 24 rfl C X0 d4_23 rfl ?_
  refine g_icmp_ge_t 48 C X0 d4_24 (by decide) (by decide) (by decide) ?_
  refine g_iloadN 49 rfl C X0 d4_48 rfl ?_
  have fc4 : (3 : Int32).toInt = 3 := rfl
  have fc5 : (1 : Int32).toInt = 1 := rfl
  have fc6 : (2 : Int32).toInt = 2 := rfl
  have fr7 := rng32 v3
  have fr8 := rng32 v2
  have fr9 := rng32 v1
  have fr10 := rng32 x0
  have fc11 : ((127 : Int32) >>> ((3 : Int32) &&& 31)).toInt = 15 := by decide
  have fo12 : (x0 &&& ((127 : Int32) >>> ((3 : Int32) &&& 31))).toInt = x0.toInt % 16 := c_mask x0 ((127 : Int32) >>> ((3 : Int32) &&& 31)) 4 (by decide) (by decide)
  have fe13 : (x0 &&& ((127 : Int32) >>> ((3 : Int32) &&& 31))).toInt = v1.toInt := congrArg Int32.toInt hv1
  have fc14 : (6 : Int32).toInt = 6 := rfl
  have fo15 : (((v1 <<< ((6 : Int32) &&& 31))).toInt - v1.toInt * 64) % 4294967296 = 0 := c_ishl v1 (6 : Int32) 6 (by decide)
  have fr16 := rng32 (v1 <<< ((6 : Int32) &&& 31))
  have fr17 := rng32 x1
  have fc18 : (63 : Int32).toInt = 63 := rfl
  have fo19 : (x1 &&& (63 : Int32)).toInt = x1.toInt % 64 := c_mask x1 (63 : Int32) 6 (by decide) (by decide)
  have fo20 := c_or (v1 <<< ((6 : Int32) &&& 31)) (x1 &&& (63 : Int32)) 6 (by decide) 64 (by decide) (by omega) (by omega) (by omega)
  have fr21 := rng32 ((v1 <<< ((6 : Int32) &&& 31)) ||| (x1 &&& (63 : Int32)))
  have fe22 : ((v1 <<< ((6 : Int32) &&& 31)) ||| (x1 &&& (63 : Int32))).toInt = v2.toInt := congrArg Int32.toInt hv2
  have fo23 : (((v2 <<< ((6 : Int32) &&& 31))).toInt - v2.toInt * 64) % 4294967296 = 0 := c_ishl v2 (6 : Int32) 6 (by decide)
  have fr24 := rng32 (v2 <<< ((6 : Int32) &&& 31))
  have fr25 := rng32 x2
  have fo26 : (x2 &&& (63 : Int32)).toInt = x2.toInt % 64 := c_mask x2 (63 : Int32) 6 (by decide) (by decide)
  have fo27 := c_or (v2 <<< ((6 : Int32) &&& 31)) (x2 &&& (63 : Int32)) 6 (by decide) 64 (by decide) (by omega) (by omega) (by omega)
  have fr28 := rng32 ((v2 <<< ((6 : Int32) &&& 31)) ||| (x2 &&& (63 : Int32)))
  have fe29 : ((v2 <<< ((6 : Int32) &&& 31)) ||| (x2 &&& (63 : Int32))).toInt = v3.toInt := congrArg Int32.toInt hv3
  exact g_retI C X0 rfl d4_49 e0 (by decide) (by decide) ⟨_, rfl, by omega, N0, rfl⟩
theorem ef_4_4 (m : MethodId) (b0 : Addr) : entryFrame m #[(.ref b0), (.int (0 : Int32)), (.int (4 : Int32))] 5 = mkF m 0 #[.val (.ref b0), .val (.int (0 : Int32)), .val (.int (4 : Int32)), .unset, .unset] [] := by first | (simp [entryFrame, mkF, argsToLocals, Value.category]; done) | rfl
def Q4_4 (Z : State) (b0 : Addr) (f : Nat → Int32) (x0 : Int32) (x1 : Int32) (x2 : Int32) (x3 : Int32) (h0 : Heap) (n0 : Nat) (v : Option Value) (h : Heap) (L : List Loc) : Prop := ∃ r : Int32, v = some (.int r) ∧ (r.toInt = x0.toInt % 8 * 262144 + x1.toInt % 64 * 4096 + x2.toInt % 64 * 64 + x3.toInt % 64) ∧ Fr n0 L ∧ h = h0
set_option maxRecDepth 65536 in
set_option maxHeartbeats 40000000 in
theorem rm4_4 (l : Launch) (Z : State) (a0 : Array Value) (hw : ∀ d ∈ tables_1, d.before a0 Z = true) (ws : List Jvm.Cond) (b0 : Addr) (f : Nat → Int32) (x0 : Int32) (x1 : Int32) (x2 : Int32) (x3 : Int32) (h0 : Heap) (n0 : Nat) (Z0 : n0 ≤ h0.size) (B_b0 : Ba Z h0 b0 .byte 5 f) (hx0 : f 0 = x0) (hx1 : f 1 = x1) (hx2 : f 2 = x2) (hx3 : f 3 = x3) :
    MetFree l (⟨"com/example/schedario/schedario/records/Utf8", "codePoint", "([BII)I"⟩ : MethodName) (head1 (Jvm.Cond.code (⟨"com/example/schedario/schedario/records/Utf8", "codePoint", "([BII)I"⟩ : MethodName) prog_50_method_4_code 5 (some .int) :: ws) ({ frames := 0, cells := 0, slots := 0, locals := 0 } : Room)) (fun a U => a = #[(.ref b0), (.int (0 : Int32)), (.int (4 : Int32))] ∧ Z.Warmed39 U.vm ∧ U.heap = h0) (fun _ _ _ _ _ => True) (fun _ U o U' => ∃ v L, o = .returned v ∧ Q4_4 Z b0 f x0 x1 x2 x3 h0 n0 v U'.heap L ∧ FrameEnd U o U' L ({ frames := 0, cells := 0, slots := 0, locals := 0 } : Room).cells ({ frames := 0, cells := 0, slots := 0, locals := 0 } : Room).slots) := by
  refine MetFree.of_bodySF (plainFor_of_name pn_41208506) hisR ?_
  intro p e s m args below meth c s₁ Bd hml0 hP hK
  obtain ⟨rfl, hZ, hh⟩ := hP
  have C : Ctx p s m meth c Z "com/example/schedario/schedario/records/Utf8" "codePoint" prog_50_method_4_code 5 (some .int) := Ctx.of Bd hml0 hZ
  have X0 : Stand p l e ({ frames := 0, cells := 0, slots := 0, locals := 0 } : Room) s m #[(.ref b0), (.int (0 : Int32)), (.int (4 : Int32))] below meth c s₁ [] 0 0 := Stand.of_body Bd
  have e0 : s₁.heap = h0 := by rw [← hh, Bd.state]; rfl
  have N0 := Fr.nil n0
  refine Goes.enter (ef_4_4 m b0) ?_
  clear hK hml0 hh
  refine g_iloadN 1 rfl C X0 d4_0 rfl ?_
  refine g_iconst 2 rfl C X0 (1 : Int32) d4_1 rfl ?_
  refine g_icmp_ne_t 9 C X0 d4_2 (by decide) (by decide) (by decide) ?_
  refine g_aloadN 10 rfl C X0 d4_9 rfl rfl ?_
  refine g_iloadN 11 rfl C X0 d4_10 rfl ?_
  refine g_baload 12 rfl C X0 e0 B_b0 0 (by decide) (by decide) x0 hx0 d4_11 ?_
  refine g_bipush 14 rfl C X0 (127 : Int32) d4_12 rfl ?_
  refine g_iloadN 15 rfl C X0 d4_14 rfl ?_
  refine g_ishr 16 rfl C X0 d4_15 ?_
  refine g_iand 17 rfl C X0 d4_16 ?_
  obtain ⟨v1, hv1⟩ : ∃ z : Int32, (x0 &&& ((127 : Int32) >>> ((4 : Int32) &&& 31))) = z := ⟨_, rfl⟩
  refine g_istoreN 18 rfl C X0 v1 hv1 #[.val (.ref b0), .val (.int (0 : Int32)), .val (.int (4 : Int32)), .val (.int v1), .unset] d4_17 rfl ?_
  refine g_iconst 19 rfl C X0 (1 : Int32) d4_18 rfl ?_
  refine g_istore 21 rfl C X0 (1 : Int32) rfl #[.val (.ref b0), .val (.int (0 : Int32)), .val (.int (4 : Int32)), .val (.int v1), .val (.int (1 : Int32))] d4_19 rfl ?_
  refine g_iload 23 rfl C X0 d4_21 rfl ?_
  refine g_iloadN 24 rfl C X0 d4_23 rfl ?_
  refine g_icmp_ge_f 27 rfl C X0 d4_24 (by decide) ?_
  refine g_iloadN 28 rfl C X0 d4_27 rfl ?_
  refine g_bipush 30 rfl C X0 (6 : Int32) d4_28 rfl ?_
  refine g_ishl 31 rfl C X0 d4_30 ?_
  refine g_aloadN 32 rfl C X0 d4_31 rfl rfl ?_
  refine g_iloadN 33 rfl C X0 d4_32 rfl ?_
  refine g_iload 35 rfl C X0 d4_33 rfl ?_
  refine g_iadd 36 rfl C X0 d4_35 ?_
  refine g_baload 37 rfl C X0 e0 B_b0 1 (by decide) (by decide) x1 hx1 d4_36 ?_
  refine g_bipush 39 rfl C X0 (63 : Int32) d4_37 rfl ?_
  refine g_iand 40 rfl C X0 d4_39 ?_
  refine g_ior 41 rfl C X0 d4_40 ?_
  obtain ⟨v2, hv2⟩ : ∃ z : Int32, ((v1 <<< ((6 : Int32) &&& 31)) ||| (x1 &&& (63 : Int32))) = z := ⟨_, rfl⟩
  refine g_istoreN 42 rfl C X0 v2 hv2 #[.val (.ref b0), .val (.int (0 : Int32)), .val (.int (4 : Int32)), .val (.int v2), .val (.int (1 : Int32))] d4_41 rfl ?_
  refine g_iinc 45 rfl C X0 (1 : Int32) (2 : Int32) #[.val (.ref b0), .val (.int (0 : Int32)), .val (.int (4 : Int32)), .val (.int v2), .val (.int (2 : Int32))] d4_42 rfl rfl (by decide) rfl ?_
  refine g_goto 21 C X0 d4_45 (by decide) (by decide) ?_
  refine g_iload 23 rfl C X0 d4_21 rfl ?_
  refine g_iloadN 24 rfl C X0 d4_23 rfl ?_
  refine g_icmp_ge_f 27 rfl C X0 d4_24 (by decide) ?_
  refine g_iloadN 28 rfl C X0 d4_27 rfl ?_
  refine g_bipush 30 rfl C X0 (6 : Int32) d4_28 rfl ?_
  refine g_ishl 31 rfl C X0 d4_30 ?_
  refine g_aloadN 32 rfl C X0 d4_31 rfl rfl ?_
  refine g_iloadN 33 rfl C X0 d4_32 rfl ?_
  refine g_iload 35 rfl C X0 d4_33 rfl ?_
  refine g_iadd 36 rfl C X0 d4_35 ?_
  refine g_baload 37 rfl C X0 e0 B_b0 2 (by decide) (by decide) x2 hx2 d4_36 ?_
  refine g_bipush 39 rfl C X0 (63 : Int32) d4_37 rfl ?_
  refine g_iand 40 rfl C X0 d4_39 ?_
  refine g_ior 41 rfl C X0 d4_40 ?_
  obtain ⟨v3, hv3⟩ : ∃ z : Int32, ((v2 <<< ((6 : Int32) &&& 31)) ||| (x2 &&& (63 : Int32))) = z := ⟨_, rfl⟩
  refine g_istoreN 42 rfl C X0 v3 hv3 #[.val (.ref b0), .val (.int (0 : Int32)), .val (.int (4 : Int32)), .val (.int v3), .val (.int (2 : Int32))] d4_41 rfl ?_
  refine g_iinc 45 rfl C X0 (1 : Int32) (3 : Int32) #[.val (.ref b0), .val (.int (0 : Int32)), .val (.int (4 : Int32)), .val (.int v3), .val (.int (3 : Int32))] d4_42 rfl rfl (by decide) rfl ?_
  refine g_goto 21 C X0 d4_45 (by decide) (by decide) ?_
  refine g_iload 23 rfl C X0 d4_21 rfl ?_
  refine g_iloadN 24 rfl C X0 d4_23 rfl ?_
  refine g_icmp_ge_f 27 rfl C X0 d4_24 (by decide) ?_
  refine g_iloadN 28 rfl C X0 d4_27 rfl ?_
  refine g_bipush 30 rfl C X0 (6 : Int32) d4_28 rfl ?_
  refine g_ishl 31 rfl C X0 d4_30 ?_
  refine g_aloadN 32 rfl C X0 d4_31 rfl rfl ?_
  refine g_iloadN 33 rfl C X0 d4_32 rfl ?_
  refine g_iload 35 rfl C X0 d4_33 rfl ?_
  refine g_iadd 36 rfl C X0 d4_35 ?_
  refine g_baload 37 rfl C X0 e0 B_b0 3 (by decide) (by decide) x3 hx3 d4_36 ?_
  refine g_bipush 39 rfl C X0 (63 : Int32) d4_37 rfl ?_
  refine g_iand 40 rfl C X0 d4_39 ?_
  refine g_ior 41 rfl C X0 d4_40 ?_
  obtain ⟨v4, hv4⟩ : ∃ z : Int32, ((v3 <<< ((6 : Int32) &&& 31)) ||| (x3 &&& (63 : Int32))) = z := ⟨_, rfl⟩
  refine g_istoreN 42 rfl C X0 v4 hv4 #[.val (.ref b0), .val (.int (0 : Int32)), .val (.int (4 : Int32)), .val (.int v4), .val (.int (3 : Int32))] d4_41 rfl ?_
  refine g_iinc 45 rfl C X0 (1 : Int32) (4 : Int32) #[.val (.ref b0), .val (.int (0 : Int32)), .val (.int (4 : Int32)), .val (.int v4), .val (.int (4 : Int32))] d4_42 rfl rfl (by decide) rfl ?_
  refine g_goto 21 C X0 d4_45 (by decide) (by decide) ?_
  refine g_iload 23 rfl C X0 d4_21 rfl ?_
  refine g_iloadN 24 rfl C X0 d4_23 rfl ?_
  refine g_icmp_ge_t 48 C X0 d4_24 (by decide) (by decide) (by decide) ?_
  refine g_iloadN 49 rfl C X0 d4_48 rfl ?_
  have fc5 : (4 : Int32).toInt = 4 := rfl
  have fc6 : (1 : Int32).toInt = 1 := rfl
  have fc7 : (2 : Int32).toInt = 2 := rfl
  have fc8 : (3 : Int32).toInt = 3 := rfl
  have fr9 := rng32 v4
  have fr10 := rng32 v3
  have fr11 := rng32 v2
  have fr12 := rng32 v1
  have fr13 := rng32 x0
  have fc14 : ((127 : Int32) >>> ((4 : Int32) &&& 31)).toInt = 7 := by decide
  have fo15 : (x0 &&& ((127 : Int32) >>> ((4 : Int32) &&& 31))).toInt = x0.toInt % 8 := c_mask x0 ((127 : Int32) >>> ((4 : Int32) &&& 31)) 3 (by decide) (by decide)
  have fe16 : (x0 &&& ((127 : Int32) >>> ((4 : Int32) &&& 31))).toInt = v1.toInt := congrArg Int32.toInt hv1
  have fc17 : (6 : Int32).toInt = 6 := rfl
  have fo18 : (((v1 <<< ((6 : Int32) &&& 31))).toInt - v1.toInt * 64) % 4294967296 = 0 := c_ishl v1 (6 : Int32) 6 (by decide)
  have fr19 := rng32 (v1 <<< ((6 : Int32) &&& 31))
  have fr20 := rng32 x1
  have fc21 : (63 : Int32).toInt = 63 := rfl
  have fo22 : (x1 &&& (63 : Int32)).toInt = x1.toInt % 64 := c_mask x1 (63 : Int32) 6 (by decide) (by decide)
  have fo23 := c_or (v1 <<< ((6 : Int32) &&& 31)) (x1 &&& (63 : Int32)) 6 (by decide) 64 (by decide) (by omega) (by omega) (by omega)
  have fr24 := rng32 ((v1 <<< ((6 : Int32) &&& 31)) ||| (x1 &&& (63 : Int32)))
  have fe25 : ((v1 <<< ((6 : Int32) &&& 31)) ||| (x1 &&& (63 : Int32))).toInt = v2.toInt := congrArg Int32.toInt hv2
  have fo26 : (((v2 <<< ((6 : Int32) &&& 31))).toInt - v2.toInt * 64) % 4294967296 = 0 := c_ishl v2 (6 : Int32) 6 (by decide)
  have fr27 := rng32 (v2 <<< ((6 : Int32) &&& 31))
  have fr28 := rng32 x2
  have fo29 : (x2 &&& (63 : Int32)).toInt = x2.toInt % 64 := c_mask x2 (63 : Int32) 6 (by decide) (by decide)
  have fo30 := c_or (v2 <<< ((6 : Int32) &&& 31)) (x2 &&& (63 : Int32)) 6 (by decide) 64 (by decide) (by omega) (by omega) (by omega)
  have fr31 := rng32 ((v2 <<< ((6 : Int32) &&& 31)) ||| (x2 &&& (63 : Int32)))
  have fe32 : ((v2 <<< ((6 : Int32) &&& 31)) ||| (x2 &&& (63 : Int32))).toInt = v3.toInt := congrArg Int32.toInt hv3
  have fo33 : (((v3 <<< ((6 : Int32) &&& 31))).toInt - v3.toInt * 64) % 4294967296 = 0 := c_ishl v3 (6 : Int32) 6 (by decide)
  have fr34 := rng32 (v3 <<< ((6 : Int32) &&& 31))
  have fr35 := rng32 x3
  have fo36 : (x3 &&& (63 : Int32)).toInt = x3.toInt % 64 := c_mask x3 (63 : Int32) 6 (by decide) (by decide)
  have fo37 := c_or (v3 <<< ((6 : Int32) &&& 31)) (x3 &&& (63 : Int32)) 6 (by decide) 64 (by decide) (by omega) (by omega) (by omega)
  have fr38 := rng32 ((v3 <<< ((6 : Int32) &&& 31)) ||| (x3 &&& (63 : Int32)))
  have fe39 : ((v3 <<< ((6 : Int32) &&& 31)) ||| (x3 &&& (63 : Int32))).toInt = v4.toInt := congrArg Int32.toInt hv4
  exact g_retI C X0 rfl d4_49 e0 (by decide) (by decide) ⟨_, rfl, by omega, N0, rfl⟩
theorem pd_30946467 : parseMethodDescriptor "(I[BI)V" = some ⟨[.int, (.array .byte), .int], none⟩ := by decide +kernel
theorem pd_14998784 : parseMethodDescriptor "([BII)I" = some ⟨[(.array .byte), .int, .int], some .int⟩ := by decide +kernel
theorem pn_21439049 : plainName "com/example/schedario/schedario/records/Utf8LengthPinLaw" = true := by first | (simp [plainName, overriddenIn]; done) | decide +kernel
theorem ef_0 (m : MethodId) (p0 : Int32) (p1 : Int32) : entryFrame m #[(.int p0), (.int p1)] maxLocals = mkF m 0 #[.val (.int p0), .val (.int p1), .unset, .unset, .unset, .unset, .unset, .unset] [] := by first | (simp [entryFrame, mkF, argsToLocals, Value.category, maxLocals]; done) | rfl
def Q0 (Z : State) (p0 : Int32) (p1 : Int32) (h0 : Heap) (n0 : Nat) (v : Option Value) (h : Heap) (L : List Loc) : Prop := v = some (.int 1) ∧ Fr n0 L
set_option maxRecDepth 65536 in
set_option maxHeartbeats 40000000 in
theorem rm0 (l : Launch) (Z : State) (a0 : Array Value) (hw : ∀ d ∈ tables_1, d.before a0 Z = true) (ws : List Jvm.Cond) (p0 : Int32) (p1 : Int32) (h0 : Heap) (n0 : Nat) (Z0 : n0 ≤ h0.size) :
    MetFree l x (head1 (Jvm.Cond.code x code maxLocals ret :: ws) room_1) (fun a U => a = #[(.int p0), (.int p1)] ∧ Z.Warmed39 U.vm ∧ U.heap = h0) (fun _ _ _ _ _ => True) (fun _ U o U' => ∃ v L, o = .returned v ∧ Q0 Z p0 p1 h0 n0 v U'.heap L ∧ FrameEnd U o U' L 16 128) := by
  refine MetFree.of_bodySF (plainFor_of_name pn_21439049) hisR ?_
  intro p e s m args below meth c s₁ Bd hml0 hP hK
  obtain ⟨rfl, hZ, hh⟩ := hP
  have C : Ctx p s m meth c Z "com/example/schedario/schedario/records/Utf8LengthPinLaw" "law" code maxLocals ret := Ctx.of Bd hml0 hZ
  have X0 : Stand p l e room_1 s m #[(.int p0), (.int p1)] below meth c s₁ [] 0 0 := Stand.of_body Bd
  have e0 : s₁.heap = h0 := by rw [← hh, Bd.state]; rfl
  have N0 := Fr.nil n0
  refine Goes.enter (ef_0 m p0 p1) ?_
  clear hK hml0 hh
  refine g_iloadN 1 rfl C X0 at_0 rfl ?_
  refine g_iconst 2 rfl C X0 (3 : Int32) at_1 rfl ?_
  refine g_iand 3 rfl C X0 at_2 ?_
  obtain ⟨v1, hv1⟩ : ∃ z : Int32, (p0 &&& (3 : Int32)) = z := ⟨_, rfl⟩
  refine g_istoreN 4 rfl C X0 v1 hv1 #[.val (.int p0), .val (.int p1), .val (.int v1), .unset, .unset, .unset, .unset, .unset] at_3 rfl ?_
  refine g_iloadN 5 rfl C X0 at_4 rfl ?_
  refine g_ldc 7 rfl C X0 (hw _ (List.mem_of_getElem? (i := 0) rfl)) at_5 ?_
  refine g_iand 8 rfl C X0 at_7 ?_
  obtain ⟨v2, hv2⟩ : ∃ z : Int32, (p1 &&& (2147483647 : Int32)) = z := ⟨_, rfl⟩
  refine g_istoreN 9 rfl C X0 v2 hv2 #[.val (.int p0), .val (.int p1), .val (.int v1), .val (.int v2), .unset, .unset, .unset, .unset] at_8 rfl ?_
  refine g_iloadN 10 rfl C X0 at_9 rfl ?_
  by_cases hb3 : v1.toInt = 0
  · skip
    refine g_if_ne_f 13 rfl C X0 at_10 hb3 ?_
    refine g_iloadN 14 rfl C X0 at_13 rfl ?_
    refine g_bipush 16 rfl C X0 (127 : Int32) at_14 rfl ?_
    refine g_iand 17 rfl C X0 at_16 ?_
    obtain ⟨v4, hv4⟩ : ∃ z : Int32, (p1 &&& (127 : Int32)) = z := ⟨_, rfl⟩
    refine g_istore 19 rfl C X0 v4 hv4 #[.val (.int p0), .val (.int p1), .val (.int v1), .val (.int v2), .val (.int v4), .unset, .unset, .unset] at_17 rfl ?_
    refine g_goto 88 C X0 at_19 (by decide) (by decide) ?_
    refine g_iload 90 rfl C X0 at_88 rfl ?_
    have hq5 : 0 ≤ v4.toInt ∧ v4.toInt < 128 := by
      have fr6 := rng32 v1
      have fr7 := rng32 p0
      have fc8 : (3 : Int32).toInt = 3 := rfl
      have fo9 : (p0 &&& (3 : Int32)).toInt = p0.toInt % 4 := c_mask p0 (3 : Int32) 2 (by decide) (by decide)
      have fe10 : (p0 &&& (3 : Int32)).toInt = v1.toInt := congrArg Int32.toInt hv1
      have fr11 := rng32 v4
      have fr12 := rng32 p1
      have fc13 : (127 : Int32).toInt = 127 := rfl
      have fo14 : (p1 &&& (127 : Int32)).toInt = p1.toInt % 128 := c_mask p1 (127 : Int32) 7 (by decide) (by decide)
      have fe15 : (p1 &&& (127 : Int32)).toInt = v4.toInt := congrArg Int32.toInt hv4
      omega
    refine g_callS 93 rfl C X0 (argsL := [(.int v4)]) (hw _ (List.mem_of_getElem? (i := 1) rfl)) (hw _ (List.mem_of_getElem? (i := 2) rfl)) (hw _ (List.mem_of_getElem? (i := 4) rfl)) (hw _ (List.mem_of_getElem? (i := 3) rfl)) e0 (rm1_1 l Z a0 hw [] v4 h0 n0 Z0 hq5) (lenOf pd_52681284 rfl) (by decide) (by decide) (by decide) (by decide) rfl (W := 0) (Nat.le_of_eq rfl) (by decide) at_90 rfl fun r16 T17 Lc18 X19 hQ20 => ?_
    obtain ⟨rfl, Nq21, eh22⟩ := hQ20
    have N23 := Fr.app N0 Nq21
    show Goes _ _ _ _ _ _ 93 _ [(.int (1 : Int32))]
    refine g_istore 95 rfl C X19 (1 : Int32) rfl #[.val (.int p0), .val (.int p1), .val (.int v1), .val (.int v2), .val (.int v4), .val (.int (1 : Int32)), .unset, .unset] at_93 rfl ?_
    refine g_iload 97 rfl C X19 at_95 rfl ?_
    refine g_iconst 98 rfl C X19 (1 : Int32) at_97 rfl ?_
    refine g_icmp_lt_f 101 rfl C X19 at_98 (by decide) ?_
    refine g_iload 103 rfl C X19 at_101 rfl ?_
    refine g_iconst 104 rfl C X19 (4 : Int32) at_103 rfl ?_
    refine g_icmp_le_t 109 C X19 at_104 (by decide) (by decide) (by decide) ?_
    refine g_iconst 110 rfl C X19 (5 : Int32) at_109 rfl ?_
    refine g_newP 112 rfl C X19 5 (by decide) 5 (by decide) (by decide) rfl (hw _ (List.mem_of_getElem? (i := 5) rfl)) eh22 at_110 (by decide) (by decide) fun T24 h25 o26 g27 X28 e29 E30 B31 => ?_
    have gn32 : n0 ≤ o26 := by rw [g27]; exact Z0
    have Zs33 := Nat.le_trans Z0 E30.1
    refine g_astore 114 rfl C X28 #[.val (.int p0), .val (.int p1), .val (.int v1), .val (.int v2), .val (.int v4), .val (.int (1 : Int32)), .val (.ref o26), .unset] at_112 rfl rfl ?_
    refine g_iload 116 rfl C X28 at_114 rfl ?_
    refine g_aload 118 rfl C X28 at_116 rfl rfl ?_
    refine g_iconst 119 rfl C X28 (0 : Int32) at_118 rfl ?_
    refine g_callS 122 rfl C X28 (argsL := [(.int v4), (.ref o26), (.int (0 : Int32))]) (hw _ (List.mem_of_getElem? (i := 6) rfl)) (hw _ (List.mem_of_getElem? (i := 7) rfl)) (hw _ (List.mem_of_getElem? (i := 8) rfl)) (hw _ (List.mem_of_getElem? (i := 3) rfl)) e29 (rm2_1 l Z a0 hw [] v4 o26 (fun _ => 0) h25 n0 Zs33 B31 hq5 gn32) (lenOf pd_30946467 rfl) (by decide) (by decide) (by decide) (by decide) rfl (W := 0) (Nat.le_of_eq rfl) (by decide) at_119 rfl fun r34 T35 Lc36 X37 hQ38 => ?_
    obtain ⟨f39, rfl, hs40, hk41, Nq42, Kc43, B44⟩ := hQ38
    have Zs45 := Nat.le_trans Zs33 Kc43.1
    have N46 := Fr.app N23 Nq42
    show Goes _ _ _ _ _ _ 122 _ []
    refine g_aload 124 rfl C X37 at_122 rfl rfl ?_
    refine g_iconst 125 rfl C X37 (0 : Int32) at_124 rfl ?_
    refine g_iconst 126 rfl C X37 (5 : Int32) at_125 rfl ?_
    have hq47 : -128 ≤ (f39 0).toInt ∧ (f39 0).toInt < 128 := by
      have hz := hs40
      have hz1 := hq5
      clear hs40
      omega
    have hq48 : 0 ≤ (f39 0).toInt := by
      omega
    refine g_callS 129 rfl C X37 (argsL := [(.ref o26), (.int (0 : Int32)), (.int (5 : Int32))]) (hw _ (List.mem_of_getElem? (i := 10) rfl)) (hw _ (List.mem_of_getElem? (i := 11) rfl)) (hw _ (List.mem_of_getElem? (i := 12) rfl)) (hw _ (List.mem_of_getElem? (i := 3) rfl)) rfl (rm3_1 l Z a0 hw [] o26 f39 (f39 0) (T35.heap) n0 Zs45 B44 rfl hq47 hq48) (lenOf pd_14998784 rfl) (by decide) (by decide) (by decide) (by decide) rfl (W := 0) (Nat.le_of_eq rfl) (by decide) at_126 rfl fun r49 T50 Lc51 X52 hQ53 => ?_
    obtain ⟨rfl, Nq54, eh55⟩ := hQ53
    have N56 := Fr.app N46 Nq54
    show Goes _ _ _ _ _ _ 129 _ [(.int (1 : Int32))]
    refine g_istore 131 rfl C X52 (1 : Int32) rfl #[.val (.int p0), .val (.int p1), .val (.int v1), .val (.int v2), .val (.int v4), .val (.int (1 : Int32)), .val (.ref o26), .val (.int (1 : Int32))] at_129 rfl ?_
    refine g_iload 133 rfl C X52 at_131 rfl ?_
    refine g_iload 135 rfl C X52 at_133 rfl ?_
    refine g_icmp_ne_f 138 rfl C X52 at_135 (by decide) ?_
    refine g_aload 140 rfl C X52 at_138 rfl rfl ?_
    refine g_iconst 141 rfl C X52 (0 : Int32) at_140 rfl ?_
    refine g_iload 143 rfl C X52 at_141 rfl ?_
    refine g_callS 146 rfl C X52 (argsL := [(.ref o26), (.int (0 : Int32)), (.int (1 : Int32))]) (hw _ (List.mem_of_getElem? (i := 13) rfl)) (hw _ (List.mem_of_getElem? (i := 14) rfl)) (hw _ (List.mem_of_getElem? (i := 15) rfl)) (hw _ (List.mem_of_getElem? (i := 3) rfl)) eh55 (rm4_1 l Z a0 hw [] o26 f39 (f39 0) (T35.heap) n0 Zs45 B44 rfl) (lenOf pd_14998784 rfl) (by decide) (by decide) (by decide) (by decide) rfl (W := 0) (Nat.le_of_eq rfl) (by decide) at_143 rfl fun r57 T58 Lc59 X60 hQ61 => ?_
    obtain ⟨r62, rfl, hs63, Nq64, eh65⟩ := hQ61
    have N66 := Fr.app N56 Nq64
    show Goes _ _ _ _ _ _ 146 _ [(.int r62)]
    refine g_iload 148 rfl C X60 at_146 rfl ?_
    have hq68 : r62.toInt = v4.toInt := by
      have fr69 := rng32 r62
      have fr70 := rng32 v4
      have fr71 := rng32 p1
      have fc72 : (127 : Int32).toInt = 127 := rfl
      have fo73 : (p1 &&& (127 : Int32)).toInt = p1.toInt % 128 := c_mask p1 (127 : Int32) 7 (by decide) (by decide)
      have fe74 : (p1 &&& (127 : Int32)).toInt = v4.toInt := congrArg Int32.toInt hv4
      omega
    refine g_icmp_ne_f 151 rfl C X60 at_148 hq68 ?_
    refine g_aload 153 rfl C X60 at_151 rfl rfl ?_
    refine g_iload 155 rfl C X60 at_153 rfl ?_
    refine g_baload 156 rfl C X60 eh65 B44 1 (by decide) (by decide) (f39 1) rfl at_155 ?_
    have hq76 : (f39 1).toInt = 0 := by
      have hk0 : (f39 1).toInt = (0 : Int32).toInt := hk41 1 (by decide)
      have hz : ((0 : Int32)).toInt = 0 := rfl
      have fr77 := rng32 (f39 1)
      omega
    refine g_if_ne_f 159 rfl C X60 at_156 hq76 ?_
    refine g_iconst 160 rfl C X60 (1 : Int32) at_159 rfl ?_
    refine g_goto 164 C X60 at_160 (by decide) (by decide) ?_
    exact g_retN C X60 (z' := (1 : Int32)) rfl (Or.inl rfl) at_164 eh65 (by decide) (by decide) rfl ⟨rfl, N66⟩
  · skip
    refine g_if_ne_t 22 C X0 at_10 (by decide) (by decide) hb3 ?_
    refine g_iloadN 23 rfl C X0 at_22 rfl ?_
    refine g_iconst 24 rfl C X0 (1 : Int32) at_23 rfl ?_
    by_cases hb78 : v1.toInt = (1 : Int32).toInt
    · skip
      refine g_icmp_ne_f 27 rfl C X0 at_24 hb78 ?_
      refine g_sipush 30 rfl C X0 (128 : Int32) at_27 rfl ?_
      refine g_iloadN 31 rfl C X0 at_30 rfl ?_
      refine g_sipush 34 rfl C X0 (1920 : Int32) at_31 rfl ?_
      refine g_irem 35 rfl C X0 at_34 (by decide) ?_
      refine g_iadd 36 rfl C X0 at_35 ?_
      obtain ⟨v79, hv79⟩ : ∃ z : Int32, ((128 : Int32) + (v2 % (1920 : Int32))) = z := ⟨_, rfl⟩
      refine g_istore 38 rfl C X0 v79 hv79 #[.val (.int p0), .val (.int p1), .val (.int v1), .val (.int v2), .val (.int v79), .unset, .unset, .unset] at_36 rfl ?_
      refine g_goto 88 C X0 at_38 (by decide) (by decide) ?_
      refine g_iload 90 rfl C X0 at_88 rfl ?_
      have hq80 : 128 ≤ v79.toInt ∧ v79.toInt < 2048 := by
        have fr81 := rng32 v1
        have fr82 := rng32 p0
        have fc83 : (3 : Int32).toInt = 3 := rfl
        have fo84 : (p0 &&& (3 : Int32)).toInt = p0.toInt % 4 := c_mask p0 (3 : Int32) 2 (by decide) (by decide)
        have fe85 : (p0 &&& (3 : Int32)).toInt = v1.toInt := congrArg Int32.toInt hv1
        have fc86 : (1 : Int32).toInt = 1 := rfl
        have fr87 := rng32 v79
        have fc88 : (128 : Int32).toInt = 128 := rfl
        have fr89 := rng32 v2
        have fr90 := rng32 p1
        have fc91 : (2147483647 : Int32).toInt = 2147483647 := rfl
        have fo92 : (p1 &&& (2147483647 : Int32)).toInt = p1.toInt % 2147483648 := c_mask p1 (2147483647 : Int32) 31 (by decide) (by decide)
        have fe93 : (p1 &&& (2147483647 : Int32)).toInt = v2.toInt := congrArg Int32.toInt hv2
        have fc94 : (1920 : Int32).toInt = 1920 := rfl
        have fo95 := c_irem v2 (1920 : Int32) 1920 rfl
        have fr96 := rng32 (v2 % (1920 : Int32))
        have fo97 := c_iadd (128 : Int32) (v2 % (1920 : Int32))
        have fr98 := rng32 ((128 : Int32) + (v2 % (1920 : Int32)))
        have fe99 : ((128 : Int32) + (v2 % (1920 : Int32))).toInt = v79.toInt := congrArg Int32.toInt hv79
        omega
      refine g_callS 93 rfl C X0 (argsL := [(.int v79)]) (hw _ (List.mem_of_getElem? (i := 1) rfl)) (hw _ (List.mem_of_getElem? (i := 2) rfl)) (hw _ (List.mem_of_getElem? (i := 4) rfl)) (hw _ (List.mem_of_getElem? (i := 3) rfl)) e0 (rm1_2 l Z a0 hw [] v79 h0 n0 Z0 hq80) (lenOf pd_52681284 rfl) (by decide) (by decide) (by decide) (by decide) rfl (W := 0) (Nat.le_of_eq rfl) (by decide) at_90 rfl fun r100 T101 Lc102 X103 hQ104 => ?_
      obtain ⟨rfl, Nq105, eh106⟩ := hQ104
      have N107 := Fr.app N0 Nq105
      show Goes _ _ _ _ _ _ 93 _ [(.int (2 : Int32))]
      refine g_istore 95 rfl C X103 (2 : Int32) rfl #[.val (.int p0), .val (.int p1), .val (.int v1), .val (.int v2), .val (.int v79), .val (.int (2 : Int32)), .unset, .unset] at_93 rfl ?_
      refine g_iload 97 rfl C X103 at_95 rfl ?_
      refine g_iconst 98 rfl C X103 (1 : Int32) at_97 rfl ?_
      refine g_icmp_lt_f 101 rfl C X103 at_98 (by decide) ?_
      refine g_iload 103 rfl C X103 at_101 rfl ?_
      refine g_iconst 104 rfl C X103 (4 : Int32) at_103 rfl ?_
      refine g_icmp_le_t 109 C X103 at_104 (by decide) (by decide) (by decide) ?_
      refine g_iconst 110 rfl C X103 (5 : Int32) at_109 rfl ?_
      refine g_newP 112 rfl C X103 5 (by decide) 5 (by decide) (by decide) rfl (hw _ (List.mem_of_getElem? (i := 5) rfl)) eh106 at_110 (by decide) (by decide) fun T108 h109 o110 g111 X112 e113 E114 B115 => ?_
      have gn116 : n0 ≤ o110 := by rw [g111]; exact Z0
      have Zs117 := Nat.le_trans Z0 E114.1
      refine g_astore 114 rfl C X112 #[.val (.int p0), .val (.int p1), .val (.int v1), .val (.int v2), .val (.int v79), .val (.int (2 : Int32)), .val (.ref o110), .unset] at_112 rfl rfl ?_
      refine g_iload 116 rfl C X112 at_114 rfl ?_
      refine g_aload 118 rfl C X112 at_116 rfl rfl ?_
      refine g_iconst 119 rfl C X112 (0 : Int32) at_118 rfl ?_
      refine g_callS 122 rfl C X112 (argsL := [(.int v79), (.ref o110), (.int (0 : Int32))]) (hw _ (List.mem_of_getElem? (i := 6) rfl)) (hw _ (List.mem_of_getElem? (i := 7) rfl)) (hw _ (List.mem_of_getElem? (i := 8) rfl)) (hw _ (List.mem_of_getElem? (i := 3) rfl)) e113 (rm2_2 l Z a0 hw [] v79 o110 (fun _ => 0) h109 n0 Zs117 B115 hq80 gn116) (lenOf pd_30946467 rfl) (by decide) (by decide) (by decide) (by decide) rfl (W := 0) (Nat.le_of_eq rfl) (by decide) at_119 rfl fun r118 T119 Lc120 X121 hQ122 => ?_
      obtain ⟨f123, rfl, hs124, hk125, Nq126, Kc127, B128⟩ := hQ122
      have Zs129 := Nat.le_trans Zs117 Kc127.1
      have N130 := Fr.app N107 Nq126
      show Goes _ _ _ _ _ _ 122 _ []
      refine g_aload 124 rfl C X121 at_122 rfl rfl ?_
      refine g_iconst 125 rfl C X121 (0 : Int32) at_124 rfl ?_
      refine g_iconst 126 rfl C X121 (5 : Int32) at_125 rfl ?_
      have hq131 : -128 ≤ (f123 0).toInt ∧ (f123 0).toInt < 128 := by
        have hz := hs124.1
        have hz1 := hq80
        clear hs124
        omega
      have hq132 : -128 ≤ (f123 1).toInt ∧ (f123 1).toInt < 128 := by
        have hz := hs124.2
        have hz1 := hq80
        clear hs124
        omega
      have hq133 : -62 ≤ (f123 0).toInt ∧ (f123 0).toInt ≤ -33 ∧ (f123 1).toInt < -64 := by
        omega
      refine g_callS 129 rfl C X121 (argsL := [(.ref o110), (.int (0 : Int32)), (.int (5 : Int32))]) (hw _ (List.mem_of_getElem? (i := 10) rfl)) (hw _ (List.mem_of_getElem? (i := 11) rfl)) (hw _ (List.mem_of_getElem? (i := 12) rfl)) (hw _ (List.mem_of_getElem? (i := 3) rfl)) rfl (rm3_2 l Z a0 hw [] o110 f123 (f123 0) (f123 1) (T119.heap) n0 Zs129 B128 rfl rfl hq131 hq132 hq133) (lenOf pd_14998784 rfl) (by decide) (by decide) (by decide) (by decide) rfl (W := 0) (Nat.le_of_eq rfl) (by decide) at_126 rfl fun r134 T135 Lc136 X137 hQ138 => ?_
      obtain ⟨rfl, Nq139, eh140⟩ := hQ138
      have N141 := Fr.app N130 Nq139
      show Goes _ _ _ _ _ _ 129 _ [(.int (2 : Int32))]
      refine g_istore 131 rfl C X137 (2 : Int32) rfl #[.val (.int p0), .val (.int p1), .val (.int v1), .val (.int v2), .val (.int v79), .val (.int (2 : Int32)), .val (.ref o110), .val (.int (2 : Int32))] at_129 rfl ?_
      refine g_iload 133 rfl C X137 at_131 rfl ?_
      refine g_iload 135 rfl C X137 at_133 rfl ?_
      refine g_icmp_ne_f 138 rfl C X137 at_135 (by decide) ?_
      refine g_aload 140 rfl C X137 at_138 rfl rfl ?_
      refine g_iconst 141 rfl C X137 (0 : Int32) at_140 rfl ?_
      refine g_iload 143 rfl C X137 at_141 rfl ?_
      refine g_callS 146 rfl C X137 (argsL := [(.ref o110), (.int (0 : Int32)), (.int (2 : Int32))]) (hw _ (List.mem_of_getElem? (i := 13) rfl)) (hw _ (List.mem_of_getElem? (i := 14) rfl)) (hw _ (List.mem_of_getElem? (i := 15) rfl)) (hw _ (List.mem_of_getElem? (i := 3) rfl)) eh140 (rm4_2 l Z a0 hw [] o110 f123 (f123 0) (f123 1) (T119.heap) n0 Zs129 B128 rfl rfl) (lenOf pd_14998784 rfl) (by decide) (by decide) (by decide) (by decide) rfl (W := 0) (Nat.le_of_eq rfl) (by decide) at_143 rfl fun r142 T143 Lc144 X145 hQ146 => ?_
      obtain ⟨r147, rfl, hs148, Nq149, eh150⟩ := hQ146
      have N151 := Fr.app N141 Nq149
      show Goes _ _ _ _ _ _ 146 _ [(.int r147)]
      refine g_iload 148 rfl C X145 at_146 rfl ?_
      have hb152 : r147.toInt = v79.toInt := hs148.trans (own_c2 hs124.1 hs124.2 hq80.1 hq80.2)
      refine g_icmp_ne_f 151 rfl C X145 at_148 hb152 ?_
      refine g_aload 153 rfl C X145 at_151 rfl rfl ?_
      refine g_iload 155 rfl C X145 at_153 rfl ?_
      refine g_baload 156 rfl C X145 eh150 B128 2 (by decide) (by decide) (f123 2) rfl at_155 ?_
      have hq154 : (f123 2).toInt = 0 := by
        have hk0 : (f123 2).toInt = (0 : Int32).toInt := hk125 2 (by decide)
        have hz : ((0 : Int32)).toInt = 0 := rfl
        have fr155 := rng32 (f123 2)
        omega
      refine g_if_ne_f 159 rfl C X145 at_156 hq154 ?_
      refine g_iconst 160 rfl C X145 (1 : Int32) at_159 rfl ?_
      refine g_goto 164 C X145 at_160 (by decide) (by decide) ?_
      exact g_retN C X145 (z' := (1 : Int32)) rfl (Or.inl rfl) at_164 eh150 (by decide) (by decide) rfl ⟨rfl, N151⟩
    · skip
      refine g_icmp_ne_t 41 C X0 at_24 (by decide) (by decide) hb78 ?_
      refine g_iloadN 42 rfl C X0 at_41 rfl ?_
      refine g_iconst 43 rfl C X0 (2 : Int32) at_42 rfl ?_
      by_cases hb156 : v1.toInt = (2 : Int32).toInt
      · skip
        refine g_icmp_ne_f 46 rfl C X0 at_43 hb156 ?_
        refine g_sipush 49 rfl C X0 (2048 : Int32) at_46 rfl ?_
        refine g_iloadN 50 rfl C X0 at_49 rfl ?_
        refine g_ldc 52 rfl C X0 (hw _ (List.mem_of_getElem? (i := 16) rfl)) at_50 ?_
        refine g_irem 53 rfl C X0 at_52 (by decide) ?_
        refine g_iadd 54 rfl C X0 at_53 ?_
        obtain ⟨v157, hv157⟩ : ∃ z : Int32, ((2048 : Int32) + (v2 % (63488 : Int32))) = z := ⟨_, rfl⟩
        refine g_istore 56 rfl C X0 v157 hv157 #[.val (.int p0), .val (.int p1), .val (.int v1), .val (.int v2), .val (.int v157), .unset, .unset, .unset] at_54 rfl ?_
        refine g_iload 58 rfl C X0 at_56 rfl ?_
        refine g_ldc 60 rfl C X0 (hw _ (List.mem_of_getElem? (i := 17) rfl)) at_58 ?_
        by_cases hb158 : v157.toInt < (55296 : Int32).toInt
        · skip
          refine g_icmp_lt_t 88 C X0 at_60 (by decide) (by decide) hb158 ?_
          refine g_iload 90 rfl C X0 at_88 rfl ?_
          have hq159 : 2048 ≤ v157.toInt ∧ v157.toInt < 65536 := by
            have fr160 := rng32 v1
            have fr161 := rng32 p0
            have fc162 : (3 : Int32).toInt = 3 := rfl
            have fo163 : (p0 &&& (3 : Int32)).toInt = p0.toInt % 4 := c_mask p0 (3 : Int32) 2 (by decide) (by decide)
            have fe164 : (p0 &&& (3 : Int32)).toInt = v1.toInt := congrArg Int32.toInt hv1
            have fc165 : (1 : Int32).toInt = 1 := rfl
            have fc166 : (2 : Int32).toInt = 2 := rfl
            have fr167 := rng32 v157
            have fc168 : (2048 : Int32).toInt = 2048 := rfl
            have fr169 := rng32 v2
            have fr170 := rng32 p1
            have fc171 : (2147483647 : Int32).toInt = 2147483647 := rfl
            have fo172 : (p1 &&& (2147483647 : Int32)).toInt = p1.toInt % 2147483648 := c_mask p1 (2147483647 : Int32) 31 (by decide) (by decide)
            have fe173 : (p1 &&& (2147483647 : Int32)).toInt = v2.toInt := congrArg Int32.toInt hv2
            have fc174 : (63488 : Int32).toInt = 63488 := rfl
            have fo175 := c_irem v2 (63488 : Int32) 63488 rfl
            have fr176 := rng32 (v2 % (63488 : Int32))
            have fo177 := c_iadd (2048 : Int32) (v2 % (63488 : Int32))
            have fr178 := rng32 ((2048 : Int32) + (v2 % (63488 : Int32)))
            have fe179 : ((2048 : Int32) + (v2 % (63488 : Int32))).toInt = v157.toInt := congrArg Int32.toInt hv157
            have fc180 : (55296 : Int32).toInt = 55296 := rfl
            omega
          have hq181 : v157.toInt < 55296 ∨ 57343 < v157.toInt := by
            have fr182 := rng32 v1
            have fr183 := rng32 p0
            have fc184 : (3 : Int32).toInt = 3 := rfl
            have fo185 : (p0 &&& (3 : Int32)).toInt = p0.toInt % 4 := c_mask p0 (3 : Int32) 2 (by decide) (by decide)
            have fe186 : (p0 &&& (3 : Int32)).toInt = v1.toInt := congrArg Int32.toInt hv1
            have fc187 : (1 : Int32).toInt = 1 := rfl
            have fc188 : (2 : Int32).toInt = 2 := rfl
            have fr189 := rng32 v157
            have fc190 : (2048 : Int32).toInt = 2048 := rfl
            have fr191 := rng32 v2
            have fr192 := rng32 p1
            have fc193 : (2147483647 : Int32).toInt = 2147483647 := rfl
            have fo194 : (p1 &&& (2147483647 : Int32)).toInt = p1.toInt % 2147483648 := c_mask p1 (2147483647 : Int32) 31 (by decide) (by decide)
            have fe195 : (p1 &&& (2147483647 : Int32)).toInt = v2.toInt := congrArg Int32.toInt hv2
            have fc196 : (63488 : Int32).toInt = 63488 := rfl
            have fo197 := c_irem v2 (63488 : Int32) 63488 rfl
            have fr198 := rng32 (v2 % (63488 : Int32))
            have fo199 := c_iadd (2048 : Int32) (v2 % (63488 : Int32))
            have fr200 := rng32 ((2048 : Int32) + (v2 % (63488 : Int32)))
            have fe201 : ((2048 : Int32) + (v2 % (63488 : Int32))).toInt = v157.toInt := congrArg Int32.toInt hv157
            have fc202 : (55296 : Int32).toInt = 55296 := rfl
            omega
          refine g_callS 93 rfl C X0 (argsL := [(.int v157)]) (hw _ (List.mem_of_getElem? (i := 1) rfl)) (hw _ (List.mem_of_getElem? (i := 2) rfl)) (hw _ (List.mem_of_getElem? (i := 4) rfl)) (hw _ (List.mem_of_getElem? (i := 3) rfl)) e0 (rm1_3 l Z a0 hw [] v157 h0 n0 Z0 hq159) (lenOf pd_52681284 rfl) (by decide) (by decide) (by decide) (by decide) rfl (W := 0) (Nat.le_of_eq rfl) (by decide) at_90 rfl fun r203 T204 Lc205 X206 hQ207 => ?_
          obtain ⟨rfl, Nq208, eh209⟩ := hQ207
          have N210 := Fr.app N0 Nq208
          show Goes _ _ _ _ _ _ 93 _ [(.int (3 : Int32))]
          refine g_istore 95 rfl C X206 (3 : Int32) rfl #[.val (.int p0), .val (.int p1), .val (.int v1), .val (.int v2), .val (.int v157), .val (.int (3 : Int32)), .unset, .unset] at_93 rfl ?_
          refine g_iload 97 rfl C X206 at_95 rfl ?_
          refine g_iconst 98 rfl C X206 (1 : Int32) at_97 rfl ?_
          refine g_icmp_lt_f 101 rfl C X206 at_98 (by decide) ?_
          refine g_iload 103 rfl C X206 at_101 rfl ?_
          refine g_iconst 104 rfl C X206 (4 : Int32) at_103 rfl ?_
          refine g_icmp_le_t 109 C X206 at_104 (by decide) (by decide) (by decide) ?_
          refine g_iconst 110 rfl C X206 (5 : Int32) at_109 rfl ?_
          refine g_newP 112 rfl C X206 5 (by decide) 5 (by decide) (by decide) rfl (hw _ (List.mem_of_getElem? (i := 5) rfl)) eh209 at_110 (by decide) (by decide) fun T211 h212 o213 g214 X215 e216 E217 B218 => ?_
          have gn219 : n0 ≤ o213 := by rw [g214]; exact Z0
          have Zs220 := Nat.le_trans Z0 E217.1
          refine g_astore 114 rfl C X215 #[.val (.int p0), .val (.int p1), .val (.int v1), .val (.int v2), .val (.int v157), .val (.int (3 : Int32)), .val (.ref o213), .unset] at_112 rfl rfl ?_
          refine g_iload 116 rfl C X215 at_114 rfl ?_
          refine g_aload 118 rfl C X215 at_116 rfl rfl ?_
          refine g_iconst 119 rfl C X215 (0 : Int32) at_118 rfl ?_
          refine g_callS 122 rfl C X215 (argsL := [(.int v157), (.ref o213), (.int (0 : Int32))]) (hw _ (List.mem_of_getElem? (i := 6) rfl)) (hw _ (List.mem_of_getElem? (i := 7) rfl)) (hw _ (List.mem_of_getElem? (i := 8) rfl)) (hw _ (List.mem_of_getElem? (i := 3) rfl)) e216 (rm2_3 l Z a0 hw [] v157 o213 (fun _ => 0) h212 n0 Zs220 B218 hq159 gn219) (lenOf pd_30946467 rfl) (by decide) (by decide) (by decide) (by decide) rfl (W := 0) (Nat.le_of_eq rfl) (by decide) at_119 rfl fun r221 T222 Lc223 X224 hQ225 => ?_
          obtain ⟨f226, rfl, hs227, hk228, Nq229, Kc230, B231⟩ := hQ225
          have Zs232 := Nat.le_trans Zs220 Kc230.1
          have N233 := Fr.app N210 Nq229
          show Goes _ _ _ _ _ _ 122 _ []
          refine g_aload 124 rfl C X224 at_122 rfl rfl ?_
          refine g_iconst 125 rfl C X224 (0 : Int32) at_124 rfl ?_
          refine g_iconst 126 rfl C X224 (5 : Int32) at_125 rfl ?_
          have hq234 : -128 ≤ (f226 0).toInt ∧ (f226 0).toInt < 128 := by
            have hz := hs227.1
            have hz1 := hq159
            clear hs227 hq181
            omega
          have hq235 : -128 ≤ (f226 1).toInt ∧ (f226 1).toInt < 128 := by
            have hz := hs227.2.1
            have hz1 := hq159
            clear hs227 hq181
            omega
          have hq236 : -128 ≤ (f226 2).toInt ∧ (f226 2).toInt < 128 := by
            have hz := hs227.2.2
            have hz1 := hq159
            clear hs227 hq181
            omega
          refine g_callS 129 rfl C X224 (argsL := [(.ref o213), (.int (0 : Int32)), (.int (5 : Int32))]) (hw _ (List.mem_of_getElem? (i := 10) rfl)) (hw _ (List.mem_of_getElem? (i := 11) rfl)) (hw _ (List.mem_of_getElem? (i := 12) rfl)) (hw _ (List.mem_of_getElem? (i := 3) rfl)) rfl (rm3_3 l Z a0 hw [] o213 f226 (f226 0) (f226 1) (f226 2) (T222.heap) n0 Zs232 B231 rfl rfl rfl hq234 hq235 hq236 (own_s3 hs227.1 hs227.2.1 hs227.2.2 hq159.1 hq159.2 hq181)) (lenOf pd_14998784 rfl) (by decide) (by decide) (by decide) (by decide) rfl (W := 0) (Nat.le_of_eq rfl) (by decide) at_126 rfl fun r237 T238 Lc239 X240 hQ241 => ?_
          obtain ⟨rfl, Nq242, eh243⟩ := hQ241
          have N244 := Fr.app N233 Nq242
          show Goes _ _ _ _ _ _ 129 _ [(.int (3 : Int32))]
          refine g_istore 131 rfl C X240 (3 : Int32) rfl #[.val (.int p0), .val (.int p1), .val (.int v1), .val (.int v2), .val (.int v157), .val (.int (3 : Int32)), .val (.ref o213), .val (.int (3 : Int32))] at_129 rfl ?_
          refine g_iload 133 rfl C X240 at_131 rfl ?_
          refine g_iload 135 rfl C X240 at_133 rfl ?_
          refine g_icmp_ne_f 138 rfl C X240 at_135 (by decide) ?_
          refine g_aload 140 rfl C X240 at_138 rfl rfl ?_
          refine g_iconst 141 rfl C X240 (0 : Int32) at_140 rfl ?_
          refine g_iload 143 rfl C X240 at_141 rfl ?_
          refine g_callS 146 rfl C X240 (argsL := [(.ref o213), (.int (0 : Int32)), (.int (3 : Int32))]) (hw _ (List.mem_of_getElem? (i := 13) rfl)) (hw _ (List.mem_of_getElem? (i := 14) rfl)) (hw _ (List.mem_of_getElem? (i := 15) rfl)) (hw _ (List.mem_of_getElem? (i := 3) rfl)) eh243 (rm4_3 l Z a0 hw [] o213 f226 (f226 0) (f226 1) (f226 2) (T222.heap) n0 Zs232 B231 rfl rfl rfl) (lenOf pd_14998784 rfl) (by decide) (by decide) (by decide) (by decide) rfl (W := 0) (Nat.le_of_eq rfl) (by decide) at_143 rfl fun r245 T246 Lc247 X248 hQ249 => ?_
          obtain ⟨r250, rfl, hs251, Nq252, eh253⟩ := hQ249
          have N254 := Fr.app N244 Nq252
          show Goes _ _ _ _ _ _ 146 _ [(.int r250)]
          refine g_iload 148 rfl C X248 at_146 rfl ?_
          have hb255 : r250.toInt = v157.toInt := hs251.trans (own_c3 hs227.1 hs227.2.1 hs227.2.2 hq159.1 hq159.2)
          refine g_icmp_ne_f 151 rfl C X248 at_148 hb255 ?_
          refine g_aload 153 rfl C X248 at_151 rfl rfl ?_
          refine g_iload 155 rfl C X248 at_153 rfl ?_
          refine g_baload 156 rfl C X248 eh253 B231 3 (by decide) (by decide) (f226 3) rfl at_155 ?_
          have hq257 : (f226 3).toInt = 0 := by
            have hk0 : (f226 3).toInt = (0 : Int32).toInt := hk228 3 (by decide)
            have hz : ((0 : Int32)).toInt = 0 := rfl
            have fr258 := rng32 (f226 3)
            omega
          refine g_if_ne_f 159 rfl C X248 at_156 hq257 ?_
          refine g_iconst 160 rfl C X248 (1 : Int32) at_159 rfl ?_
          refine g_goto 164 C X248 at_160 (by decide) (by decide) ?_
          exact g_retN C X248 (z' := (1 : Int32)) rfl (Or.inl rfl) at_164 eh253 (by decide) (by decide) rfl ⟨rfl, N254⟩
        · skip
          refine g_icmp_lt_f 63 rfl C X0 at_60 hb158 ?_
          refine g_iload 65 rfl C X0 at_63 rfl ?_
          refine g_ldc 67 rfl C X0 (hw _ (List.mem_of_getElem? (i := 22) rfl)) at_65 ?_
          by_cases hb259 : (57343 : Int32).toInt < v157.toInt
          · skip
            refine g_icmp_gt_t 88 C X0 at_67 (by decide) (by decide) hb259 ?_
            refine g_iload 90 rfl C X0 at_88 rfl ?_
            have hq260 : 2048 ≤ v157.toInt ∧ v157.toInt < 65536 := by
              have fr261 := rng32 v1
              have fr262 := rng32 p0
              have fc263 : (3 : Int32).toInt = 3 := rfl
              have fo264 : (p0 &&& (3 : Int32)).toInt = p0.toInt % 4 := c_mask p0 (3 : Int32) 2 (by decide) (by decide)
              have fe265 : (p0 &&& (3 : Int32)).toInt = v1.toInt := congrArg Int32.toInt hv1
              have fc266 : (1 : Int32).toInt = 1 := rfl
              have fc267 : (2 : Int32).toInt = 2 := rfl
              have fr268 := rng32 v157
              have fc269 : (2048 : Int32).toInt = 2048 := rfl
              have fr270 := rng32 v2
              have fr271 := rng32 p1
              have fc272 : (2147483647 : Int32).toInt = 2147483647 := rfl
              have fo273 : (p1 &&& (2147483647 : Int32)).toInt = p1.toInt % 2147483648 := c_mask p1 (2147483647 : Int32) 31 (by decide) (by decide)
              have fe274 : (p1 &&& (2147483647 : Int32)).toInt = v2.toInt := congrArg Int32.toInt hv2
              have fc275 : (63488 : Int32).toInt = 63488 := rfl
              have fo276 := c_irem v2 (63488 : Int32) 63488 rfl
              have fr277 := rng32 (v2 % (63488 : Int32))
              have fo278 := c_iadd (2048 : Int32) (v2 % (63488 : Int32))
              have fr279 := rng32 ((2048 : Int32) + (v2 % (63488 : Int32)))
              have fe280 : ((2048 : Int32) + (v2 % (63488 : Int32))).toInt = v157.toInt := congrArg Int32.toInt hv157
              have fc281 : (55296 : Int32).toInt = 55296 := rfl
              have fc282 : (57343 : Int32).toInt = 57343 := rfl
              omega
            have hq283 : v157.toInt < 55296 ∨ 57343 < v157.toInt := by
              have fr284 := rng32 v1
              have fr285 := rng32 p0
              have fc286 : (3 : Int32).toInt = 3 := rfl
              have fo287 : (p0 &&& (3 : Int32)).toInt = p0.toInt % 4 := c_mask p0 (3 : Int32) 2 (by decide) (by decide)
              have fe288 : (p0 &&& (3 : Int32)).toInt = v1.toInt := congrArg Int32.toInt hv1
              have fc289 : (1 : Int32).toInt = 1 := rfl
              have fc290 : (2 : Int32).toInt = 2 := rfl
              have fr291 := rng32 v157
              have fc292 : (2048 : Int32).toInt = 2048 := rfl
              have fr293 := rng32 v2
              have fr294 := rng32 p1
              have fc295 : (2147483647 : Int32).toInt = 2147483647 := rfl
              have fo296 : (p1 &&& (2147483647 : Int32)).toInt = p1.toInt % 2147483648 := c_mask p1 (2147483647 : Int32) 31 (by decide) (by decide)
              have fe297 : (p1 &&& (2147483647 : Int32)).toInt = v2.toInt := congrArg Int32.toInt hv2
              have fc298 : (63488 : Int32).toInt = 63488 := rfl
              have fo299 := c_irem v2 (63488 : Int32) 63488 rfl
              have fr300 := rng32 (v2 % (63488 : Int32))
              have fo301 := c_iadd (2048 : Int32) (v2 % (63488 : Int32))
              have fr302 := rng32 ((2048 : Int32) + (v2 % (63488 : Int32)))
              have fe303 : ((2048 : Int32) + (v2 % (63488 : Int32))).toInt = v157.toInt := congrArg Int32.toInt hv157
              have fc304 : (55296 : Int32).toInt = 55296 := rfl
              have fc305 : (57343 : Int32).toInt = 57343 := rfl
              omega
            refine g_callS 93 rfl C X0 (argsL := [(.int v157)]) (hw _ (List.mem_of_getElem? (i := 1) rfl)) (hw _ (List.mem_of_getElem? (i := 2) rfl)) (hw _ (List.mem_of_getElem? (i := 4) rfl)) (hw _ (List.mem_of_getElem? (i := 3) rfl)) e0 (rm1_3 l Z a0 hw [] v157 h0 n0 Z0 hq260) (lenOf pd_52681284 rfl) (by decide) (by decide) (by decide) (by decide) rfl (W := 0) (Nat.le_of_eq rfl) (by decide) at_90 rfl fun r306 T307 Lc308 X309 hQ310 => ?_
            obtain ⟨rfl, Nq311, eh312⟩ := hQ310
            have N313 := Fr.app N0 Nq311
            show Goes _ _ _ _ _ _ 93 _ [(.int (3 : Int32))]
            refine g_istore 95 rfl C X309 (3 : Int32) rfl #[.val (.int p0), .val (.int p1), .val (.int v1), .val (.int v2), .val (.int v157), .val (.int (3 : Int32)), .unset, .unset] at_93 rfl ?_
            refine g_iload 97 rfl C X309 at_95 rfl ?_
            refine g_iconst 98 rfl C X309 (1 : Int32) at_97 rfl ?_
            refine g_icmp_lt_f 101 rfl C X309 at_98 (by decide) ?_
            refine g_iload 103 rfl C X309 at_101 rfl ?_
            refine g_iconst 104 rfl C X309 (4 : Int32) at_103 rfl ?_
            refine g_icmp_le_t 109 C X309 at_104 (by decide) (by decide) (by decide) ?_
            refine g_iconst 110 rfl C X309 (5 : Int32) at_109 rfl ?_
            refine g_newP 112 rfl C X309 5 (by decide) 5 (by decide) (by decide) rfl (hw _ (List.mem_of_getElem? (i := 5) rfl)) eh312 at_110 (by decide) (by decide) fun T314 h315 o316 g317 X318 e319 E320 B321 => ?_
            have gn322 : n0 ≤ o316 := by rw [g317]; exact Z0
            have Zs323 := Nat.le_trans Z0 E320.1
            refine g_astore 114 rfl C X318 #[.val (.int p0), .val (.int p1), .val (.int v1), .val (.int v2), .val (.int v157), .val (.int (3 : Int32)), .val (.ref o316), .unset] at_112 rfl rfl ?_
            refine g_iload 116 rfl C X318 at_114 rfl ?_
            refine g_aload 118 rfl C X318 at_116 rfl rfl ?_
            refine g_iconst 119 rfl C X318 (0 : Int32) at_118 rfl ?_
            refine g_callS 122 rfl C X318 (argsL := [(.int v157), (.ref o316), (.int (0 : Int32))]) (hw _ (List.mem_of_getElem? (i := 6) rfl)) (hw _ (List.mem_of_getElem? (i := 7) rfl)) (hw _ (List.mem_of_getElem? (i := 8) rfl)) (hw _ (List.mem_of_getElem? (i := 3) rfl)) e319 (rm2_3 l Z a0 hw [] v157 o316 (fun _ => 0) h315 n0 Zs323 B321 hq260 gn322) (lenOf pd_30946467 rfl) (by decide) (by decide) (by decide) (by decide) rfl (W := 0) (Nat.le_of_eq rfl) (by decide) at_119 rfl fun r324 T325 Lc326 X327 hQ328 => ?_
            obtain ⟨f329, rfl, hs330, hk331, Nq332, Kc333, B334⟩ := hQ328
            have Zs335 := Nat.le_trans Zs323 Kc333.1
            have N336 := Fr.app N313 Nq332
            show Goes _ _ _ _ _ _ 122 _ []
            refine g_aload 124 rfl C X327 at_122 rfl rfl ?_
            refine g_iconst 125 rfl C X327 (0 : Int32) at_124 rfl ?_
            refine g_iconst 126 rfl C X327 (5 : Int32) at_125 rfl ?_
            have hq337 : -128 ≤ (f329 0).toInt ∧ (f329 0).toInt < 128 := by
              have hz := hs330.1
              have hz1 := hq260
              clear hs330 hq283
              omega
            have hq338 : -128 ≤ (f329 1).toInt ∧ (f329 1).toInt < 128 := by
              have hz := hs330.2.1
              have hz1 := hq260
              clear hs330 hq283
              omega
            have hq339 : -128 ≤ (f329 2).toInt ∧ (f329 2).toInt < 128 := by
              have hz := hs330.2.2
              have hz1 := hq260
              clear hs330 hq283
              omega
            refine g_callS 129 rfl C X327 (argsL := [(.ref o316), (.int (0 : Int32)), (.int (5 : Int32))]) (hw _ (List.mem_of_getElem? (i := 10) rfl)) (hw _ (List.mem_of_getElem? (i := 11) rfl)) (hw _ (List.mem_of_getElem? (i := 12) rfl)) (hw _ (List.mem_of_getElem? (i := 3) rfl)) rfl (rm3_3 l Z a0 hw [] o316 f329 (f329 0) (f329 1) (f329 2) (T325.heap) n0 Zs335 B334 rfl rfl rfl hq337 hq338 hq339 (own_s3 hs330.1 hs330.2.1 hs330.2.2 hq260.1 hq260.2 hq283)) (lenOf pd_14998784 rfl) (by decide) (by decide) (by decide) (by decide) rfl (W := 0) (Nat.le_of_eq rfl) (by decide) at_126 rfl fun r340 T341 Lc342 X343 hQ344 => ?_
            obtain ⟨rfl, Nq345, eh346⟩ := hQ344
            have N347 := Fr.app N336 Nq345
            show Goes _ _ _ _ _ _ 129 _ [(.int (3 : Int32))]
            refine g_istore 131 rfl C X343 (3 : Int32) rfl #[.val (.int p0), .val (.int p1), .val (.int v1), .val (.int v2), .val (.int v157), .val (.int (3 : Int32)), .val (.ref o316), .val (.int (3 : Int32))] at_129 rfl ?_
            refine g_iload 133 rfl C X343 at_131 rfl ?_
            refine g_iload 135 rfl C X343 at_133 rfl ?_
            refine g_icmp_ne_f 138 rfl C X343 at_135 (by decide) ?_
            refine g_aload 140 rfl C X343 at_138 rfl rfl ?_
            refine g_iconst 141 rfl C X343 (0 : Int32) at_140 rfl ?_
            refine g_iload 143 rfl C X343 at_141 rfl ?_
            refine g_callS 146 rfl C X343 (argsL := [(.ref o316), (.int (0 : Int32)), (.int (3 : Int32))]) (hw _ (List.mem_of_getElem? (i := 13) rfl)) (hw _ (List.mem_of_getElem? (i := 14) rfl)) (hw _ (List.mem_of_getElem? (i := 15) rfl)) (hw _ (List.mem_of_getElem? (i := 3) rfl)) eh346 (rm4_3 l Z a0 hw [] o316 f329 (f329 0) (f329 1) (f329 2) (T325.heap) n0 Zs335 B334 rfl rfl rfl) (lenOf pd_14998784 rfl) (by decide) (by decide) (by decide) (by decide) rfl (W := 0) (Nat.le_of_eq rfl) (by decide) at_143 rfl fun r348 T349 Lc350 X351 hQ352 => ?_
            obtain ⟨r353, rfl, hs354, Nq355, eh356⟩ := hQ352
            have N357 := Fr.app N347 Nq355
            show Goes _ _ _ _ _ _ 146 _ [(.int r353)]
            refine g_iload 148 rfl C X351 at_146 rfl ?_
            have hb358 : r353.toInt = v157.toInt := hs354.trans (own_c3 hs330.1 hs330.2.1 hs330.2.2 hq260.1 hq260.2)
            refine g_icmp_ne_f 151 rfl C X351 at_148 hb358 ?_
            refine g_aload 153 rfl C X351 at_151 rfl rfl ?_
            refine g_iload 155 rfl C X351 at_153 rfl ?_
            refine g_baload 156 rfl C X351 eh356 B334 3 (by decide) (by decide) (f329 3) rfl at_155 ?_
            have hq360 : (f329 3).toInt = 0 := by
              have hk0 : (f329 3).toInt = (0 : Int32).toInt := hk331 3 (by decide)
              have hz : ((0 : Int32)).toInt = 0 := rfl
              have fr361 := rng32 (f329 3)
              omega
            refine g_if_ne_f 159 rfl C X351 at_156 hq360 ?_
            refine g_iconst 160 rfl C X351 (1 : Int32) at_159 rfl ?_
            refine g_goto 164 C X351 at_160 (by decide) (by decide) ?_
            exact g_retN C X351 (z' := (1 : Int32)) rfl (Or.inl rfl) at_164 eh356 (by decide) (by decide) rfl ⟨rfl, N357⟩
          · skip
            refine g_icmp_gt_f 70 rfl C X0 at_67 hb259 ?_
            obtain ⟨v362, hv362⟩ : ∃ z : Int32, (v157 + (-2048 : Int32)) = z := ⟨_, rfl⟩
            refine g_iincW 76 rfl C X0 (-2048 : Int32) v362 #[.val (.int p0), .val (.int p1), .val (.int v1), .val (.int v2), .val (.int v362), .unset, .unset, .unset] at_70 rfl rfl hv362 rfl ?_
            refine g_goto 88 C X0 at_76 (by decide) (by decide) ?_
            refine g_iload 90 rfl C X0 at_88 rfl ?_
            have hq363 : 55296 ≤ v157.toInt := by
              have fc364 : (55296 : Int32).toInt = 55296 := rfl
              omega
            have hq365 : v157.toInt ≤ 57343 := by
              have fc366 : (57343 : Int32).toInt = 57343 := rfl
              omega
            have hm367 := own_m2048 hv362 hq363 hq365
            have hq368 : 2048 ≤ v362.toInt ∧ v362.toInt < 65536 := by
              clear hv362
              omega
            have hq369 : v362.toInt < 55296 ∨ 57343 < v362.toInt := by
              clear hv362
              omega
            refine g_callS 93 rfl C X0 (argsL := [(.int v362)]) (hw _ (List.mem_of_getElem? (i := 1) rfl)) (hw _ (List.mem_of_getElem? (i := 2) rfl)) (hw _ (List.mem_of_getElem? (i := 4) rfl)) (hw _ (List.mem_of_getElem? (i := 3) rfl)) e0 (rm1_3 l Z a0 hw [] v362 h0 n0 Z0 hq368) (lenOf pd_52681284 rfl) (by decide) (by decide) (by decide) (by decide) rfl (W := 0) (Nat.le_of_eq rfl) (by decide) at_90 rfl fun r370 T371 Lc372 X373 hQ374 => ?_
            obtain ⟨rfl, Nq375, eh376⟩ := hQ374
            have N377 := Fr.app N0 Nq375
            show Goes _ _ _ _ _ _ 93 _ [(.int (3 : Int32))]
            refine g_istore 95 rfl C X373 (3 : Int32) rfl #[.val (.int p0), .val (.int p1), .val (.int v1), .val (.int v2), .val (.int v362), .val (.int (3 : Int32)), .unset, .unset] at_93 rfl ?_
            refine g_iload 97 rfl C X373 at_95 rfl ?_
            refine g_iconst 98 rfl C X373 (1 : Int32) at_97 rfl ?_
            refine g_icmp_lt_f 101 rfl C X373 at_98 (by decide) ?_
            refine g_iload 103 rfl C X373 at_101 rfl ?_
            refine g_iconst 104 rfl C X373 (4 : Int32) at_103 rfl ?_
            refine g_icmp_le_t 109 C X373 at_104 (by decide) (by decide) (by decide) ?_
            refine g_iconst 110 rfl C X373 (5 : Int32) at_109 rfl ?_
            refine g_newP 112 rfl C X373 5 (by decide) 5 (by decide) (by decide) rfl (hw _ (List.mem_of_getElem? (i := 5) rfl)) eh376 at_110 (by decide) (by decide) fun T378 h379 o380 g381 X382 e383 E384 B385 => ?_
            have gn386 : n0 ≤ o380 := by rw [g381]; exact Z0
            have Zs387 := Nat.le_trans Z0 E384.1
            refine g_astore 114 rfl C X382 #[.val (.int p0), .val (.int p1), .val (.int v1), .val (.int v2), .val (.int v362), .val (.int (3 : Int32)), .val (.ref o380), .unset] at_112 rfl rfl ?_
            refine g_iload 116 rfl C X382 at_114 rfl ?_
            refine g_aload 118 rfl C X382 at_116 rfl rfl ?_
            refine g_iconst 119 rfl C X382 (0 : Int32) at_118 rfl ?_
            refine g_callS 122 rfl C X382 (argsL := [(.int v362), (.ref o380), (.int (0 : Int32))]) (hw _ (List.mem_of_getElem? (i := 6) rfl)) (hw _ (List.mem_of_getElem? (i := 7) rfl)) (hw _ (List.mem_of_getElem? (i := 8) rfl)) (hw _ (List.mem_of_getElem? (i := 3) rfl)) e383 (rm2_3 l Z a0 hw [] v362 o380 (fun _ => 0) h379 n0 Zs387 B385 hq368 gn386) (lenOf pd_30946467 rfl) (by decide) (by decide) (by decide) (by decide) rfl (W := 0) (Nat.le_of_eq rfl) (by decide) at_119 rfl fun r388 T389 Lc390 X391 hQ392 => ?_
            obtain ⟨f393, rfl, hs394, hk395, Nq396, Kc397, B398⟩ := hQ392
            have Zs399 := Nat.le_trans Zs387 Kc397.1
            have N400 := Fr.app N377 Nq396
            show Goes _ _ _ _ _ _ 122 _ []
            refine g_aload 124 rfl C X391 at_122 rfl rfl ?_
            refine g_iconst 125 rfl C X391 (0 : Int32) at_124 rfl ?_
            refine g_iconst 126 rfl C X391 (5 : Int32) at_125 rfl ?_
            have hq401 : -128 ≤ (f393 0).toInt ∧ (f393 0).toInt < 128 := by
              have hz := hs394.1
              have hz1 := hq368
              clear hs394 hq369
              omega
            have hq402 : -128 ≤ (f393 1).toInt ∧ (f393 1).toInt < 128 := by
              have hz := hs394.2.1
              have hz1 := hq368
              clear hs394 hq369
              omega
            have hq403 : -128 ≤ (f393 2).toInt ∧ (f393 2).toInt < 128 := by
              have hz := hs394.2.2
              have hz1 := hq368
              clear hs394 hq369
              omega
            refine g_callS 129 rfl C X391 (argsL := [(.ref o380), (.int (0 : Int32)), (.int (5 : Int32))]) (hw _ (List.mem_of_getElem? (i := 10) rfl)) (hw _ (List.mem_of_getElem? (i := 11) rfl)) (hw _ (List.mem_of_getElem? (i := 12) rfl)) (hw _ (List.mem_of_getElem? (i := 3) rfl)) rfl (rm3_3 l Z a0 hw [] o380 f393 (f393 0) (f393 1) (f393 2) (T389.heap) n0 Zs399 B398 rfl rfl rfl hq401 hq402 hq403 (own_s3 hs394.1 hs394.2.1 hs394.2.2 hq368.1 hq368.2 hq369)) (lenOf pd_14998784 rfl) (by decide) (by decide) (by decide) (by decide) rfl (W := 0) (Nat.le_of_eq rfl) (by decide) at_126 rfl fun r404 T405 Lc406 X407 hQ408 => ?_
            obtain ⟨rfl, Nq409, eh410⟩ := hQ408
            have N411 := Fr.app N400 Nq409
            show Goes _ _ _ _ _ _ 129 _ [(.int (3 : Int32))]
            refine g_istore 131 rfl C X407 (3 : Int32) rfl #[.val (.int p0), .val (.int p1), .val (.int v1), .val (.int v2), .val (.int v362), .val (.int (3 : Int32)), .val (.ref o380), .val (.int (3 : Int32))] at_129 rfl ?_
            refine g_iload 133 rfl C X407 at_131 rfl ?_
            refine g_iload 135 rfl C X407 at_133 rfl ?_
            refine g_icmp_ne_f 138 rfl C X407 at_135 (by decide) ?_
            refine g_aload 140 rfl C X407 at_138 rfl rfl ?_
            refine g_iconst 141 rfl C X407 (0 : Int32) at_140 rfl ?_
            refine g_iload 143 rfl C X407 at_141 rfl ?_
            refine g_callS 146 rfl C X407 (argsL := [(.ref o380), (.int (0 : Int32)), (.int (3 : Int32))]) (hw _ (List.mem_of_getElem? (i := 13) rfl)) (hw _ (List.mem_of_getElem? (i := 14) rfl)) (hw _ (List.mem_of_getElem? (i := 15) rfl)) (hw _ (List.mem_of_getElem? (i := 3) rfl)) eh410 (rm4_3 l Z a0 hw [] o380 f393 (f393 0) (f393 1) (f393 2) (T389.heap) n0 Zs399 B398 rfl rfl rfl) (lenOf pd_14998784 rfl) (by decide) (by decide) (by decide) (by decide) rfl (W := 0) (Nat.le_of_eq rfl) (by decide) at_143 rfl fun r412 T413 Lc414 X415 hQ416 => ?_
            obtain ⟨r417, rfl, hs418, Nq419, eh420⟩ := hQ416
            have N421 := Fr.app N411 Nq419
            show Goes _ _ _ _ _ _ 146 _ [(.int r417)]
            refine g_iload 148 rfl C X415 at_146 rfl ?_
            have hb422 : r417.toInt = v362.toInt := hs418.trans (own_c3 hs394.1 hs394.2.1 hs394.2.2 hq368.1 hq368.2)
            refine g_icmp_ne_f 151 rfl C X415 at_148 hb422 ?_
            refine g_aload 153 rfl C X415 at_151 rfl rfl ?_
            refine g_iload 155 rfl C X415 at_153 rfl ?_
            refine g_baload 156 rfl C X415 eh420 B398 3 (by decide) (by decide) (f393 3) rfl at_155 ?_
            have hq424 : (f393 3).toInt = 0 := by
              have hk0 : (f393 3).toInt = (0 : Int32).toInt := hk395 3 (by decide)
              have hz : ((0 : Int32)).toInt = 0 := rfl
              have fr425 := rng32 (f393 3)
              omega
            refine g_if_ne_f 159 rfl C X415 at_156 hq424 ?_
            refine g_iconst 160 rfl C X415 (1 : Int32) at_159 rfl ?_
            refine g_goto 164 C X415 at_160 (by decide) (by decide) ?_
            exact g_retN C X415 (z' := (1 : Int32)) rfl (Or.inl rfl) at_164 eh420 (by decide) (by decide) rfl ⟨rfl, N421⟩
      · skip
        refine g_icmp_ne_t 79 C X0 at_43 (by decide) (by decide) hb156 ?_
        refine g_ldc 81 rfl C X0 (hw _ (List.mem_of_getElem? (i := 20) rfl)) at_79 ?_
        refine g_iloadN 82 rfl C X0 at_81 rfl ?_
        refine g_ldc 84 rfl C X0 (hw _ (List.mem_of_getElem? (i := 21) rfl)) at_82 ?_
        refine g_irem 85 rfl C X0 at_84 (by decide) ?_
        refine g_iadd 86 rfl C X0 at_85 ?_
        obtain ⟨v426, hv426⟩ : ∃ z : Int32, ((65536 : Int32) + (v2 % (1048576 : Int32))) = z := ⟨_, rfl⟩
        refine g_istore 88 rfl C X0 v426 hv426 #[.val (.int p0), .val (.int p1), .val (.int v1), .val (.int v2), .val (.int v426), .unset, .unset, .unset] at_86 rfl ?_
        refine g_iload 90 rfl C X0 at_88 rfl ?_
        have hq427 : 65536 ≤ v426.toInt ∧ v426.toInt < 1114112 := by
          have fr428 := rng32 v1
          have fr429 := rng32 p0
          have fc430 : (3 : Int32).toInt = 3 := rfl
          have fo431 : (p0 &&& (3 : Int32)).toInt = p0.toInt % 4 := c_mask p0 (3 : Int32) 2 (by decide) (by decide)
          have fe432 : (p0 &&& (3 : Int32)).toInt = v1.toInt := congrArg Int32.toInt hv1
          have fc433 : (1 : Int32).toInt = 1 := rfl
          have fc434 : (2 : Int32).toInt = 2 := rfl
          have fr435 := rng32 v426
          have fc436 : (65536 : Int32).toInt = 65536 := rfl
          have fr437 := rng32 v2
          have fr438 := rng32 p1
          have fc439 : (2147483647 : Int32).toInt = 2147483647 := rfl
          have fo440 : (p1 &&& (2147483647 : Int32)).toInt = p1.toInt % 2147483648 := c_mask p1 (2147483647 : Int32) 31 (by decide) (by decide)
          have fe441 : (p1 &&& (2147483647 : Int32)).toInt = v2.toInt := congrArg Int32.toInt hv2
          have fc442 : (1048576 : Int32).toInt = 1048576 := rfl
          have fo443 := c_irem v2 (1048576 : Int32) 1048576 rfl
          have fr444 := rng32 (v2 % (1048576 : Int32))
          have fo445 := c_iadd (65536 : Int32) (v2 % (1048576 : Int32))
          have fr446 := rng32 ((65536 : Int32) + (v2 % (1048576 : Int32)))
          have fe447 : ((65536 : Int32) + (v2 % (1048576 : Int32))).toInt = v426.toInt := congrArg Int32.toInt hv426
          omega
        refine g_callS 93 rfl C X0 (argsL := [(.int v426)]) (hw _ (List.mem_of_getElem? (i := 1) rfl)) (hw _ (List.mem_of_getElem? (i := 2) rfl)) (hw _ (List.mem_of_getElem? (i := 4) rfl)) (hw _ (List.mem_of_getElem? (i := 3) rfl)) e0 (rm1_4 l Z a0 hw [] v426 h0 n0 Z0 hq427) (lenOf pd_52681284 rfl) (by decide) (by decide) (by decide) (by decide) rfl (W := 0) (Nat.le_of_eq rfl) (by decide) at_90 rfl fun r448 T449 Lc450 X451 hQ452 => ?_
        obtain ⟨rfl, Nq453, eh454⟩ := hQ452
        have N455 := Fr.app N0 Nq453
        show Goes _ _ _ _ _ _ 93 _ [(.int (4 : Int32))]
        refine g_istore 95 rfl C X451 (4 : Int32) rfl #[.val (.int p0), .val (.int p1), .val (.int v1), .val (.int v2), .val (.int v426), .val (.int (4 : Int32)), .unset, .unset] at_93 rfl ?_
        refine g_iload 97 rfl C X451 at_95 rfl ?_
        refine g_iconst 98 rfl C X451 (1 : Int32) at_97 rfl ?_
        refine g_icmp_lt_f 101 rfl C X451 at_98 (by decide) ?_
        refine g_iload 103 rfl C X451 at_101 rfl ?_
        refine g_iconst 104 rfl C X451 (4 : Int32) at_103 rfl ?_
        refine g_icmp_le_t 109 C X451 at_104 (by decide) (by decide) (by decide) ?_
        refine g_iconst 110 rfl C X451 (5 : Int32) at_109 rfl ?_
        refine g_newP 112 rfl C X451 5 (by decide) 5 (by decide) (by decide) rfl (hw _ (List.mem_of_getElem? (i := 5) rfl)) eh454 at_110 (by decide) (by decide) fun T456 h457 o458 g459 X460 e461 E462 B463 => ?_
        have gn464 : n0 ≤ o458 := by rw [g459]; exact Z0
        have Zs465 := Nat.le_trans Z0 E462.1
        refine g_astore 114 rfl C X460 #[.val (.int p0), .val (.int p1), .val (.int v1), .val (.int v2), .val (.int v426), .val (.int (4 : Int32)), .val (.ref o458), .unset] at_112 rfl rfl ?_
        refine g_iload 116 rfl C X460 at_114 rfl ?_
        refine g_aload 118 rfl C X460 at_116 rfl rfl ?_
        refine g_iconst 119 rfl C X460 (0 : Int32) at_118 rfl ?_
        refine g_callS 122 rfl C X460 (argsL := [(.int v426), (.ref o458), (.int (0 : Int32))]) (hw _ (List.mem_of_getElem? (i := 6) rfl)) (hw _ (List.mem_of_getElem? (i := 7) rfl)) (hw _ (List.mem_of_getElem? (i := 8) rfl)) (hw _ (List.mem_of_getElem? (i := 3) rfl)) e461 (rm2_4 l Z a0 hw [] v426 o458 (fun _ => 0) h457 n0 Zs465 B463 hq427 gn464) (lenOf pd_30946467 rfl) (by decide) (by decide) (by decide) (by decide) rfl (W := 0) (Nat.le_of_eq rfl) (by decide) at_119 rfl fun r466 T467 Lc468 X469 hQ470 => ?_
        obtain ⟨f471, rfl, hs472, hk473, Nq474, Kc475, B476⟩ := hQ470
        have Zs477 := Nat.le_trans Zs465 Kc475.1
        have N478 := Fr.app N455 Nq474
        show Goes _ _ _ _ _ _ 122 _ []
        refine g_aload 124 rfl C X469 at_122 rfl rfl ?_
        refine g_iconst 125 rfl C X469 (0 : Int32) at_124 rfl ?_
        refine g_iconst 126 rfl C X469 (5 : Int32) at_125 rfl ?_
        have hq479 : -128 ≤ (f471 0).toInt ∧ (f471 0).toInt < 128 := by
          have hz := hs472.1
          have hz1 := hq427
          clear hs472
          omega
        have hq480 : -128 ≤ (f471 1).toInt ∧ (f471 1).toInt < 128 := by
          have hz := hs472.2.1
          have hz1 := hq427
          clear hs472
          omega
        have hq481 : -128 ≤ (f471 2).toInt ∧ (f471 2).toInt < 128 := by
          have hz := hs472.2.2.1
          have hz1 := hq427
          clear hs472
          omega
        have hq482 : -128 ≤ (f471 3).toInt ∧ (f471 3).toInt < 128 := by
          have hz := hs472.2.2.2
          have hz1 := hq427
          clear hs472
          omega
        refine g_callS 129 rfl C X469 (argsL := [(.ref o458), (.int (0 : Int32)), (.int (5 : Int32))]) (hw _ (List.mem_of_getElem? (i := 10) rfl)) (hw _ (List.mem_of_getElem? (i := 11) rfl)) (hw _ (List.mem_of_getElem? (i := 12) rfl)) (hw _ (List.mem_of_getElem? (i := 3) rfl)) rfl (rm3_4 l Z a0 hw [] o458 f471 (f471 0) (f471 1) (f471 2) (f471 3) (T467.heap) n0 Zs477 B476 rfl rfl rfl rfl hq479 hq480 hq481 hq482 (own_s4 hs472.1 hs472.2.1 hs472.2.2.1 hs472.2.2.2 hq427.1 hq427.2)) (lenOf pd_14998784 rfl) (by decide) (by decide) (by decide) (by decide) rfl (W := 0) (Nat.le_of_eq rfl) (by decide) at_126 rfl fun r483 T484 Lc485 X486 hQ487 => ?_
        obtain ⟨rfl, Nq488, eh489⟩ := hQ487
        have N490 := Fr.app N478 Nq488
        show Goes _ _ _ _ _ _ 129 _ [(.int (4 : Int32))]
        refine g_istore 131 rfl C X486 (4 : Int32) rfl #[.val (.int p0), .val (.int p1), .val (.int v1), .val (.int v2), .val (.int v426), .val (.int (4 : Int32)), .val (.ref o458), .val (.int (4 : Int32))] at_129 rfl ?_
        refine g_iload 133 rfl C X486 at_131 rfl ?_
        refine g_iload 135 rfl C X486 at_133 rfl ?_
        refine g_icmp_ne_f 138 rfl C X486 at_135 (by decide) ?_
        refine g_aload 140 rfl C X486 at_138 rfl rfl ?_
        refine g_iconst 141 rfl C X486 (0 : Int32) at_140 rfl ?_
        refine g_iload 143 rfl C X486 at_141 rfl ?_
        refine g_callS 146 rfl C X486 (argsL := [(.ref o458), (.int (0 : Int32)), (.int (4 : Int32))]) (hw _ (List.mem_of_getElem? (i := 13) rfl)) (hw _ (List.mem_of_getElem? (i := 14) rfl)) (hw _ (List.mem_of_getElem? (i := 15) rfl)) (hw _ (List.mem_of_getElem? (i := 3) rfl)) eh489 (rm4_4 l Z a0 hw [] o458 f471 (f471 0) (f471 1) (f471 2) (f471 3) (T467.heap) n0 Zs477 B476 rfl rfl rfl rfl) (lenOf pd_14998784 rfl) (by decide) (by decide) (by decide) (by decide) rfl (W := 0) (Nat.le_of_eq rfl) (by decide) at_143 rfl fun r491 T492 Lc493 X494 hQ495 => ?_
        obtain ⟨r496, rfl, hs497, Nq498, eh499⟩ := hQ495
        have N500 := Fr.app N490 Nq498
        show Goes _ _ _ _ _ _ 146 _ [(.int r496)]
        refine g_iload 148 rfl C X494 at_146 rfl ?_
        have hb501 : r496.toInt = v426.toInt := hs497.trans (own_c4 hs472.1 hs472.2.1 hs472.2.2.1 hs472.2.2.2 hq427.1 hq427.2)
        refine g_icmp_ne_f 151 rfl C X494 at_148 hb501 ?_
        refine g_aload 153 rfl C X494 at_151 rfl rfl ?_
        refine g_iload 155 rfl C X494 at_153 rfl ?_
        refine g_baload 156 rfl C X494 eh499 B476 4 (by decide) (by decide) (f471 4) rfl at_155 ?_
        have hq503 : (f471 4).toInt = 0 := by
          have hk0 : (f471 4).toInt = (0 : Int32).toInt := hk473 4 (by decide)
          have hz : ((0 : Int32)).toInt = 0 := rfl
          have fr504 := rng32 (f471 4)
          omega
        refine g_if_ne_f 159 rfl C X494 at_156 hq503 ?_
        refine g_iconst 160 rfl C X494 (1 : Int32) at_159 rfl ?_
        refine g_goto 164 C X494 at_160 (by decide) (by decide) ?_
        exact g_retN C X494 (z' := (1 : Int32)) rfl (Or.inl rfl) at_164 eh499 (by decide) (by decide) rfl ⟨rfl, N500⟩
set_option maxRecDepth 65536 in
set_option maxHeartbeats 40000000 in
theorem comes_1 {Post : Tables → Env → Array Value → State → Outcome → State → Prop} (hpost : ∀ tb e args s v u, (limb_1_1.after args s (.returned v) u = true ∧ limb_1_2.after args s (.returned v) u = true ∧ True) → FrameEnd s (.returned v) u (Jvm.fieldLocs frame_1_writes args s ++ Jvm.arrayLocs frame_1_arrays args s ++ Jvm.staticLocs frame_1_statics s) 16 128 → Post tb e args s (.returned v) u) :
    ArmFor flags0 classFile x code maxLocals ret World_1 tables_1 room_1 Calls_1 rest_1 Pre_1 Post := by
  intro l hfl _ _ p e ha hc hk s m args below hf hA hF happ hP
  obtain ⟨hcalls, hrest, hpre⟩ := hP
  obtain ⟨-, -, -, hnamed, -, -, -, hat⟩ := (Spec.applies_iff hf).mp happ
  obtain ⟨hg, hn⟩ := and_e (Cond.before_iff.mp (show (Jvm.Cond.and given_1 narrow_1).before args s = true from hpre))
  obtain ⟨g1, g2⟩ := and_e hg
  obtain ⟨g3, g4⟩ := and_e g2
  obtain ⟨w0, w1, rfl⟩ : ∃ w0 w1 : Value, args = #[w0, w1] := by
    have hs : args.size = 2 := by simpa [Cond.value, given_1] using g1
    obtain ⟨L⟩ := args
    match L, hs with
    | [w0, w1], _ => exact ⟨w0, w1, rfl⟩
  have hw := fun d (hd : d ∈ tables_1) => atoms_spec (ws := Jvm.Cond.code x code maxLocals ret :: tables_1) hat d (List.mem_cons_of_mem _ hd)
  obtain ⟨i0, ei0⟩ := is_v g3
  obtain rfl : w0 = (.int i0) := Option.some.inj ei0
  obtain ⟨i1, ei1⟩ := is_v g4
  obtain rfl : w1 = (.int i1) := Option.some.inj ei1
  obtain ⟨n, o, h1, h2, h3, _, L, rfl, ⟨rfl, N⟩, hq⟩ := rm0 l s _ hw tables_1 i0 i1 s.heap s.heap.size (Nat.le_refl _) p e ha hc hk s m _ below hf ((Spec.applies_iff_loose hf).mp happ).1 ⟨rfl, State.Warmed39.refl s, rfl⟩ trivial
  refine ⟨n, _, h1, h2, h3, hpost _ _ _ _ _ _ ⟨Cond.after_iff.mpr rfl, Cond.after_iff.mpr (eq_i res_at (Term.int_eval (1)) rfl), trivial⟩ ⟨hq.1, hq.2.1, (hq.2.2.sift fun y hy => Or.inr (N y hy)).mono (by decide) (by decide)⟩⟩
theorem main_1_1 : Claimed_1_1 := comes_1 fun _ _ _ _ _ _ h hF => ⟨h.1, hF⟩
theorem main_1_2 : Claimed_1_2 := comes_1 fun _ _ _ _ _ _ h hF => ⟨h.2.1, hF⟩
end Jvm.Pilot.@@N@@
namespace Jvm.Pilot.@@N@@
open Jvm Jvm.ClassFile Sem Op Lib Jvm.Free Jvm.Stand Jvm.Pilot.@@N@@.Jvm.D
/-! MADE BY PROGRAM (witnessworld.py) out of the Statement's table words and the real class files: 9 classes; the members and pool entries that the words name. The judged class is class 1, her method 1. -/
namespace start1
open Jvm.ClassFile
def u (s : String) : CpInfo := .utf8 (stringToUtf16 s)
/-- a pool by its gaps: so many unusable entries, then the entry; so many at the end -/
def gap : Nat → List CpInfo → List CpInfo
  | 0, r => r
  | n + 1, r => .unusable :: gap n r
def poolList (es : List (Nat × CpInfo)) (last : Nat) : List CpInfo := es.foldr (fun e r => gap e.1 (e.2 :: r)) (gap last [])
def pool (es : List (Nat × CpInfo)) (last : Nat) : Array CpInfo := ⟨poolList es last⟩
def fileOf (pool : Array CpInfo) (this : Nat) (attrs : Array Attribute := #[]) (ms : Array MethodInfo := #[]) (fl : Nat := 33) (sup : Nat := 0) (ifs : Array Nat := #[]) (fds : Array FieldInfo := #[]) : ClassFile where
  minorVersion := 0
  majorVersion := 65
  constantPool := pool
  accessFlags := fl
  thisClass := this
  superClass := sup
  interfaces := ifs
  fields := fds
  methods := ms
  attributes := attrs
def plain (name : String) (sup : Option ClassId) : Class where
  name := name
  kind := .ordinary
  loader := none
  accessFlags := 33
  super := sup
  interfaces := #[]
  cf := none
  fields := #[]
  methods := #[]
  instanceTypes := #[]
  staticTypes := #[]
  resolved := #[]
  callSites := []
  init := .initialized
  statics := none
  mirror := none

def pool0 : Array CpInfo := pool [(5, u "<init>"), (0, u "()V"), (1, .class_ 10), (1, u "java/lang/Object")] 113

def k0m0 : Method := { name := "<init>", desc := "()V", sig := { parameters := [], returnType := none }, accessFlags := 1, code := none }
/-- java/lang/Object -/
def k0 : Class := { plain "java/lang/Object" none with
  accessFlags := 33
  interfaces := #[]
  cf := some (fileOf pool0 8 #[] #[{ accessFlags := 1, nameIndex := 5, descriptorIndex := 6, attributes := #[] }] 33 0 #[] #[])
  fields := #[]
  methods := #[k0m0]
  instanceTypes := #[]
  staticTypes := #[]
  resolved := Array.replicate 124 none
  statics := none }

def pool1 : Array CpInfo := pool [(2, .class_ 4), (1, u "java/lang/Object"), (0, u "<init>"), (0, u "()V"), (0, .integer 2147483647), (0, .integer 63488), (0, .integer 55296), (0, .integer 57343), (0, .integer 65536), (0, .integer 1048576), (0, .methodref 14 15), (0, .class_ 16), (0, .nameAndType 17 18), (0, u "com/example/schedario/schedario/records/Utf8"), (0, u "length"), (0, u "(I)I"), (0, .methodref 14 20), (0, .nameAndType 21 22), (0, u "encode"), (0, u "(I[BI)V"), (0, .methodref 14 24), (0, .nameAndType 25 26), (0, u "sequence"), (0, u "([BII)I"), (0, .methodref 14 28), (0, .nameAndType 29 26), (0, u "codePoint"), (0, .class_ 31), (0, u "com/example/schedario/schedario/records/Utf8LengthPinLaw"), (2, u "law"), (0, u "(II)Z")] 5

def k1m0 : Method := { name := "<init>", desc := "()V", sig := { parameters := [], returnType := none }, accessFlags := 1, code := none }
def k1c1 : Code := { maxStack := 3, maxLocals := 8, code := code, exceptionTable := #[], attributes := #[] }
def k1m1 : Method := { name := "law", desc := "(II)Z", sig := { parameters := [.int, .int], returnType := some .boolean }, accessFlags := 9, code := some k1c1 }
/-- com/example/schedario/schedario/records/Utf8LengthPinLaw -/
def k1 : Class := { plain "com/example/schedario/schedario/records/Utf8LengthPinLaw" (some 0) with
  accessFlags := 49
  interfaces := #[]
  cf := some (fileOf pool1 30 #[] #[{ accessFlags := 1, nameIndex := 5, descriptorIndex := 6, attributes := #[] }, { accessFlags := 9, nameIndex := 34, descriptorIndex := 35, attributes := #[] }] 49 2 #[] #[])
  fields := #[]
  methods := #[k1m0, k1m1]
  instanceTypes := #[]
  staticTypes := #[]
  resolved := Array.replicate 41 none
  statics := none }

def pool2 : Array CpInfo := pool [(2, .class_ 4), (1, u "java/lang/Object"), (0, u "<init>"), (0, u "()V"), (1, .class_ 10), (1, u "com/example/schedario/schedario/records/Utf8"), (0, u "sequence"), (0, u "([BII)I"), (0, .integer 65536), (0, .methodref 8 15), (0, .nameAndType 16 17), (0, u "length"), (0, u "(I)I"), (0, .integer 65280), (7, u "codePoint"), (0, u "encode"), (0, u "(I[BI)V")] 2

def k2m0 : Method := { name := "<init>", desc := "()V", sig := { parameters := [], returnType := none }, accessFlags := 2, code := none }
def k2c1 : Code := { maxStack := 3, maxLocals := 9, code := prog_50_method_3_code, exceptionTable := #[], attributes := #[] }
def k2m1 : Method := { name := "sequence", desc := "([BII)I", sig := { parameters := [(.array .byte), .int, .int], returnType := some .int }, accessFlags := 8, code := some k2c1 }
def k2c2 : Code := { maxStack := 4, maxLocals := 5, code := prog_50_method_4_code, exceptionTable := #[], attributes := #[] }
def k2m2 : Method := { name := "codePoint", desc := "([BII)I", sig := { parameters := [(.array .byte), .int, .int], returnType := some .int }, accessFlags := 8, code := some k2c2 }
def k2c3 : Code := { maxStack := 2, maxLocals := 1, code := prog_50_method_5_code, exceptionTable := #[], attributes := #[] }
def k2m3 : Method := { name := "length", desc := "(I)I", sig := { parameters := [.int], returnType := some .int }, accessFlags := 8, code := some k2c3 }
def k2c4 : Code := { maxStack := 5, maxLocals := 5, code := prog_50_method_6_code, exceptionTable := #[], attributes := #[] }
def k2m4 : Method := { name := "encode", desc := "(I[BI)V", sig := { parameters := [.int, (.array .byte), .int], returnType := none }, accessFlags := 8, code := some k2c4 }
/-- com/example/schedario/schedario/records/Utf8 -/
def k2 : Class := { plain "com/example/schedario/schedario/records/Utf8" (some 0) with
  accessFlags := 48
  interfaces := #[]
  cf := some (fileOf pool2 8 #[] #[{ accessFlags := 2, nameIndex := 5, descriptorIndex := 6, attributes := #[] }, { accessFlags := 8, nameIndex := 11, descriptorIndex := 12, attributes := #[] }, { accessFlags := 8, nameIndex := 26, descriptorIndex := 12, attributes := #[] }, { accessFlags := 8, nameIndex := 16, descriptorIndex := 17, attributes := #[] }, { accessFlags := 8, nameIndex := 27, descriptorIndex := 28, attributes := #[] }] 48 2 #[] #[])
  fields := #[]
  methods := #[k2m0, k2m1, k2m2, k2m3, k2m4]
  instanceTypes := #[]
  staticTypes := #[]
  resolved := Array.replicate 31 none
  statics := none }

def pool3 : Array CpInfo := pool [(1, u "java/lang/Cloneable"), (0, .class_ 1), (0, u "java/lang/Object"), (0, .class_ 3)] 3

/-- java/lang/Cloneable -/
def k3 : Class := { plain "java/lang/Cloneable" (some 0) with
  accessFlags := 1537
  interfaces := #[]
  cf := some (fileOf pool3 2 #[] #[] 1537 4 #[] #[])
  fields := #[]
  methods := #[]
  instanceTypes := #[]
  staticTypes := #[]
  resolved := Array.replicate 8 none
  statics := none }

def pool4 : Array CpInfo := pool [(1, u "java/io/Serializable"), (0, .class_ 1), (0, u "java/lang/Object"), (0, .class_ 3)] 3

/-- java/io/Serializable -/
def k4 : Class := { plain "java/io/Serializable" (some 0) with
  accessFlags := 1537
  interfaces := #[]
  cf := some (fileOf pool4 2 #[] #[] 1537 4 #[] #[])
  fields := #[]
  methods := #[]
  instanceTypes := #[]
  staticTypes := #[]
  resolved := Array.replicate 8 none
  statics := none }

/-- the primitive byte -/
def k5 : Class := { plain "byte" none with kind := .primitive 'B', accessFlags := 0x411 }
/-- [B -/
def k6 : Class := { plain "[B" (some 0) with kind := .array 5 .byte, interfaces := #[3, 4], accessFlags := 1041 }

/-- the primitive int -/
def k7 : Class := { plain "int" none with kind := .primitive 'I', accessFlags := 0x411 }
/-- [I -/
def k8 : Class := { plain "[I" (some 0) with kind := .array 7 .int, interfaces := #[3, 4], accessFlags := 1041 }

def heap : Heap := #[]
def classes : Array Class := #[k0, k1, k2, k3, k4, k5, k6, k7, k8]
def interned : List (Array UInt16 × Addr) := []
def slotsUsed : Nat := 0
def theMethod : MethodId := ⟨1, 1⟩
def args0 : Array Value := #[.int 5, .int 7]
def aboutOver (below : List Frame) : State where
  vm := { classes := classes, interned := interned.toArray }
  heap := heap
  slotsUsed := slotsUsed
  threads := #[{ frames := .invoking theMethod args0 :: below }]
def below0 : List Frame := [.native { method := ⟨0, 0⟩, args := #[] }]
def about1 : State := aboutOver below0
def p0 : Program := .bare "" "" ""
def e0 : Env := launch0.env 0 0 0
theorem w_frames : about1.frames = Frame.invoking theMethod args0 :: below0 := rfl
set_option maxRecDepth 65536 in
theorem w_args : argsFit about1.vm theMethod args0 = true := by decide +kernel
set_option maxRecDepth 65536 in
theorem w_heap : heapFits about1 = true := by decide +kernel
set_option maxRecDepth 65536 in
theorem w_runnable : about1.curStatus? = some .runnable := by decide +kernel
set_option maxRecDepth 65536 in
theorem w_alone : about1.alone = true := by decide +kernel
set_option maxRecDepth 65536 in
theorem w_named : about1.methodNamed? x = some theMethod := by decide +kernel
set_option maxRecDepth 65536 in
theorem w_hears : about1.hears theMethod below0 = true := by decide +kernel
set_option maxRecDepth 65536 in
theorem w_ripe : about1.ripe theMethod args0 below0 = true := by decide +kernel
theorem w_running : about1.status = .running := rfl
set_option maxRecDepth 65536 in
theorem w_room : about1.hasRoom e0.platform room_1 = true :=
  launch0.hasRoom_least _ room_1 (by decide +kernel) (by decide +kernel) (by decide +kernel) (by decide +kernel) (by decide +kernel) (by decide +kernel)
theorem allAtoms_all (ts : List Jvm.Cond) (a : Array Jvm.Value) (st : Jvm.State) : (allAtoms ts).before a st = ts.all (fun c => c.before a st) := by
  induction ts with
  | nil => rfl
  | cons c t ih =>
    show (Jvm.Cond.and c (allAtoms t)).before a st = _
    rw [Jvm.Cond.before_and, ih, List.all_cons]
def words1 : List Jvm.Cond := Jvm.Cond.code x code maxLocals ret :: tables_1
/-- a 'code' word, met by the world's own term for the bytes: nothing is compared byte by byte -/
theorem code_word {y : MethodName} {bytes : ByteArray} {mx : Nat} {rt : Option FieldType} {a : Array Value} {s : State} {m : MethodId} {meth : Method} {c : Code} (h1 : s.methodNamed? y = some m) (h2 : s.vm.method? m = some meth) (h3 : meth.code = some c) (h4 : c.code = bytes)
    (h5 : (c.maxLocals == mx && c.exceptionTable.isEmpty && decide (c.maxStack ≤ mostOperands) && decide (meth.sig.returnType = rt) && !meth.locks && decide (parseMethodDescriptor y.desc = some meth.sig)) = true) : (Jvm.Cond.code y bytes mx rt).before a s = true := by
  simp only [Bool.and_eq_true, beq_iff_eq, Bool.not_eq_true', decide_eq_true_eq] at h5
  obtain ⟨⟨⟨⟨⟨g1, g2⟩, g3⟩, g4⟩, g5⟩, g6⟩ := h5
  simp [Cond.before, Cond.holds, Cond.value, h1, h2, h3, h4, g1, g2, g3, g4, g5, g6]
def isCode : Jvm.Cond → Bool
  | .code _ _ _ _ => true
  | _ => false
theorem all_split {L : List Jvm.Cond} {P : Jvm.Cond → Bool} (h1 : L.all (fun c => isCode c || P c) = true) (h2 : ∀ c ∈ L.filter isCode, P c = true) : L.all P = true := by
  refine List.all_eq_true.mpr fun c hc => ?_
  have h := List.all_eq_true.mp h1 c hc
  rcases Bool.eq_false_or_eq_true (isCode c) with hi | hi
  · exact h2 c (List.mem_filter.mpr ⟨hc, hi⟩)
  · simpa [hi] using h
set_option maxRecDepth 65536 in
theorem w_c0 : (Jvm.Cond.code x code maxLocals ret).before args0 about1 = true := code_word (m := ⟨1, 1⟩) (meth := k1m1) (c := k1c1) (by decide +kernel) rfl rfl rfl (by decide +kernel)
set_option maxRecDepth 65536 in
theorem w_c1 : (Jvm.Cond.code ({ cls := "com/example/schedario/schedario/records/Utf8", name := "length", desc := "(I)I" } : Jvm.MethodName) prog_50_method_5_code (1 : Nat) (Option.some Jvm.ClassFile.FieldType.int)).before args0 about1 = true := code_word (m := ⟨2, 3⟩) (meth := k2m3) (c := k2c3) (by decide +kernel) rfl rfl rfl (by decide +kernel)
set_option maxRecDepth 65536 in
theorem w_c2 : (Jvm.Cond.code ({ cls := "com/example/schedario/schedario/records/Utf8", name := "encode", desc := "(I[BI)V" } : Jvm.MethodName) prog_50_method_6_code (5 : Nat) (Option.none : Option Jvm.ClassFile.FieldType)).before args0 about1 = true := code_word (m := ⟨2, 4⟩) (meth := k2m4) (c := k2c4) (by decide +kernel) rfl rfl rfl (by decide +kernel)
set_option maxRecDepth 65536 in
theorem w_c3 : (Jvm.Cond.code ({ cls := "com/example/schedario/schedario/records/Utf8", name := "sequence", desc := "([BII)I" } : Jvm.MethodName) prog_50_method_3_code (9 : Nat) (Option.some Jvm.ClassFile.FieldType.int)).before args0 about1 = true := code_word (m := ⟨2, 1⟩) (meth := k2m1) (c := k2c1) (by decide +kernel) rfl rfl rfl (by decide +kernel)
set_option maxRecDepth 65536 in
theorem w_c4 : (Jvm.Cond.code ({ cls := "com/example/schedario/schedario/records/Utf8", name := "codePoint", desc := "([BII)I" } : Jvm.MethodName) prog_50_method_4_code (5 : Nat) (Option.some Jvm.ClassFile.FieldType.int)).before args0 about1 = true := code_word (m := ⟨2, 2⟩) (meth := k2m2) (c := k2c2) (by decide +kernel) rfl rfl rfl (by decide +kernel)
def codes1 : List Jvm.Cond := [Jvm.Cond.code x code maxLocals ret, Jvm.Cond.code ({ cls := "com/example/schedario/schedario/records/Utf8", name := "length", desc := "(I)I" } : Jvm.MethodName) prog_50_method_5_code (1 : Nat) (Option.some Jvm.ClassFile.FieldType.int), Jvm.Cond.code ({ cls := "com/example/schedario/schedario/records/Utf8", name := "encode", desc := "(I[BI)V" } : Jvm.MethodName) prog_50_method_6_code (5 : Nat) (Option.none : Option Jvm.ClassFile.FieldType), Jvm.Cond.code ({ cls := "com/example/schedario/schedario/records/Utf8", name := "sequence", desc := "([BII)I" } : Jvm.MethodName) prog_50_method_3_code (9 : Nat) (Option.some Jvm.ClassFile.FieldType.int), Jvm.Cond.code ({ cls := "com/example/schedario/schedario/records/Utf8", name := "codePoint", desc := "([BII)I" } : Jvm.MethodName) prog_50_method_4_code (5 : Nat) (Option.some Jvm.ClassFile.FieldType.int)]
set_option maxRecDepth 65536 in
theorem codes_eq : words1.filter isCode = codes1 := rfl
theorem w_codes : ∀ c ∈ words1.filter isCode, c.before args0 about1 = true := by
  rw [codes_eq]
  intro c hc
  simp only [codes1, List.mem_cons, List.not_mem_nil, or_false] at hc
  rcases hc with rfl | rfl | rfl | rfl | rfl
  · exact w_c0
  · exact w_c1
  · exact w_c2
  · exact w_c3
  · exact w_c4
set_option maxRecDepth 65536 in
theorem w_t1 : words1.all (fun c => isCode c || c.before args0 about1) = true := by decide +kernel
theorem w_tables : (allAtoms (Jvm.Cond.code x code maxLocals ret :: tables_1)).before args0 about1 = true := by
  rw [allAtoms_all]
  show words1.all (fun c => c.before args0 about1) = true
  refine all_split ?_ w_codes
  rw [w_t1]
set_option maxRecDepth 65536 in
theorem w_case : (Jvm.Cond.and given_1 narrow_1).before args0 about1 = true := by decide +kernel
theorem w_applies : (headSpec (Jvm.Cond.code x code maxLocals ret :: tables_1) room_1).applies x e0.platform about1 = true :=
  (Spec.applies_iff w_frames).mpr ⟨w_running, w_runnable, w_alone, w_named, w_hears, w_ripe, w_room, w_tables⟩
theorem atStart : AtStart classFile x code maxLocals ret World_1 tables_1 room_1 Calls_1 rest_1 Pre_1 launch0 p0 e0 about1 theMethod args0 below0 :=
  ⟨lists_1, trivial, launch0.admits_env _ _ _, launch0.least_env, fairChoices_fair.cas, fairChoices_fair.clock, w_frames, w_args, w_heap, w_applies, trivial, trivial, w_case⟩
end start1
theorem witness_1 : WitnessClaimed_1 := ⟨start1.p0, start1.e0, start1.about1, start1.theMethod, start1.args0, start1.below0, start1.atStart⟩
end Jvm.Pilot.@@N@@
