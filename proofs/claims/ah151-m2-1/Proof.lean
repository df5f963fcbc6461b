import JvmDerived
import JvmDerived.Pilot.@@N@@Statement
import JvmDerived.Pilot.@@N@@Code
set_option linter.unusedVariables false
set_option linter.unusedSimpArgs false
namespace Jvm.Pilot.@@N@@
open Jvm Jvm.ClassFile Sem Op Lib Jvm.Free Jvm.Stand Jvm.LawKit Jvm.RoadKit Bundle Jvm.Pilot.@@N@@.Jvm.D
section Own
set_option maxHeartbeats 4000000
variable {p : Program} {l : Launch} {e : Env} {R : Room} {s : State} {m : MethodId} {args : Array Value} {below : List Frame} {meth : Method} {c : Code} {T : State} {locs : List Loc} {cells slots : Nat} {Z : State} {a0 : Array Value} {h : Heap} {own nm : String} {bytes : ByteArray} {ml : Nat} {rt : Option FieldType} {Q : Option Value → Heap → List Loc → Prop} {CC SS : Nat} {E : Outcome → State → Prop} {pc : Nat} {Ls : Array Slot} {St : List Value}
def Ctx (p : Program) (s : State) (m : MethodId) (meth : Method) (c : Code) (Z : State) (own nm : String) (bytes : ByteArray) (ml : Nat) (rt : Option FieldType) : Prop :=
  p.tables.exec = Jvm.exec ∧ Z.Warmed39 s.vm ∧ c.code = bytes ∧ c.maxLocals = ml ∧ s.vm.findClass own = some m.cls ∧ meth.locks = false ∧ meth.sig.returnType = rt ∧ meth.name = nm
theorem Ctx.c_x (C : Ctx p s m meth c Z own nm bytes ml rt) : p.tables.exec = Jvm.exec := C.1
theorem Ctx.c_z (C : Ctx p s m meth c Z own nm bytes ml rt) : Z.Warmed39 s.vm := C.2.1
theorem Ctx.c_by (C : Ctx p s m meth c Z own nm bytes ml rt) : c.code = bytes := C.2.2.1
theorem Ctx.c_ml (C : Ctx p s m meth c Z own nm bytes ml rt) : c.maxLocals = ml := C.2.2.2.1
theorem Ctx.c_own (C : Ctx p s m meth c Z own nm bytes ml rt) : s.vm.findClass own = some m.cls := C.2.2.2.2.1
theorem Ctx.c_lk (C : Ctx p s m meth c Z own nm bytes ml rt) : meth.locks = false := C.2.2.2.2.2.1
theorem Ctx.c_rt (C : Ctx p s m meth c Z own nm bytes ml rt) : meth.sig.returnType = rt := C.2.2.2.2.2.2.1
theorem Ctx.c_nm (C : Ctx p s m meth c Z own nm bytes ml rt) : meth.name = nm := C.2.2.2.2.2.2.2
def EndN (s : State) (Q : Option Value → Heap → List Loc → Prop) (CC SS : Nat) (o : Outcome) (t : State) : Prop := ∃ v L, o = .returned v ∧ Q v t.heap L ∧ FrameEnd s o t L CC SS
def Goes (p : Program) (e : Env) (below : List Frame) (E : Outcome → State → Prop) (T : State) (m : MethodId) (pc : Nat) (Ls : Array Slot) (St : List Value) : Prop :=
  ∃ s₂ o, Steps p.tables e below (T.setTop (mkF m pc Ls St)) s₂ ∧ s₂.status = .running ∧ Ended s₂ below o ∧ E o s₂
theorem Goes.back {T' : State} {q : Nat} {Ls' : Array Slot} {St' : List Value} (k : Goes p e below E T' m q Ls' St') (f : ∀ t, Steps p.tables e below (T'.setTop (mkF m q Ls' St')) t → Steps p.tables e below (T.setTop (mkF m pc Ls St)) t) : Goes p e below E T m pc Ls St := by
  obtain ⟨s2, o, h1, h2⟩ := k
  exact ⟨s2, o, f _ h1, h2⟩
theorem Goes.enter {g : JFrame} (hg : g = mkF m 0 Ls []) (k : Goes p e below (EndN s Q CC SS) T m 0 Ls []) : ∃ s₂ o, Steps p.tables e below (T.setTop g) s₂ ∧ s₂.status = .running ∧ Ended s₂ below o ∧ ∃ v L, o = .returned v ∧ Q v s₂.heap L ∧ FrameEnd s o s₂ L CC SS := by
  subst hg
  exact k
theorem Ctx.of {x : MethodName} {S : Spec} {s₁ : State} (Bd : BodyLoose p l x S bytes ml rt e s m args below meth c s₁) (hml : c.maxLocals = ml) (hZ : Z.Warmed39 s.vm) : Ctx p s m meth c Z x.cls x.name bytes ml rt :=
  ⟨Bd.exec, hZ, Bd.bytes, hml, findClass_of_methodNamed Bd.named, Bd.notSynchronized, Bd.returns, (name_of_methodNamed Bd.named Bd.method).1⟩
theorem g_iadd (q : Nat) (hq : pc + 1 = q) (C : Ctx p s m meth c Z own nm bytes ml rt) (X : Stand p l e R s m args below meth c T locs cells slots) {x y : Int32} (hd : decode bytes pc = .ok (.iadd, 1)) (k : Goes p e below E T m q Ls (.int (x + y) :: St)) : Goes p e below E T m pc Ls (.int y :: .int x :: St) := by
  subst hq
  exact k.back fun t kt => XS.iadd (g := mkF m pc Ls (.int y :: .int x :: St)) X.here C.c_x rfl (hb C.c_by hd) rfl kt
theorem g_isub (q : Nat) (hq : pc + 1 = q) (C : Ctx p s m meth c Z own nm bytes ml rt) (X : Stand p l e R s m args below meth c T locs cells slots) {x y : Int32} (hd : decode bytes pc = .ok (.isub, 1)) (k : Goes p e below E T m q Ls (.int (x - y) :: St)) : Goes p e below E T m pc Ls (.int y :: .int x :: St) := by
  subst hq
  exact k.back fun t kt => XS.isub (g := mkF m pc Ls (.int y :: .int x :: St)) X.here C.c_x rfl (hb C.c_by hd) rfl kt
theorem g_imul (q : Nat) (hq : pc + 1 = q) (C : Ctx p s m meth c Z own nm bytes ml rt) (X : Stand p l e R s m args below meth c T locs cells slots) {x y : Int32} (hd : decode bytes pc = .ok (.imul, 1)) (k : Goes p e below E T m q Ls (.int (x * y) :: St)) : Goes p e below E T m pc Ls (.int y :: .int x :: St) := by
  subst hq
  exact k.back fun t kt => XS.imul (g := mkF m pc Ls (.int y :: .int x :: St)) X.here C.c_x rfl (hb C.c_by hd) rfl kt
theorem g_iand (q : Nat) (hq : pc + 1 = q) (C : Ctx p s m meth c Z own nm bytes ml rt) (X : Stand p l e R s m args below meth c T locs cells slots) {x y : Int32} (hd : decode bytes pc = .ok (.iand, 1)) (k : Goes p e below E T m q Ls (.int (x &&& y) :: St)) : Goes p e below E T m pc Ls (.int y :: .int x :: St) := by
  subst hq
  exact k.back fun t kt => XS.iand (g := mkF m pc Ls (.int y :: .int x :: St)) X.here C.c_x rfl (hb C.c_by hd) rfl kt
theorem g_ixor (q : Nat) (hq : pc + 1 = q) (C : Ctx p s m meth c Z own nm bytes ml rt) (X : Stand p l e R s m args below meth c T locs cells slots) {x y : Int32} (hd : decode bytes pc = .ok (.ixor, 1)) (k : Goes p e below E T m q Ls (.int (x ^^^ y) :: St)) : Goes p e below E T m pc Ls (.int y :: .int x :: St) := by
  subst hq
  exact k.back fun t kt => XS.ixor (g := mkF m pc Ls (.int y :: .int x :: St)) X.here C.c_x rfl (hb C.c_by hd) rfl kt
theorem g_land (q : Nat) (hq : pc + 1 = q) (C : Ctx p s m meth c Z own nm bytes ml rt) (X : Stand p l e R s m args below meth c T locs cells slots) {x y : Int64} (hd : decode bytes pc = .ok (.land, 1)) (k : Goes p e below E T m q Ls (.long (x &&& y) :: St)) : Goes p e below E T m pc Ls (.long y :: .long x :: St) := by
  subst hq
  exact k.back fun t kt => XS.land (g := mkF m pc Ls (.long y :: .long x :: St)) X.here C.c_x rfl (hb C.c_by hd) rfl kt
theorem g_idiv (q : Nat) (hq : pc + 1 = q) (C : Ctx p s m meth c Z own nm bytes ml rt) (X : Stand p l e R s m args below meth c T locs cells slots) {x y : Int32} (hd : decode bytes pc = .ok (.idiv, 1)) (hy : y ≠ 0) (k : Goes p e below E T m q Ls (.int (x / y) :: St)) : Goes p e below E T m pc Ls (.int y :: .int x :: St) := by
  subst hq
  exact k.back fun t kt => XS.idiv (g := mkF m pc Ls (.int y :: .int x :: St)) X.here C.c_x rfl (hb C.c_by hd) rfl hy kt
theorem g_iushr (q : Nat) (hq : pc + 1 = q) (C : Ctx p s m meth c Z own nm bytes ml rt) (X : Stand p l e R s m args below meth c T locs cells slots) {x y : Int32} (hd : decode bytes pc = .ok (.iushr, 1)) (k : Goes p e below E T m q Ls (.int ((x.toUInt32 >>> (y &&& 31).toUInt32).toInt32) :: St)) : Goes p e below E T m pc Ls (.int y :: .int x :: St) := by
  subst hq
  exact k.back fun t kt => XS.iushr (g := mkF m pc Ls (.int y :: .int x :: St)) X.here C.c_x rfl (hb C.c_by hd) rfl kt
theorem g_i2b (q : Nat) (hq : pc + 1 = q) (C : Ctx p s m meth c Z own nm bytes ml rt) (X : Stand p l e R s m args below meth c T locs cells slots) {x : Int32} (hd : decode bytes pc = .ok (.i2b, 1)) (k : Goes p e below E T m q Ls (.int (x.toInt8.toInt32) :: St)) : Goes p e below E T m pc Ls (.int x :: St) := by
  subst hq
  exact k.back fun t kt => XS.i2b (g := mkF m pc Ls (.int x :: St)) X.here C.c_x rfl (hb C.c_by hd) rfl kt
theorem g_lcmp (q : Nat) (hq : pc + 1 = q) (C : Ctx p s m meth c Z own nm bytes ml rt) (X : Stand p l e R s m args below meth c T locs cells slots) {x y : Int64} (hd : decode bytes pc = .ok (.lcmp, 1)) (k : Goes p e below E T m q Ls (.int (lcmpW x y) :: St)) : Goes p e below E T m pc Ls (.long y :: .long x :: St) := by
  subst hq
  exact k.back fun t kt => XS.lcmp (g := mkF m pc Ls (.long y :: .long x :: St)) X.here C.c_x rfl (hb C.c_by hd) rfl kt
theorem g_iconst (q : Nat) (hq : pc + 1 = q) (C : Ctx p s m meth c Z own nm bytes ml rt) (X : Stand p l e R s m args below meth c T locs cells slots) {i : Int} (v : Int32) (hd : decode bytes pc = .ok (.iconst i, 1)) (hv : Int32.ofInt i = v) (k : Goes p e below E T m q Ls (.int v :: St)) : Goes p e below E T m pc Ls St := by
  subst hq
  exact k.back fun t kt => XS.iconst (g := mkF m pc Ls St) X.here C.c_x rfl (hb C.c_by hd) (by subst hv; exact kt)
theorem g_bipush (q : Nat) (hq : pc + 2 = q) (C : Ctx p s m meth c Z own nm bytes ml rt) (X : Stand p l e R s m args below meth c T locs cells slots) {i : Int} (v : Int32) (hd : decode bytes pc = .ok (.bipush i, 2)) (hv : (Int8.ofInt i).toInt32 = v) (k : Goes p e below E T m q Ls (.int v :: St)) : Goes p e below E T m pc Ls St := by
  subst hq
  exact k.back fun t kt => XS.bipush (g := mkF m pc Ls St) X.here C.c_x rfl (hb C.c_by hd) (by subst hv; exact kt)
theorem g_sipush (q : Nat) (hq : pc + 3 = q) (C : Ctx p s m meth c Z own nm bytes ml rt) (X : Stand p l e R s m args below meth c T locs cells slots) {i : Int} (v : Int32) (hd : decode bytes pc = .ok (.sipush i, 3)) (hv : (Int16.ofInt i).toInt32 = v) (k : Goes p e below E T m q Ls (.int v :: St)) : Goes p e below E T m pc Ls St := by
  subst hq
  exact k.back fun t kt => XS.sipush (g := mkF m pc Ls St) X.here C.c_x rfl (hb C.c_by hd) (by subst hv; exact kt)
theorem g_lconst (q : Nat) (hq : pc + 1 = q) (C : Ctx p s m meth c Z own nm bytes ml rt) (X : Stand p l e R s m args below meth c T locs cells slots) {i : Fin 2} (v : Int64) (hd : decode bytes pc = .ok (.lconst i, 1)) (hv : Int64.ofNat i = v) (k : Goes p e below E T m q Ls (.long v :: St)) : Goes p e below E T m pc Ls St := by
  subst hq
  exact k.back fun t kt => XS.lconst (g := mkF m pc Ls St) X.here C.c_x rfl (hb C.c_by hd) (by subst hv; exact kt)
theorem g_null (q : Nat) (hq : pc + 1 = q) (C : Ctx p s m meth c Z own nm bytes ml rt) (X : Stand p l e R s m args below meth c T locs cells slots)  (hd : decode bytes pc = .ok (.aconst_null, 1)) (k : Goes p e below E T m q Ls (.null :: St)) : Goes p e below E T m pc Ls St := by
  subst hq
  exact k.back fun t kt => XS.aconstNull (g := mkF m pc Ls St) X.here C.c_x rfl (hb C.c_by hd) kt
theorem g_iloadN (q : Nat) (hq : pc + 1 = q) (C : Ctx p s m meth c Z own nm bytes ml rt) (X : Stand p l e R s m args below meth c T locs cells slots) {k0 : Fin 4} {v : Int32} (hd : decode bytes pc = .ok (.iload_n k0, 1)) (hl : Ls[k0.val]? = some (.val (.int v))) (k : Goes p e below E T m q Ls (.int v :: St)) : Goes p e below E T m pc Ls St := by
  subst hq
  exact k.back fun t kt => XS.iloadN (g := mkF m pc Ls St) X.here C.c_x rfl (hb C.c_by hd) hl kt
theorem g_iload (q : Nat) (hq : pc + 2 = q) (C : Ctx p s m meth c Z own nm bytes ml rt) (X : Stand p l e R s m args below meth c T locs cells slots) {k0 : Nat} {v : Int32} (hd : decode bytes pc = .ok (.iload k0, 2)) (hl : Ls[k0]? = some (.val (.int v))) (k : Goes p e below E T m q Ls (.int v :: St)) : Goes p e below E T m pc Ls St := by
  subst hq
  exact k.back fun t kt => XS.iload (g := mkF m pc Ls St) X.here C.c_x rfl (hb C.c_by hd) hl kt
theorem g_lloadN (q : Nat) (hq : pc + 1 = q) (C : Ctx p s m meth c Z own nm bytes ml rt) (X : Stand p l e R s m args below meth c T locs cells slots) {k0 : Fin 4} {v : Int64} (hd : decode bytes pc = .ok (.lload_n k0, 1)) (hl : Ls[k0.val]? = some (.val (.long v))) (k : Goes p e below E T m q Ls (.long v :: St)) : Goes p e below E T m pc Ls St := by
  subst hq
  exact k.back fun t kt => XS.lloadN (g := mkF m pc Ls St) X.here C.c_x rfl (hb C.c_by hd) hl kt
theorem g_lload (q : Nat) (hq : pc + 2 = q) (C : Ctx p s m meth c Z own nm bytes ml rt) (X : Stand p l e R s m args below meth c T locs cells slots) {k0 : Nat} {v : Int64} (hd : decode bytes pc = .ok (.lload k0, 2)) (hl : Ls[k0]? = some (.val (.long v))) (k : Goes p e below E T m q Ls (.long v :: St)) : Goes p e below E T m pc Ls St := by
  subst hq
  exact k.back fun t kt => XS.lload (g := mkF m pc Ls St) X.here C.c_x rfl (hb C.c_by hd) hl kt
theorem g_aloadN (q : Nat) (hq : pc + 1 = q) (C : Ctx p s m meth c Z own nm bytes ml rt) (X : Stand p l e R s m args below meth c T locs cells slots) {k0 : Fin 4} {v : Value} (hd : decode bytes pc = .ok (.aload_n k0, 1)) (hl : Ls[k0.val]? = some (.val v)) (hv : v.isRef = true) (k : Goes p e below E T m q Ls (v :: St)) : Goes p e below E T m pc Ls St := by
  subst hq
  exact k.back fun t kt => XS.aloadN (g := mkF m pc Ls St) X.here C.c_x rfl (hb C.c_by hd) hl hv kt
theorem g_aload (q : Nat) (hq : pc + 2 = q) (C : Ctx p s m meth c Z own nm bytes ml rt) (X : Stand p l e R s m args below meth c T locs cells slots) {k0 : Nat} {v : Value} (hd : decode bytes pc = .ok (.aload k0, 2)) (hl : Ls[k0]? = some (.val v)) (hv : v.isRef = true) (k : Goes p e below E T m q Ls (v :: St)) : Goes p e below E T m pc Ls St := by
  subst hq
  exact k.back fun t kt => XS.aload (g := mkF m pc Ls St) X.here C.c_x rfl (hb C.c_by hd) hl hv kt
theorem g_istoreN (q : Nat) (hq : pc + 1 = q) (C : Ctx p s m meth c Z own nm bytes ml rt) (X : Stand p l e R s m args below meth c T locs cells slots) {k0 : Fin 4} {x : Int32} (v : Int32) (hv : x = v) (Ls' : Array Slot) (hd : decode bytes pc = .ok (.istore_n k0, 1)) (hl : storeLocals Ls k0.val (.int v) = some Ls') (k : Goes p e below E T m q Ls' St) : Goes p e below E T m pc Ls (.int x :: St) := by
  subst hq
  exact k.back fun t kt => XS.istoreN (g := mkF m pc Ls (.int x :: St)) X.here C.c_x rfl (hb C.c_by hd) rfl (by subst hv; exact hl) kt
theorem g_istore (q : Nat) (hq : pc + 2 = q) (C : Ctx p s m meth c Z own nm bytes ml rt) (X : Stand p l e R s m args below meth c T locs cells slots) {k0 : Nat} {x : Int32} (v : Int32) (hv : x = v) (Ls' : Array Slot) (hd : decode bytes pc = .ok (.istore k0, 2)) (hl : storeLocals Ls k0 (.int v) = some Ls') (k : Goes p e below E T m q Ls' St) : Goes p e below E T m pc Ls (.int x :: St) := by
  subst hq
  exact k.back fun t kt => XS.istore (g := mkF m pc Ls (.int x :: St)) X.here C.c_x rfl (hb C.c_by hd) rfl (by subst hv; exact hl) kt
theorem g_lstore (q : Nat) (hq : pc + 2 = q) (C : Ctx p s m meth c Z own nm bytes ml rt) (X : Stand p l e R s m args below meth c T locs cells slots) {k0 : Nat} {x : Int64} (v : Int64) (hv : x = v) (Ls' : Array Slot) (hd : decode bytes pc = .ok (.lstore k0, 2)) (hl : storeLocals Ls k0 (.long v) = some Ls') (k : Goes p e below E T m q Ls' St) : Goes p e below E T m pc Ls (.long x :: St) := by
  subst hq
  exact k.back fun t kt => XS.lstore (g := mkF m pc Ls (.long x :: St)) X.here C.c_x rfl (hb C.c_by hd) rfl (by subst hv; exact hl) kt
theorem g_astore (q : Nat) (hq : pc + 2 = q) (C : Ctx p s m meth c Z own nm bytes ml rt) (X : Stand p l e R s m args below meth c T locs cells slots) {k0 : Nat} {x : Value} (Ls' : Array Slot) (hd : decode bytes pc = .ok (.astore k0, 2)) (hv : x.isRef = true) (hl : storeLocals Ls k0 x = some Ls') (k : Goes p e below E T m q Ls' St) : Goes p e below E T m pc Ls (x :: St) := by
  subst hq
  exact k.back fun t kt => XS.astore (g := mkF m pc Ls (x :: St)) X.here C.c_x rfl (hb C.c_by hd) rfl hv hl kt
theorem g_dup (q : Nat) (hq : pc + 1 = q) (C : Ctx p s m meth c Z own nm bytes ml rt) (X : Stand p l e R s m args below meth c T locs cells slots) {v : Value} (hd : decode bytes pc = .ok (.dup, 1)) (hv : v.category = 1) (k : Goes p e below E T m q Ls (v :: v :: St)) : Goes p e below E T m pc Ls (v :: St) := by
  subst hq
  exact k.back fun t kt => XS.dup (g := mkF m pc Ls (v :: St)) X.here C.c_x rfl (hb C.c_by hd) rfl hv kt
theorem g_pop (q : Nat) (hq : pc + 1 = q) (C : Ctx p s m meth c Z own nm bytes ml rt) (X : Stand p l e R s m args below meth c T locs cells slots) {v : Value} (hd : decode bytes pc = .ok (.pop, 1)) (hv : v.category = 1) (k : Goes p e below E T m q Ls St) : Goes p e below E T m pc Ls (v :: St) := by
  subst hq
  exact k.back fun t kt => XS.pop (g := mkF m pc Ls (v :: St)) X.here C.c_x rfl (hb C.c_by hd) rfl hv kt
theorem g_dup2 (q : Nat) (hq : pc + 1 = q) (C : Ctx p s m meth c Z own nm bytes ml rt) (X : Stand p l e R s m args below meth c T locs cells slots) {v w : Value} (hd : decode bytes pc = .ok (.dup2, 1)) (hv : v.category = 1) (hw : w.category = 1) (k : Goes p e below E T m q Ls (v :: w :: v :: w :: St)) : Goes p e below E T m pc Ls (v :: w :: St) := by
  subst hq
  refine k.back fun t kt => ?_
  show Steps p.tables e below (T.setTop { method := m, pc := pc, locals := Ls, stack := _, locked := none }) _
  jvm_step X.here [X.here.top, C.c_x, (hb C.c_by hd), hv, hw]
  exact kt
theorem g_goto (q : Nat) (C : Ctx p s m meth c Z own nm bytes ml rt) (X : Stand p l e R s m args below meth c T locs cells slots) {o : Int} (hd : decode bytes pc = .ok (.goto o, 3)) (ho : 0 ≤ (pc : Int) + o) (hp : ((pc : Int) + o).toNat = q) (k : Goes p e below E T m q Ls St) : Goes p e below E T m pc Ls St :=
  k.back fun t kt => XS.goto (g := mkF m pc Ls St) X.here C.c_x rfl (pc0 := pc) (pc' := q) rfl (hb C.c_by hd) ho hp kt
theorem own_z0 : (0 : Int32).toInt = 0 := rfl
theorem g_icmp_lt_f (q : Nat) (hq : pc + 3 = q) (C : Ctx p s m meth c Z own nm bytes ml rt) (X : Stand p l e R s m args below meth c T locs cells slots) {o : Int} {x y : Int32} (hd : decode bytes pc = .ok (.if_icmp .lt o, 3)) (h : ¬ x.toInt < y.toInt) (k : Goes p e below E T m q Ls St) : Goes p e below E T m pc Ls (.int y :: .int x :: St) := by
  subst hq
  exact k.back fun t kt => XS.icmpNo (g := mkF m pc Ls (.int y :: .int x :: St)) X.here C.c_x rfl (hb C.c_by hd) rfl (flt (fun r => h (Int32.lt_iff_toInt_lt.mp r))).1 kt
theorem g_il_lt_f (q : Nat) (hq : pc + 3 = q) (C : Ctx p s m meth c Z own nm bytes ml rt) (X : Stand p l e R s m args below meth c T locs cells slots) {o : Int} {x y : Int64} (hd : decode bytes pc = .ok (.ifCond .lt o, 3)) (h : ¬ x.toInt < y.toInt) (k : Goes p e below E T m q Ls St) : Goes p e below E T m pc Ls (.int (lcmpW x y) :: St) := by
  subst hq
  exact k.back fun t kt => XS.ifNo (g := mkF m pc Ls (.int (lcmpW x y) :: St)) X.here C.c_x rfl (hb C.c_by hd) rfl ((if0 _ _).trans (flt (fun r => h (Int64.lt_iff_toInt_lt.mp ((lw_lt x y).mp r)))).1) kt
theorem g_icmp_le_t (q : Nat) (C : Ctx p s m meth c Z own nm bytes ml rt) (X : Stand p l e R s m args below meth c T locs cells slots) {o : Int} {x y : Int32} (hd : decode bytes pc = .ok (.if_icmp .le o, 3)) (ho : 0 ≤ (pc : Int) + o) (hp : ((pc : Int) + o).toNat = q) (h : ¬ y.toInt < x.toInt) (k : Goes p e below E T m q Ls St) : Goes p e below E T m pc Ls (.int y :: .int x :: St) :=
  k.back fun t kt => XS.icmpYes (g := mkF m pc Ls (.int y :: .int x :: St)) X.here C.c_x rfl (pc0 := pc) (pc' := q) rfl (hb C.c_by hd) rfl (flt (fun r => h (Int32.lt_iff_toInt_lt.mp r))).2.2.2 ho hp kt
theorem g_il_le_t (q : Nat) (C : Ctx p s m meth c Z own nm bytes ml rt) (X : Stand p l e R s m args below meth c T locs cells slots) {o : Int} {x y : Int64} (hd : decode bytes pc = .ok (.ifCond .le o, 3)) (ho : 0 ≤ (pc : Int) + o) (hp : ((pc : Int) + o).toNat = q) (h : ¬ y.toInt < x.toInt) (k : Goes p e below E T m q Ls St) : Goes p e below E T m pc Ls (.int (lcmpW x y) :: St) :=
  k.back fun t kt => XS.ifYes (g := mkF m pc Ls (.int (lcmpW x y) :: St)) X.here C.c_x rfl (pc0 := pc) (pc' := q) rfl (hb C.c_by hd) rfl ((if0 _ _).trans (flt (fun r => h (Int64.lt_iff_toInt_lt.mp ((lw_gt x y).mp r)))).2.2.2) ho hp kt
theorem g_icmp_eq_t (q : Nat) (C : Ctx p s m meth c Z own nm bytes ml rt) (X : Stand p l e R s m args below meth c T locs cells slots) {o : Int} {x y : Int32} (hd : decode bytes pc = .ok (.if_icmp .eq o, 3)) (ho : 0 ≤ (pc : Int) + o) (hp : ((pc : Int) + o).toNat = q) (h : x.toInt = y.toInt) (k : Goes p e below E T m q Ls St) : Goes p e below E T m pc Ls (.int y :: .int x :: St) :=
  k.back fun t kt => XS.icmpYes (g := mkF m pc Ls (.int y :: .int x :: St)) X.here C.c_x rfl (pc0 := pc) (pc' := q) rfl (hb C.c_by hd) rfl (teq (Int32.toInt_inj.mp h)).1 ho hp kt
theorem g_if_eq_t (q : Nat) (C : Ctx p s m meth c Z own nm bytes ml rt) (X : Stand p l e R s m args below meth c T locs cells slots) {o : Int} {x : Int32} (hd : decode bytes pc = .ok (.ifCond .eq o, 3)) (ho : 0 ≤ (pc : Int) + o) (hp : ((pc : Int) + o).toNat = q) (h : x.toInt = 0) (k : Goes p e below E T m q Ls St) : Goes p e below E T m pc Ls (.int x :: St) :=
  k.back fun t kt => XS.ifYes (g := mkF m pc Ls (.int x :: St)) X.here C.c_x rfl (pc0 := pc) (pc' := q) rfl (hb C.c_by hd) rfl ((if0 _ _).trans (teq (Int32.toInt_inj.mp h)).1) ho hp kt
theorem g_if_eq_f (q : Nat) (hq : pc + 3 = q) (C : Ctx p s m meth c Z own nm bytes ml rt) (X : Stand p l e R s m args below meth c T locs cells slots) {o : Int} {x : Int32} (hd : decode bytes pc = .ok (.ifCond .eq o, 3)) (h : ¬ x.toInt = 0) (k : Goes p e below E T m q Ls St) : Goes p e below E T m pc Ls (.int x :: St) := by
  subst hq
  exact k.back fun t kt => XS.ifNo (g := mkF m pc Ls (.int x :: St)) X.here C.c_x rfl (hb C.c_by hd) rfl ((if0 _ _).trans (feq (fun r => h (congrArg Int32.toInt r))).1) kt
theorem g_icmp_ne_f (q : Nat) (hq : pc + 3 = q) (C : Ctx p s m meth c Z own nm bytes ml rt) (X : Stand p l e R s m args below meth c T locs cells slots) {o : Int} {x y : Int32} (hd : decode bytes pc = .ok (.if_icmp .ne o, 3)) (h : x.toInt = y.toInt) (k : Goes p e below E T m q Ls St) : Goes p e below E T m pc Ls (.int y :: .int x :: St) := by
  subst hq
  exact k.back fun t kt => XS.icmpNo (g := mkF m pc Ls (.int y :: .int x :: St)) X.here C.c_x rfl (hb C.c_by hd) rfl (teq (Int32.toInt_inj.mp h)).2 kt
theorem g_ifnull_t (q : Nat) (C : Ctx p s m meth c Z own nm bytes ml rt) (X : Stand p l e R s m args below meth c T locs cells slots) {o : Int} (hd : decode bytes pc = .ok (.ifnull o, 3)) (ho : 0 ≤ (pc : Int) + o) (hp : ((pc : Int) + o).toNat = q) (k : Goes p e below E T m q Ls St) : Goes p e below E T m pc Ls (.null :: St) :=
  k.back fun t kt => XS.ifnullYes (g := mkF m pc Ls (.null :: St)) X.here C.c_x rfl (pc0 := pc) (pc' := q) rfl (hb C.c_by hd) rfl ho hp kt
theorem g_ifnull_f (q : Nat) (hq : pc + 3 = q) (C : Ctx p s m meth c Z own nm bytes ml rt) (X : Stand p l e R s m args below meth c T locs cells slots) {o : Int} {b : Addr} (hd : decode bytes pc = .ok (.ifnull o, 3)) (k : Goes p e below E T m q Ls St) : Goes p e below E T m pc Ls (.ref b :: St) := by
  subst hq
  exact k.back fun t kt => XS.ifnullNo (g := mkF m pc Ls (.ref b :: St)) X.here C.c_x rfl (hb C.c_by hd) rfl kt
theorem g_ifnonnull_t (q : Nat) (C : Ctx p s m meth c Z own nm bytes ml rt) (X : Stand p l e R s m args below meth c T locs cells slots) {o : Int} {b : Addr} (hd : decode bytes pc = .ok (.ifnonnull o, 3)) (ho : 0 ≤ (pc : Int) + o) (hp : ((pc : Int) + o).toNat = q) (k : Goes p e below E T m q Ls St) : Goes p e below E T m pc Ls (.ref b :: St) :=
  k.back fun t kt => XS.ifnonnullYes (g := mkF m pc Ls (.ref b :: St)) X.here C.c_x rfl (pc0 := pc) (pc' := q) rfl (hb C.c_by hd) rfl ho hp kt
theorem g_ifnonnull_f (q : Nat) (hq : pc + 3 = q) (C : Ctx p s m meth c Z own nm bytes ml rt) (X : Stand p l e R s m args below meth c T locs cells slots) {o : Int} (hd : decode bytes pc = .ok (.ifnonnull o, 3)) (k : Goes p e below E T m q Ls St) : Goes p e below E T m pc Ls (.null :: St) := by
  subst hq
  exact k.back fun t kt => XS.ifnonnullNo (g := mkF m pc Ls (.null :: St)) X.here C.c_x rfl (hb C.c_by hd) rfl kt
theorem g_ldc (q : Nat) (hq : pc + 2 = q) (C : Ctx p s m meth c Z own nm bytes ml rt) (X : Stand p l e R s m args below meth c T locs cells slots) {i : Nat} {v : Int32} (w : (Cond.constant own i v).before a0 Z = true) (hd : decode bytes pc = .ok (.ldc i, 2)) (k : Goes p e below E T m q Ls (.int v :: St)) : Goes p e below E T m pc Ls St := by
  subst hq
  exact k.back fun t kt => X.ldcInt C.c_x C.c_own (mvT C.c_z w) (g := mkF m pc Ls St) rfl (hb C.c_by hd) _ kt
theorem g_ldc2 (q : Nat) (hq : pc + 3 = q) (C : Ctx p s m meth c Z own nm bytes ml rt) (X : Stand p l e R s m args below meth c T locs cells slots) {i : Nat} {v : Int64} (w : (Cond.constantLong own i v).before a0 Z = true) (hd : decode bytes pc = .ok (.ldc2_w i, 3)) (k : Goes p e below E T m q Ls (.long v :: St)) : Goes p e below E T m pc Ls St := by
  subst hq
  exact k.back fun t kt => X.ldc2Long C.c_x C.c_own (mvT C.c_z w) (g := mkF m pc Ls St) rfl (hb C.c_by hd) _ kt
theorem g_retW (C : Ctx p s m meth c Z own nm bytes ml rt) (X : Stand p l e R s m args below meth c T locs cells slots) {w : Value} {t : FieldType} {i : Instr} (hrt : rt = some t) (hn : narrow t w = w)
    (hi : (i = .ireturn ∧ (t = .int ∨ t = .boolean ∨ t = .byte ∨ t = .char ∨ t = .short) ∧ ∃ z, w = .int z) ∨ (i = .lreturn ∧ t = .long ∧ ∃ z, w = .long z) ∨ (i = .dreturn ∧ t = .double ∧ ∃ z, w = .double z) ∨ (i = .freturn ∧ t = .float ∧ ∃ z, w = .float z) ∨ (i = .areturn ∧ t.isReference = true ∧ w.isRef = true))
    (hd : decode bytes pc = .ok (i, 1)) (eT : T.heap = h) (hc : cells ≤ CC) (hs : slots ≤ SS) (hQ : Q (some w) h locs) : Goes p e below (EndN s Q CC SS) T m pc Ls (w :: St) := by
  obtain ⟨fs, hr, hrun, hended, hW, hsame⟩ := X.leave (v := some w) (fun r => by rw [C.c_rt, hrt] at r; cases r) C.c_lk
  subst eT
  exact ⟨_, _, retOut X C.c_x (C.c_rt.trans hrt) hn hi (hb C.c_by hd) hr, hrun, hended, _, _, rfl, hQ, ⟨_, rfl⟩, hW, hsame.mono hc hs⟩
theorem g_retI (C : Ctx p s m meth c Z own nm bytes ml rt) (X : Stand p l e R s m args below meth c T locs cells slots) {z : Int32} (hrt : rt = some .int) (hd : decode bytes pc = .ok (.ireturn, 1)) (eT : T.heap = h) (hc : cells ≤ CC) (hs : slots ≤ SS) (hQ : Q (some (.int z)) h locs) : Goes p e below (EndN s Q CC SS) T m pc Ls (.int z :: St) :=
  g_retW C X hrt rfl (Or.inl ⟨rfl, Or.inl rfl, z, rfl⟩) hd eT hc hs hQ
theorem g_retA (C : Ctx p s m meth c Z own nm bytes ml rt) (X : Stand p l e R s m args below meth c T locs cells slots) {w : Value} {t : FieldType} (hrt : rt = some t) (ht : t.isReference = true) (hw : w.isRef = true) (hn : narrow t w = w) (hd : decode bytes pc = .ok (.areturn, 1)) (eT : T.heap = h) (hc : cells ≤ CC) (hs : slots ≤ SS) (hQ : Q (some w) h locs) : Goes p e below (EndN s Q CC SS) T m pc Ls (w :: St) :=
  g_retW C X hrt hn (Or.inr (Or.inr (Or.inr (Or.inr ⟨rfl, ht, hw⟩)))) hd eT hc hs hQ
theorem g_retN (C : Ctx p s m meth c Z own nm bytes ml rt) (X : Stand p l e R s m args below meth c T locs cells slots) {z z' : Int32} {t : FieldType} (hrt : rt = some t) (ht : t = .boolean ∨ t = .byte ∨ t = .char ∨ t = .short) (hd : decode bytes pc = .ok (.ireturn, 1)) (eT : T.heap = h) (hc : cells ≤ CC) (hs : slots ≤ SS) (hz : nar t z = z') (hQ : Q (some (.int z')) h locs) : Goes p e below (EndN s Q CC SS) T m pc Ls (.int z :: St) := by
  obtain ⟨fs, hr, hrun, hended, hW, hsame⟩ := X.leave (v := some (.int (nar t z))) (fun r => by rw [C.c_rt, hrt] at r; cases r) C.c_lk
  subst eT
  subst hz
  exact ⟨_, _, retN X C.c_x (C.c_rt.trans hrt) ht (hb C.c_by hd) hr, hrun, hended, _, _, rfl, hQ, ⟨_, rfl⟩, hW, hsame.mono hc hs⟩
theorem g_retV (C : Ctx p s m meth c Z own nm bytes ml rt) (X : Stand p l e R s m args below meth c T locs cells slots) (hrt : rt = none) (hd : decode bytes pc = .ok (.return_, 1)) (eT : T.heap = h) (hc : cells ≤ CC) (hs : slots ≤ SS) (hQ : Q none h locs) : Goes p e below (EndN s Q CC SS) T m pc Ls [] := by
  obtain ⟨fs, hr, hrun, hended, hW, hsame⟩ := X.leave (v := none) (fun _ => rfl) C.c_lk
  subst eT
  exact ⟨_, _, X.returnOut C.c_x (C.c_rt.trans hrt) (hb C.c_by hd) hr, hrun, hended, _, _, rfl, hQ, ⟨_, rfl⟩, hW, hsame.mono hc hs⟩
theorem g_getF (q : Nat) (hq : pc + 3 = q) (C : Ctx p s m meth c Z own nm bytes ml rt) (X : Stand p l e R s m args below meth c T locs cells slots) {R0 O n d host : String} {i : Nat} {a : Addr} {v : Value} (w : (Cond.fieldLink own i R0 n d).before a0 Z = true ∨ (Cond.fieldLinkNest own i R0 n d host).before a0 Z = true) (via : Via Z R0 O n d) (eT : T.heap = h) (F : Fld Z h a O n d v) (hd : decode bytes pc = .ok (.getfield i, 3))
    (k : ∀ T', Stand p l e R s m args below meth c T' locs cells slots → T'.heap = h → Goes p e below E T' m q Ls (v :: St)) : Goes p e below E T m pc Ls (.ref a :: St) := by
  subst hq
  obtain ⟨T', X', e', st⟩ := getF X C.c_x C.c_z C.c_own w via eT F (g := mkF m pc Ls (.ref a :: St)) rfl rfl (hb C.c_by hd)
  exact (k T' X' e').back fun t kt => st t kt
theorem g_putF (q : Nat) (hq : pc + 3 = q) (C : Ctx p s m meth c Z own nm bytes ml rt) (X : Stand p l e R s m args below meth c T locs cells slots) {R0 O n d host K : String} {i kk : Nat} {ty : FieldType} {a : Addr} {v old : Value} (w : (Cond.fieldLink own i R0 n d).before a0 Z = true ∨ (Cond.fieldLinkNest own i R0 n d host).before a0 Z = true) (via : Via Z R0 O n d) (eT : T.heap = h) (F : Fld Z h a O n d old) (EX : Exa Z h a K)
    (L : (Cond.lays K O n d).before a0 Z = true ∨ ((Cond.laysFinal K O n d).before a0 Z = true ∧ own = O ∧ nm = "<init>")) (wi : (Cond.instantiable K kk).before a0 Z = true) (hty : parseFieldDescriptor d = some ty) (hn : narrow ty v = v) (hf : fits ty v = true) (hd : decode bytes pc = .ok (.putfield i, 3)) {n0 : Nat} (N : Fr n0 locs) (hn0 : n0 ≤ a)
    (k : ∀ T' h' locs', Stand p l e R s m args below meth c T' locs' cells slots → T'.heap = h' → Wr h h' a (Jvm.RoadKit.slotOf Z O n d) v → Fr n0 locs' → Goes p e below E T' m q Ls St) : Goes p e below E T m pc Ls (v :: .ref a :: St) := by
  subst hq
  obtain ⟨T', h', X', e', W', st⟩ := putF X C.c_x C.c_z C.c_own w via eT F EX (L.imp id fun r => ⟨r.1, r.2.1, C.c_nm.trans r.2.2⟩) wi hty hn hf (g := mkF m pc Ls (v :: .ref a :: St)) rfl rfl (hb C.c_by hd)
  exact (k T' h' _ X' e' W' (Fr.snoc X' N hn0)).back fun t kt => st t kt
theorem g_new (q : Nat) (hq : pc + 3 = q) (C : Ctx p s m meth c Z own nm bytes ml rt) (X : Stand p l e R s m args below meth c T locs cells slots) {K : String} {i n : Nat} (w : (Cond.classLink own i K).before a0 Z = true) (wi : (Cond.instantiable K n).before a0 Z = true) (wz : (Cond.initialized K).before a0 Z = true) (eT : T.heap = h) (hd : decode bytes pc = .ok (.new i, 3)) (hc : cells + 1 ≤ R.cells) (hl : slots + n ≤ R.slots)
    (k : ∀ T' h' a, a = h.size → Stand p l e R s m args below meth c T' locs (cells + 1) (slots + n) → T'.heap = h' → Ext h h' → Exa Z h' a K → (∀ {O nm d : String} {ty : FieldType}, Laid Z a0 K O nm d → parseFieldDescriptor d = some ty → Fld Z h' a O nm d (defaultValue ty)) → Goes p e below E T' m q Ls (.ref a :: St)) : Goes p e below E T m pc Ls St := by
  subst hq
  obtain ⟨T', h', X', e', E', A', D', -, st⟩ := newO X C.c_x C.c_z C.c_own w wi wz eT (g := mkF m pc Ls St) rfl (hb C.c_by hd) hc hl
  exact (k T' h' _ rfl X' e' E' A' D').back fun t kt => st t kt
theorem g_initO (q : Nat) (hq : pc + 3 = q) (C : Ctx p s m meth c Z own nm bytes ml rt) (X : Stand p l e R s m args below meth c T locs cells slots) {i : Nat} {a : Addr} (w1 : (Cond.methodLink own i Lib.objectInit).before a0 Z = true) (w2 : (Cond.instanceMethod Lib.objectInit).before a0 Z = true) (w3 : (Cond.code Lib.objectInit ⟨#[0xb1]⟩ 1 none).before a0 Z = true) (eT : T.heap = h) (hd : decode bytes pc = .ok (.invokespecial i, 3)) (hsz : Ls.size = ml) (hf : 1 ≤ R.frames) {W : Nat} (hW : (St.map fun v => v.category).sum ≤ W) (hl : W + 12 ≤ R.locals)
    (k : ∀ T', Stand p l e R s m args below meth c T' locs cells slots → T'.heap = h → Goes p e below E T' m q Ls St) : Goes p e below E T m pc Ls (.ref a :: St) := by
  subst hq
  obtain ⟨T', X', e', st⟩ := initO X C.c_x C.c_z C.c_own w1 w2 w3 eT (g := mkF m pc Ls (.ref a :: St)) rfl (hsz.trans C.c_ml.symm) rfl (hb C.c_by hd) hf (W := W) (by show 2 * 0 + _ ≤ _; omega) hl
  exact (k T' X' e').back fun t kt => st t kt
def Ba (Z : State) (h : Heap) (a : Addr) (ty : FieldType) (n : Nat) (f : Nat → Int32) : Prop := ∃ c : Cell, Arr Z h a c ty ∧ c.slots.size = n ∧ n < 2 ^ 31 ∧ (∀ k, k < n → c.slots[k]? = some (.int (f k)))
def upd (f : Nat → Int32) (j : Nat) (v : Int32) : Nat → Int32 := fun k => bif Nat.beq k j then v else f k
theorem upd_same {f : Nat → Int32} {j k : Nat} {v : Int32} (q : k = j) : upd f j v k = v := by subst q; simp [upd]
theorem upd_ne {f : Nat → Int32} {j k : Nat} {v : Int32} (q : k ≠ j) : upd f j v k = f k := by
  have : Nat.beq k j = false := by
    cases hb : Nat.beq k j with
    | false => rfl
    | true => exact absurd (Nat.eq_of_beq_eq_true hb) q
  show (bif Nat.beq k j then v else f k) = f k
  rw [this]; rfl
theorem upd_eq (f : Nat → Int32) (j k : Nat) (v : Int32) : upd f j v k = if k = j then v else f k := by
  split
  · rename_i q; exact upd_same q
  · rename_i q; exact upd_ne q
theorem Ba.lt {a : Addr} {ty : FieldType} {n : Nat} {f : Nat → Int32} (F : Ba Z h a ty n f) : a < h.size := by obtain ⟨c, A, -⟩ := F; exact A.lt
theorem Ba.ext {h' : Heap} {a : Addr} {ty : FieldType} {n : Nat} {f : Nat → Int32} (F : Ba Z h a ty n f) (E : Ext h h') : Ba Z h' a ty n f := by obtain ⟨c, A, r⟩ := F; exact ⟨c, A.ext E, r⟩
theorem Ba.other {h' : Heap} {a b : Addr} {ty : FieldType} {n sl : Nat} {v : Value} {f : Nat → Int32} (F : Ba Z h a ty n f) (W : Wr h h' b sl v) (q : a ≠ b) : Ba Z h' a ty n f := by obtain ⟨c, A, r⟩ := F; exact ⟨c, A.other W q, r⟩
theorem Ba.keep {h' : Heap} {a : Addr} {ty : FieldType} {n : Nat} {ws : List Addr} {f : Nat → Int32} (F : Ba Z h a ty n f) (K : Keep h h' ws) (q : a ∉ ws) : Ba Z h' a ty n f := by obtain ⟨c, A, r⟩ := F; exact ⟨c, ⟨K.2.1 a c A.1 q, A.2⟩, r⟩
theorem Ba.same {h' : Heap} {a : Addr} {ty : FieldType} {n j : Nat} {v : Int32} {f : Nat → Int32} (F : Ba Z h a ty n f) (W : Wr h h' a j (.int v)) : Ba Z h' a ty n (upd f j v) := by
  obtain ⟨c, A, hs, hn, hf⟩ := F
  refine ⟨_, A.same W, by simp [Cell.setSlot, hs], hn, fun k hk => ?_⟩
  rw [upd_eq]
  by_cases q : k = j
  · subst q; simp [Cell.setSlot, hs, hk]
  · rw [if_neg q]; simp only [Cell.setSlot]; rw [Array.getElem?_setIfInBounds_ne (Ne.symm q)]; exact hf k hk
theorem Ba.cong {a : Addr} {ty : FieldType} {n : Nat} {f f' : Nat → Int32} (F : Ba Z h a ty n f) (q : ∀ k, k < n → f k = f' k) : Ba Z h a ty n f' := by
  obtain ⟨c, A, hs, hn, hf⟩ := F
  exact ⟨c, A, hs, hn, fun k hk => by rw [← q k hk]; exact hf k hk⟩
theorem Ba.new {a : Addr} {cA : ClassId} {ty : FieldType} {z : Int32} {n : Nat} (A : Arr Z h a (newA cA ty z) ty) (hz : z.toInt = n) (hd : defaultValue ty = .int 0) : Ba Z h a ty n (fun _ => 0) := by
  have hr := rng32 z
  have hn : z.toNatClampNeg = n := by simp only [Int32.toNatClampNeg, hz]; rfl
  exact ⟨_, A, by rw [sz_new, hn], by omega, fun k hk => by simp [newA, hn, hk, hd]⟩
theorem own_clamp {j : Int32} {k : Nat} (hj : j.toInt = k) : j.toNatClampNeg = k ∧ ¬ j < 0 := by
  refine ⟨by simp only [Int32.toNatClampNeg, hj]; rfl, fun r => ?_⟩
  have := Int32.lt_iff_toInt_lt.mp r
  rw [hj, own_z0] at this; omega
theorem own_in {j : Int32} {k n : Nat} {c : Cell} (hs : c.slots.size = n) (hj : j.toInt = k) (hk : k < n) : ¬ (j < 0 ∨ c.slots.size ≤ j.toNatClampNeg) := by
  obtain ⟨h1, h2⟩ := own_clamp hj
  rw [h1, hs]; intro r; rcases r with r | r
  · exact h2 r
  · omega
theorem own_lenI {n : Nat} (hn : n < 2 ^ 31) : (n.toInt32).toInt = n := by
  have := len_toInt hn
  exact this
theorem g_newP (q : Nat) (hq : pc + 2 = q) (C : Ctx p s m meth c Z own nm bytes ml rt) (X : Stand p l e R s m args below meth c T locs cells slots) {aty : ArrayType} {z : Int32} (n : Nat) (hz : z.toInt = n) (cap : Nat) (hcap : n ≤ cap) (hb' : cap * 8 ≤ 536870912) (hdf : defaultValue (newarray.typeOf aty) = .int 0) (w : (Cond.arrayClass (newarray.typeOf aty)).before a0 Z = true) (eT : T.heap = h) (hd : decode bytes pc = .ok (.newarray aty, 2)) (hc : cells + 1 ≤ R.cells) (hl : slots + cap ≤ R.slots)
    (k : ∀ T' h' a, a = h.size → Stand p l e R s m args below meth c T' locs (cells + 1) (slots + cap) → T'.heap = h' → Ext h h' → Ba Z h' a (newarray.typeOf aty) n (fun _ => 0) → Goes p e below E T' m q Ls (.ref a :: St)) : Goes p e below E T m pc Ls (.int z :: St) := by
  subst hq
  obtain ⟨h1, h2⟩ := own_clamp hz
  obtain ⟨T', h', cA, X', e', E', A', st⟩ := newP X C.c_x C.c_z w eT (g := mkF m pc Ls (.int z :: St)) rfl (hb C.c_by hd) rfl h2 (cap := cap) (by rw [h1]; exact hcap) hb' hc hl
  exact (k T' h' _ rfl X' e' E' (Ba.new A' hz hdf)).back fun t kt => st t kt
theorem g_len (q : Nat) (hq : pc + 1 = q) (C : Ctx p s m meth c Z own nm bytes ml rt) (X : Stand p l e R s m args below meth c T locs cells slots) {a : Addr} {ty : FieldType} {n : Nat} {f : Nat → Int32} (eT : T.heap = h) (F : Ba Z h a ty n f) (z : Int32) (hz : z.toInt = n) (hd : decode bytes pc = .ok (.arraylength, 1)) (k : Goes p e below E T m q Ls (.int z :: St)) : Goes p e below E T m pc Ls (.ref a :: St) := by
  subst hq
  obtain ⟨c0, A, hs, hn, hf⟩ := F
  have ez : c0.slots.size.toInt32 = z := Int32.toInt_inj.mp (by rw [hs, own_lenI hn, hz])
  exact k.back fun t kt => X.arraylength C.c_x (by rw [eT]; exact A.1) (State.isArrayOf_alike C.c_z.alike A.2.1) (g := mkF m pc Ls (.ref a :: St)) rfl rfl (hb C.c_by hd) t (by rw [ez]; exact kt)
theorem g_baload (q : Nat) (hq : pc + 1 = q) (C : Ctx p s m meth c Z own nm bytes ml rt) (X : Stand p l e R s m args below meth c T locs cells slots) {a : Addr} {n : Nat} {f : Nat → Int32} {j : Int32} (eT : T.heap = h) (F : Ba Z h a .byte n f) (i : Nat) (hj : j.toInt = i) (hi : i < n) (v : Int32) (hv : f i = v) (hd : decode bytes pc = .ok (.baload, 1)) (k : Goes p e below E T m q Ls (.int v :: St)) : Goes p e below E T m pc Ls (.int j :: .ref a :: St) := by
  subst hq
  obtain ⟨c0, A, hs, hn, hf⟩ := F
  exact k.back fun t kt => X.baloadBytes C.c_x (j := j) (v := .int v) (by rw [eT]; exact A.1) (State.isArrayOf_alike C.c_z.alike A.2.1) A.2.2 (own_in hs hj hi) (by rw [(own_clamp hj).1, ← hv]; exact hf i hi) (g := mkF m pc Ls (.int j :: .ref a :: St)) rfl rfl (hb C.c_by hd) t kt
theorem g_bastore (q : Nat) (hq : pc + 1 = q) (C : Ctx p s m meth c Z own nm bytes ml rt) (X : Stand p l e R s m args below meth c T locs cells slots) {a : Addr} {n : Nat} {f : Nat → Int32} {j x : Int32} (eT : T.heap = h) (F : Ba Z h a .byte n f) (i : Nat) (hj : j.toInt = i) (hi : i < n) (v : Int32) (hv : x.toInt8.toInt32 = v) (hd : decode bytes pc = .ok (.bastore, 1)) {n0 : Nat} (N : Fr n0 locs) (hn0 : n0 ≤ a)
    (k : ∀ T' h' locs', Stand p l e R s m args below meth c T' locs' cells slots → T'.heap = h' → Wr h h' a i (.int v) → Ba Z h' a .byte n (upd f i v) → Fr n0 locs' → Goes p e below E T' m q Ls St) : Goes p e below E T m pc Ls (.int x :: .int j :: .ref a :: St) := by
  subst hq hv
  have F0 := F
  obtain ⟨c0, A, hs, hn, hf⟩ := F
  obtain ⟨T', h', X', e', W', st⟩ := stB X C.c_x C.c_z eT A (j := j) (own_in hs hj hi) (g := mkF m pc Ls (.int x :: .int j :: .ref a :: St)) rfl rfl (hb C.c_by hd)
  rw [(own_clamp hj).1] at W' X'
  exact (k T' h' _ X' e' W' (F0.same W') (Fr.snoc X' N hn0)).back fun t kt => st t kt
theorem own_narByte {b : Int32} (h0 : -128 ≤ b.toInt) (h1 : b.toInt < 128) : b.toInt8.toInt32 = b := by
  have := c_i2b b
  exact Int32.toInt_inj.mp (by omega)
theorem g_newPE (q : Nat) (hq : pc + 2 = q) (C : Ctx p s m meth c Z own nm bytes ml rt) (X : Stand p l e R s m args below meth c T locs cells slots) {aty : ArrayType} {z : Int32} (n : Nat) (hz : z.toInt = n) (cap : Nat) (hcap : n ≤ cap) (hb' : cap * 8 ≤ 536870912) (hdf : defaultValue (newarray.typeOf aty) = .int 0) (w : (Cond.arrayClass (newarray.typeOf aty)).before a0 Z = true) (eT : T.heap = h) (hd : decode bytes pc = .ok (.newarray aty, 2)) (hc : cells + 1 ≤ R.cells) (hl : slots + cap ≤ R.slots) {ad : String} (had : "[" ++ (newarray.typeOf aty).toString = ad)
    (k : ∀ T' h' a, a = h.size → Stand p l e R s m args below meth c T' locs (cells + 1) (slots + cap) → T'.heap = h' → Ext h h' → Ba Z h' a (newarray.typeOf aty) n (fun _ => 0) → Exa Z h' a ad → Goes p e below E T' m q Ls (.ref a :: St)) : Goes p e below E T m pc Ls (.int z :: St) := by
  subst hq
  obtain ⟨h1, h2⟩ := own_clamp hz
  obtain ⟨T', h', cA, X', e', E', A', D', st⟩ := newPE X C.c_x C.c_z w eT (g := mkF m pc Ls (.int z :: St)) rfl (hb C.c_by hd) rfl h2 (cap := cap) (by rw [h1]; exact hcap) hb' hc hl had
  exact (k T' h' _ rfl X' e' E' (Ba.new A' hz hdf) D').back fun t kt => st t kt
theorem g_clone (q : Nat) (hq : pc + 3 = q) (C : Ctx p s m meth c Z own nm bytes ml rt) (X : Stand p l e R s m args below meth c T locs cells slots) {ad : String} {i : Nat} {a : Addr} {ty : FieldType} {n : Nat} {f : Nat → Int32}
    (w1 : (Cond.methodLink own i ⟨ad, "clone", "()Ljava/lang/Object;"⟩).before a0 Z = true) (w2 : (Cond.sameMethod ad "java/lang/Object" "clone" "()Ljava/lang/Object;").before a0 Z = true) (w3 : (Cond.native ⟨"java/lang/Object", "clone", "()Ljava/lang/Object;"⟩).before a0 Z = true)
    (w4 : (Cond.instanceMethod ⟨"java/lang/Object", "clone", "()Ljava/lang/Object;"⟩).before a0 Z = true) (w5 : (Cond.selects ad ⟨ad, "clone", "()Ljava/lang/Object;"⟩ ⟨"java/lang/Object", "clone", "()Ljava/lang/Object;"⟩).before a0 Z = true) (w6 : (Cond.castable ad "java/lang/Cloneable").before a0 Z = true)
    (eT : T.heap = h) (F : Ba Z h a ty n f) (E' : Exa Z h a ad) (hfit : ∀ k, k < n → fits ty (.int (f k)) = true) (hd : decode bytes pc = .ok (.invokevirtual i, 3)) (hsz : Ls.size = ml) (hfr : 1 ≤ R.frames) {W : Nat} (hW : (St.map fun v => v.category).sum ≤ W) (hl : W + 14 ≤ R.locals) (hc : cells + 1 ≤ R.cells) (hsl : slots + n ≤ R.slots)
    (k : ∀ T' h' b, b = h.size → Stand p l e R s m args below meth c T' locs (cells + 1) (slots + n) → T'.heap = h' → Ext h h' → Ba Z h' b ty n f → Exa Z h' b ad → Goes p e below E T' m q Ls (.ref b :: St)) : Goes p e below E T m pc Ls (.ref a :: St) := by
  subst hq
  obtain ⟨cl, A, hs, hn, hf⟩ := F
  have FC : FitC Z cl := fitC_of A fun i hi v hv => by
    rw [hf i (hs ▸ hi)] at hv; cases hv; exact hfit i (hs ▸ hi)
  obtain ⟨T', h', X', e', ex, A', D', st⟩ := cloneA X C.c_x C.c_z C.c_own w1 w2 w3 w4 w5 w6 eT A E' FC (g := mkF m pc Ls (.ref a :: St)) rfl (hsz.trans C.c_ml.symm) rfl (hb C.c_by hd) hfr (W := W) (cap := n) (by show 2 * 0 + _ ≤ _; omega) hl (by rw [hs]; exact Nat.le_refl _) hc hsl
  exact (k T' h' _ rfl X' e' ex ⟨cloneOf cl, A', hs, hn, hf⟩ D').back fun t kt => st t kt
theorem g_cast (q : Nat) (hq : pc + 3 = q) (C : Ctx p s m meth c Z own nm bytes ml rt) (X : Stand p l e R s m args below meth c T locs cells slots) {K : String} {i : Nat} {a : Addr} (w : (Cond.classLink own i K).before a0 Z = true) (eT : T.heap = h) (F : Ins Z h a K true) (hd : decode bytes pc = .ok (.checkcast i, 3))
    (k : ∀ T', Stand p l e R s m args below meth c T' locs cells slots → T'.heap = h → Goes p e below E T' m q Ls (.ref a :: St)) : Goes p e below E T m pc Ls (.ref a :: St) := by
  subst hq
  obtain ⟨T', X', e', st⟩ := castY X C.c_x C.c_z C.c_own w eT F (g := mkF m pc Ls (.ref a :: St)) rfl rfl (hb C.c_by hd)
  exact (k T' X' e').back fun t kt => st t kt
theorem own_fitB {x : Int32} (h0 : -128 ≤ x.toInt) (h1 : x.toInt < 128) : fits .byte (.int x) = true := by
  have e := own_narByte h0 h1
  rw [← e]; exact fits_nar_byte x

theorem g_callS (q : Nat) (hq : pc + 3 = q) (C : Ctx p s m meth c Z own nm bytes ml rt) (X : Stand p l e R s m args below meth c T locs cells slots) {y : MethodName} {bytes' : ByteArray} {maxL' : Nat} {ret' : Option FieldType} {rm : Room} {Q' : Option Value → Heap → List Loc → Prop} {i W : Nat} {argsL : List Value} (w1 : (Cond.methodLink own i y).before a0 Z = true) (w2 : (Cond.static y).before a0 Z = true) (wc : (Cond.code y bytes' maxL' ret').before a0 Z = true) (wz : (Cond.initialized y.cls).before a0 Z = true) (eT : T.heap = h) (M : MetFree l y (head1 [Cond.code y bytes' maxL' ret'] rm) (fun a' U => a' = argsL.toArray ∧ Z.Warmed39 U.vm ∧ U.heap = h) (fun _ _ _ _ _ => True) (fun _ U o U' => ∃ v L, o = .returned v ∧ Q' v U'.heap L ∧ FrameEnd U o U' L rm.cells rm.slots)) (hlen : ∀ sig, parseMethodDescriptor y.desc = some sig → argsL.length = sig.parameters.length) (hf : rm.frames + 1 ≤ R.frames) (hl : W + (maxL' + 11) + rm.locals ≤ R.locals) (hc : cells + rm.cells ≤ R.cells) (hsl : slots + rm.slots ≤ R.slots) (hsz : Ls.size = ml) (hW : (St.map fun v => v.category).sum ≤ W) (hy : y.cls ≠ "java/lang/invoke/MethodHandle" ∧ y.cls ≠ "java/lang/invoke/VarHandle") (hd : decode bytes pc = .ok (.invokestatic i, 3)) {St0 : List Value} (hst : St0 = argsL.reverse ++ St)
    (k : ∀ v T' L, Stand p l e R s m args below meth c T' (locs ++ L) (cells + rm.cells) (slots + rm.slots) → Q' v T'.heap L → Goes p e below E T' m q Ls (v.toList ++ St)) : Goes p e below E T m pc Ls St0 := by
  subst hq hst
  obtain ⟨v, _, ⟨T', L', k', n'⟩, -, X', ⟨Lc, hQ', l', y', z'⟩, st⟩ := Jvm.LawKit.callS X C.c_x (y := y) C.c_own (mvT C.c_z w1) (mvT C.c_z w2) (mvT C.c_z wz) (mvT C.c_z wc) hy (backOf (W := W) M C.c_z wc wz hf hl) (g := mkF m pc Ls (argsL.reverse ++ St)) rfl (hsz.trans C.c_ml.symm) (argsL := argsL) (rest := St) hlen rfl (by show 2 * 0 + _ ≤ _; omega) (hb C.c_by hd) (fun _ _ => ⟨rfl, eT, hc, hsl⟩)
  dsimp only [Pt.U, Pt.locs, Pt.cells, Pt.slots] at X' l' y' z' st hQ'
  subst l' y' z'
  exact (k v T' Lc X' hQ').back fun t kt => st t kt
theorem g_callN (q : Nat) (hq : pc + 3 = q) (C : Ctx p s m meth c Z own nm bytes ml rt) (X : Stand p l e R s m args below meth c T locs cells slots) {y : MethodName} {bytes' : ByteArray} {maxL' : Nat} {ret' : Option FieldType} {rm : Room} {Q' : Option Value → Heap → List Loc → Prop} {i W : Nat} {a : Addr} {argsL : List Value} (hy1 : y.name = "<init>") (hre : ret' = none) (w1 : (Cond.methodLink own i y).before a0 Z = true) (w2 : (Cond.instanceMethod y).before a0 Z = true) (wc : (Cond.code y bytes' maxL' ret').before a0 Z = true) (wz : (Cond.initialized y.cls).before a0 Z = true) (eT : T.heap = h) (M : MetFree l y (head1 [Cond.code y bytes' maxL' ret'] rm) (fun a' U => a' = (.ref a :: argsL).toArray ∧ Z.Warmed39 U.vm ∧ U.heap = h) (fun _ _ _ _ _ => True) (fun _ U o U' => ∃ v L, o = .returned v ∧ Q' v U'.heap L ∧ FrameEnd U o U' L rm.cells rm.slots)) (hlen : ∀ sig, parseMethodDescriptor y.desc = some sig → argsL.length = sig.parameters.length) (hf : rm.frames + 1 ≤ R.frames) (hl : W + (maxL' + 11) + rm.locals ≤ R.locals) (hc : cells + rm.cells ≤ R.cells) (hsl : slots + rm.slots ≤ R.slots) (hsz : Ls.size = ml) (hW : (St.map fun v => v.category).sum ≤ W) (hy : y.cls ≠ "java/lang/invoke/MethodHandle" ∧ y.cls ≠ "java/lang/invoke/VarHandle") (hd : decode bytes pc = .ok (.invokespecial i, 3)) {St0 : List Value} (hst : St0 = argsL.reverse ++ .ref a :: St)
    (k : ∀ v T' L, Stand p l e R s m args below meth c T' (locs ++ L) (cells + rm.cells) (slots + rm.slots) → Q' v T'.heap L → Goes p e below E T' m q Ls (v.toList ++ St)) : Goes p e below E T m pc Ls St0 := by
  subst hq hst hre
  obtain ⟨v, _, ⟨T', L', k', n'⟩, -, X', ⟨Lc, hQ', l', y', z'⟩, st⟩ := X.specialBack C.c_x (y := y) hy1 C.c_own (mvT C.c_z w1) (mvT C.c_z w2) (mvT C.c_z wc) hy (backOf (W := W) M C.c_z wc wz hf hl) (g := mkF m pc Ls (argsL.reverse ++ .ref a :: St)) rfl (hsz.trans C.c_ml.symm) (Steps.refl _) (a := a) (argsL := argsL) (rest := St) hlen rfl (by show 2 * 0 + _ ≤ _; omega) (hb C.c_by hd) (fun _ _ => ⟨rfl, eT, hc, hsl⟩)
  dsimp only [Pt.U, Pt.locs, Pt.cells, Pt.slots] at X' l' y' z' st hQ'
  subst l' y' z'
  exact (k v T' Lc X' hQ').back fun t kt => st.trans kt
theorem g_callV (q : Nat) (hq : pc + 3 = q) (C : Ctx p s m meth c Z own nm bytes ml rt) (X : Stand p l e R s m args below meth c T locs cells slots) {y : MethodName} {bytes' : ByteArray} {maxL' : Nat} {ret' : Option FieldType} {rm : Room} {Q' : Option Value → Heap → List Loc → Prop} {i W : Nat} {K : String} {a : Addr} {argsL : List Value} (w1 : (Cond.methodLink own i y).before a0 Z = true) (w2 : (Cond.declares y).before a0 Z = true) (w3 : (Cond.selects K y y).before a0 Z = true) (w4 : (Cond.instanceMethod y).before a0 Z = true) (wc : (Cond.code y bytes' maxL' ret').before a0 Z = true) (wz : (Cond.initialized y.cls).before a0 Z = true) (eT : T.heap = h) (EX : Exa Z h a K) (M : MetFree l y (head1 [Cond.code y bytes' maxL' ret'] rm) (fun a' U => a' = (.ref a :: argsL).toArray ∧ Z.Warmed39 U.vm ∧ U.heap = h) (fun _ _ _ _ _ => True) (fun _ U o U' => ∃ v L, o = .returned v ∧ Q' v U'.heap L ∧ FrameEnd U o U' L rm.cells rm.slots)) (hlen : ∀ sig, parseMethodDescriptor y.desc = some sig → argsL.length = sig.parameters.length) (hf : rm.frames + 1 ≤ R.frames) (hl : W + (maxL' + 11) + rm.locals ≤ R.locals) (hc : cells + rm.cells ≤ R.cells) (hsl : slots + rm.slots ≤ R.slots) (hsz : Ls.size = ml) (hW : (St.map fun v => v.category).sum ≤ W) (hy : y.cls ≠ "java/lang/invoke/MethodHandle" ∧ y.cls ≠ "java/lang/invoke/VarHandle") (hd : decode bytes pc = .ok (.invokevirtual i, 3)) {St0 : List Value} (hst : St0 = argsL.reverse ++ .ref a :: St)
    (k : ∀ v T' L, Stand p l e R s m args below meth c T' (locs ++ L) (cells + rm.cells) (slots + rm.slots) → Q' v T'.heap L → Goes p e below E T' m q Ls (v.toList ++ St)) : Goes p e below E T m pc Ls St0 := by
  subst hq hst
  obtain ⟨cB, kB, q1, q2, q3⟩ := isOf C.c_z eT EX
  obtain ⟨v, _, ⟨T', L', k', n'⟩, -, X', ⟨Lc, hQ', l', y', z'⟩, st⟩ := X.virtualBack C.c_x (y := y) (z := y) C.c_own (mvT C.c_z w1) (mvT C.c_z w2) (notFace_of_selects (args := #[]) (mvT C.c_z w3)) (mvT C.c_z w3) (mvT C.c_z w4) hy (backOf (W := W) M C.c_z wc wz hf hl) q1 q3 (g := mkF m pc Ls (argsL.reverse ++ .ref a :: St)) rfl (hsz.trans C.c_ml.symm) (Steps.refl _) (argsL := argsL) (rest := St) hlen rfl (by show 2 * 0 + _ ≤ _; omega) (hb C.c_by hd) (fun _ _ => ⟨rfl, eT, hc, hsl⟩)
  dsimp only [Pt.U, Pt.locs, Pt.cells, Pt.slots] at X' l' y' z' st hQ'
  subst l' y' z'
  exact (k v T' Lc X' hQ').back fun t kt => st.trans kt
end Own
section OwnWide
variable {p : Program} {l : Launch} {e : Env} {R : Room} {s : State} {m : MethodId} {args : Array Value} {below : List Frame} {meth : Method} {c : Code} {T : State} {locs : List Loc} {cells slots : Nat} {Z : State} {a0 : Array Value} {h : Heap} {own nm : String} {bytes : ByteArray} {ml : Nat} {rt : Option FieldType} {Q : Option Value → Heap → List Loc → Prop} {CC SS : Nat} {E : Outcome → State → Prop} {pc : Nat} {Ls : Array Slot} {St : List Value}
variable {vm0 : Vm} {k0 : Nat}
def EndW (s : State) (Q : Option Value → Heap → List Loc → Prop) (CC SS : Nat) (o : Outcome) (t : State) : Prop := ∃ v L, o = .returned v ∧ Q v t.heap L ∧ ReturnedEndW s o t L CC SS
theorem Goes.enterW {g : JFrame} (hg : g = mkF m 0 Ls []) (k : Goes p e below (EndW s Q CC SS) T m 0 Ls []) : ∃ s₂ o, Steps p.tables e below (T.setTop g) s₂ ∧ s₂.status = .running ∧ Ended s₂ below o ∧ ∃ v L, o = .returned v ∧ Q v s₂.heap L ∧ ReturnedEndW s o s₂ L CC SS := by
  subst hg
  exact k
theorem Ctx.to (C : Ctx p (s.setVm vm0) m meth c Z own nm bytes ml rt) {vm1 : Vm} (hZ : Z.Warmed39 (s.setVm vm1).vm) (ho : (s.setVm vm1).vm.findClass own = some m.cls) : Ctx p (s.setVm vm1) m meth c Z own nm bytes ml rt :=
  ⟨C.c_x, hZ, C.c_by, C.c_ml, ho, C.c_lk, C.c_rt, C.c_nm⟩
theorem w_ldcS (q : Nat) (hq : pc + 2 = q) (C : Ctx p (s.setVm vm0) m meth c Z own nm bytes ml rt) (X : Stand p l e R (s.setVm vm0) m args below meth c T locs cells slots) (hS : s.Since vm0 k0) (hk : k0 ≤ T.heap.size) {i : Nat} {text : String} (w : (Cond.stringLink own i text).before a0 Z = true) (wS : ∀ a ∈ Bundle.stringAtoms, a.before a0 Z = true) (eT : T.heap = h) (hd : decode bytes pc = .ok (.ldc i, 2)) (n : Nat) (hn : 4 * text.toList.length ≤ n) (hbig : n ≤ 536870912) (hc : cells + 2 ≤ R.cells) (hl : slots + (n + 4) ≤ R.slots)
    (k : ∀ a T' h' k1, Ctx p (s.setVm T'.vm) m meth c Z own nm bytes ml rt → Stand p l e R (s.setVm T'.vm) m args below meth c T' locs (cells + 2) (slots + (n + 4)) → T'.heap = h' → Ext h h' → s.Since T'.vm k1 → k1 ≤ T'.heap.size → Goes p e below E T' m q Ls (.ref a :: St)) : Goes p e below E T m pc Ls St := by
  subst hq
  obtain ⟨a, T', h', k1, X', e', E', S', hk', hZ', ho', st⟩ := ldcS X C.c_x C.c_z C.c_own w wS eT hS (by rw [← eT]; exact hk) (g := mkF m pc Ls St) rfl (hb C.c_by hd) hn hbig hc hl
  exact (k a T' h' k1 (C.to hZ' ho') X' e' E' S' (by rw [e']; exact hk')).back fun t kt => st t kt
theorem w_retW (C : Ctx p (s.setVm vm0) m meth c Z own nm bytes ml rt) (X : Stand p l e R (s.setVm vm0) m args below meth c T locs cells slots) (hS : s.Since vm0 k0) (hk : k0 ≤ T.heap.size) {w : Value} {t : FieldType} {i : Instr} (hrt : rt = some t) (hn : narrow t w = w)
    (hi : (i = .ireturn ∧ (t = .int ∨ t = .boolean ∨ t = .byte ∨ t = .char ∨ t = .short) ∧ ∃ z, w = .int z) ∨ (i = .lreturn ∧ t = .long ∧ ∃ z, w = .long z) ∨ (i = .dreturn ∧ t = .double ∧ ∃ z, w = .double z) ∨ (i = .freturn ∧ t = .float ∧ ∃ z, w = .float z) ∨ (i = .areturn ∧ t.isReference = true ∧ w.isRef = true))
    (hd : decode bytes pc = .ok (i, 1)) (eT : T.heap = h) (hc : cells ≤ CC) (hs : slots ≤ SS) (hQ : Q (some w) h locs) : Goes p e below (EndW s Q CC SS) T m pc Ls (w :: St) := by
  obtain ⟨fs, hr, hrun, hended, h1, h2, h3, h4⟩ := X.leaveW hS hk (v := some w) (fun r => by rw [C.c_rt, hrt] at r; cases r) C.c_lk
  subst eT
  exact ⟨_, _, retOut X C.c_x (C.c_rt.trans hrt) hn hi (hb C.c_by hd) hr, hrun, hended, _, _, rfl, hQ, h1, h2, h3, h4.mono hc hs⟩
theorem w_retA (C : Ctx p (s.setVm vm0) m meth c Z own nm bytes ml rt) (X : Stand p l e R (s.setVm vm0) m args below meth c T locs cells slots) (hS : s.Since vm0 k0) (hk : k0 ≤ T.heap.size) {w : Value} {t : FieldType} (hrt : rt = some t) (ht : t.isReference = true) (hw : w.isRef = true) (hn : narrow t w = w) (hd : decode bytes pc = .ok (.areturn, 1)) (eT : T.heap = h) (hc : cells ≤ CC) (hs : slots ≤ SS) (hQ : Q (some w) h locs) : Goes p e below (EndW s Q CC SS) T m pc Ls (w :: St) :=
  w_retW C X hS hk hrt hn (Or.inr (Or.inr (Or.inr (Or.inr ⟨rfl, ht, hw⟩)))) hd eT hc hs hQ
theorem w_retN (C : Ctx p (s.setVm vm0) m meth c Z own nm bytes ml rt) (X : Stand p l e R (s.setVm vm0) m args below meth c T locs cells slots) (hS : s.Since vm0 k0) (hk : k0 ≤ T.heap.size) {z z' : Int32} {t : FieldType} (hrt : rt = some t) (ht : t = .boolean ∨ t = .byte ∨ t = .char ∨ t = .short) (hd : decode bytes pc = .ok (.ireturn, 1)) (eT : T.heap = h) (hc : cells ≤ CC) (hs : slots ≤ SS) (hz : nar t z = z') (hQ : Q (some (.int z')) h locs) : Goes p e below (EndW s Q CC SS) T m pc Ls (.int z :: St) := by
  obtain ⟨fs, hr, hrun, hended, h1, h2, h3, h4⟩ := X.leaveW hS hk (v := some (.int (nar t z))) (fun r => by rw [C.c_rt, hrt] at r; cases r) C.c_lk
  subst eT
  subst hz
  exact ⟨_, _, retN X C.c_x (C.c_rt.trans hrt) ht (hb C.c_by hd) hr, hrun, hended, _, _, rfl, hQ, h1, h2, h3, h4.mono hc hs⟩
theorem w_retV (C : Ctx p (s.setVm vm0) m meth c Z own nm bytes ml rt) (X : Stand p l e R (s.setVm vm0) m args below meth c T locs cells slots) (hS : s.Since vm0 k0) (hk : k0 ≤ T.heap.size) (hrt : rt = none) (hd : decode bytes pc = .ok (.return_, 1)) (eT : T.heap = h) (hc : cells ≤ CC) (hs : slots ≤ SS) (hQ : Q none h locs) : Goes p e below (EndW s Q CC SS) T m pc Ls [] := by
  obtain ⟨fs, hr, hrun, hended, h1, h2, h3, h4⟩ := X.leaveW hS hk (v := none) (fun _ => rfl) C.c_lk
  subst eT
  exact ⟨_, _, X.returnOut C.c_x (C.c_rt.trans hrt) (hb C.c_by hd) hr, hrun, hended, _, _, rfl, hQ, h1, h2, h3, h4.mono hc hs⟩
theorem w_callS (q : Nat) (hq : pc + 3 = q) (C : Ctx p (s.setVm vm0) m meth c Z own nm bytes ml rt) (X : Stand p l e R (s.setVm vm0) m args below meth c T locs cells slots) (hS : s.Since vm0 k0) (hk : k0 ≤ T.heap.size) {y : MethodName} {bytes' : ByteArray} {maxL' : Nat} {ret' : Option FieldType} {rm : Room} {Q' : Option Value → Heap → List Loc → Prop} {i W : Nat} {argsL : List Value} (w1 : (Cond.methodLink own i y).before a0 Z = true) (w2 : (Cond.static y).before a0 Z = true) (wc : (Cond.code y bytes' maxL' ret').before a0 Z = true) (wz : (Cond.initialized y.cls).before a0 Z = true) (eT : T.heap = h) (M : MetFree l y (head1 [Cond.code y bytes' maxL' ret'] rm) (fun a' U => a' = argsL.toArray ∧ Z.Warmed39 U.vm ∧ U.heap = h) (fun _ _ _ _ _ => True) (fun _ U o U' => ∃ v L, o = .returned v ∧ Q' v U'.heap L ∧ ReturnedEndW U o U' L rm.cells rm.slots)) (hlen : ∀ sig, parseMethodDescriptor y.desc = some sig → argsL.length = sig.parameters.length) (hf : rm.frames + 1 ≤ R.frames) (hl : W + (maxL' + 11) + rm.locals ≤ R.locals) (hc : cells + rm.cells ≤ R.cells) (hsl : slots + rm.slots ≤ R.slots) (hsz : Ls.size = ml) (hW : (St.map fun v => v.category).sum ≤ W) (hy : y.cls ≠ "java/lang/invoke/MethodHandle" ∧ y.cls ≠ "java/lang/invoke/VarHandle") (hd : decode bytes pc = .ok (.invokestatic i, 3)) {St0 : List Value} (hst : St0 = argsL.reverse ++ St)
    (k : ∀ v T' L k1, Ctx p (s.setVm T'.vm) m meth c Z own nm bytes ml rt → Stand p l e R (s.setVm T'.vm) m args below meth c T' (locs ++ L) (cells + rm.cells) (slots + rm.slots) → s.Since T'.vm k1 → k1 ≤ T'.heap.size → Q' v T'.heap L → Goes p e below E T' m q Ls (v.toList ++ St)) : Goes p e below E T m pc Ls St0 := by
  subst hq hst
  obtain ⟨v, _, ⟨T', L', k', n'⟩, -, X', S', g', ⟨Lc, hQ', l', y', z'⟩, st⟩ := callSS X C.c_x (y := y) C.c_own (mvT C.c_z w1) (mvT C.c_z w2) (mvT C.c_z wz) (mvT C.c_z wc) hy (backOfS (W := W) M C.c_z wc wz hf hl) (g := mkF m pc Ls (argsL.reverse ++ St)) rfl (hsz.trans C.c_ml.symm) (argsL := argsL) (rest := St) hlen rfl (by show 2 * 0 + _ ≤ _; omega) (hb C.c_by hd) (fun _ _ => ⟨rfl, eT, hc, hsl⟩)
  dsimp only [Pt.U, Pt.locs, Pt.cells, Pt.slots] at X' l' y' z' st hQ' S' g'
  subst l' y' z'
  obtain ⟨X2, S2, hZ2, ho2⟩ := rebS hS hk X' S' g' C.c_z C.c_own
  exact (k v T' Lc _ (C.to hZ2 ho2) X2 S2 (Nat.le_refl _) hQ').back fun t kt => st.trans kt
theorem w_callN (q : Nat) (hq : pc + 3 = q) (C : Ctx p (s.setVm vm0) m meth c Z own nm bytes ml rt) (X : Stand p l e R (s.setVm vm0) m args below meth c T locs cells slots) (hS : s.Since vm0 k0) (hk : k0 ≤ T.heap.size) {y : MethodName} {bytes' : ByteArray} {maxL' : Nat} {ret' : Option FieldType} {rm : Room} {Q' : Option Value → Heap → List Loc → Prop} {i W : Nat} {a : Addr} {argsL : List Value} (hy1 : y.name = "<init>") (hre : ret' = none) (w1 : (Cond.methodLink own i y).before a0 Z = true) (w2 : (Cond.instanceMethod y).before a0 Z = true) (wc : (Cond.code y bytes' maxL' ret').before a0 Z = true) (wz : (Cond.initialized y.cls).before a0 Z = true) (eT : T.heap = h) (M : MetFree l y (head1 [Cond.code y bytes' maxL' ret'] rm) (fun a' U => a' = (.ref a :: argsL).toArray ∧ Z.Warmed39 U.vm ∧ U.heap = h) (fun _ _ _ _ _ => True) (fun _ U o U' => ∃ v L, o = .returned v ∧ Q' v U'.heap L ∧ ReturnedEndW U o U' L rm.cells rm.slots)) (hlen : ∀ sig, parseMethodDescriptor y.desc = some sig → argsL.length = sig.parameters.length) (hf : rm.frames + 1 ≤ R.frames) (hl : W + (maxL' + 11) + rm.locals ≤ R.locals) (hc : cells + rm.cells ≤ R.cells) (hsl : slots + rm.slots ≤ R.slots) (hsz : Ls.size = ml) (hW : (St.map fun v => v.category).sum ≤ W) (hy : y.cls ≠ "java/lang/invoke/MethodHandle" ∧ y.cls ≠ "java/lang/invoke/VarHandle") (hd : decode bytes pc = .ok (.invokespecial i, 3)) {St0 : List Value} (hst : St0 = argsL.reverse ++ .ref a :: St)
    (k : ∀ v T' L k1, Ctx p (s.setVm T'.vm) m meth c Z own nm bytes ml rt → Stand p l e R (s.setVm T'.vm) m args below meth c T' (locs ++ L) (cells + rm.cells) (slots + rm.slots) → s.Since T'.vm k1 → k1 ≤ T'.heap.size → Q' v T'.heap L → Goes p e below E T' m q Ls (v.toList ++ St)) : Goes p e below E T m pc Ls St0 := by
  subst hq hst hre
  obtain ⟨v, _, ⟨T', L', k', n'⟩, -, X', S', g', ⟨Lc, hQ', l', y', z'⟩, st⟩ := X.specialBackS C.c_x (y := y) hy1 C.c_own (mvT C.c_z w1) (mvT C.c_z w2) (mvT C.c_z wc) hy (backOfS (W := W) M C.c_z wc wz hf hl) (g := mkF m pc Ls (argsL.reverse ++ .ref a :: St)) rfl (hsz.trans C.c_ml.symm) (Steps.refl _) (a := a) (argsL := argsL) (rest := St) hlen rfl (by show 2 * 0 + _ ≤ _; omega) (hb C.c_by hd) (fun _ _ => ⟨rfl, eT, hc, hsl⟩)
  dsimp only [Pt.U, Pt.locs, Pt.cells, Pt.slots] at X' l' y' z' st hQ' S' g'
  subst l' y' z'
  obtain ⟨X2, S2, hZ2, ho2⟩ := rebS hS hk X' S' g' C.c_z C.c_own
  exact (k v T' Lc _ (C.to hZ2 ho2) X2 S2 (Nat.le_refl _) hQ').back fun t kt => st.trans kt
end OwnWide
section OwnArith
theorem own_mulc (x y : Int32) (k : Int) (hk : y.toInt = k) : ((x * y).toInt - x.toInt * k) % 4294967296 = 0 := hk ▸ c_imul x y
theorem own_mulc' (x y : Int32) (k : Int) (hk : x.toInt = k) : ((x * y).toInt - k * y.toInt) % 4294967296 = 0 := hk ▸ c_imul x y
theorem own_lmulc (x y : Int64) (k : Int) (hk : y.toInt = k) : ((x * y).toInt - x.toInt * k) % 18446744073709551616 = 0 := hk ▸ c_lmul x y
theorem own_lmulc' (x y : Int64) (k : Int) (hk : x.toInt = k) : ((x * y).toInt - k * y.toInt) % 18446744073709551616 = 0 := hk ▸ c_lmul x y
theorem own_bvor (x y : BitVec 32) : (x ||| y) + (x &&& y) = x + y := by
  have h1 : x = (x &&& y) + (x &&& ~~~y) := by
    rw [BitVec.add_eq_or_of_and_eq_zero]
    · ext i; simp; cases x[i] <;> cases y[i] <;> rfl
    · ext i; simp; cases x[i] <;> cases y[i] <;> simp
  have h2 : x ||| y = y + (x &&& ~~~y) := by
    rw [BitVec.add_eq_or_of_and_eq_zero]
    · ext i; simp; cases x[i] <;> cases y[i] <;> rfl
    · ext i; simp; cases x[i] <;> cases y[i] <;> simp
  rw [h2]
  conv => rhs; rw [h1]
  ac_rfl
theorem own_or0 (x y : Int32) : (x ||| y) + (x &&& y) = x + y := Int32.toBitVec_inj.mp (by simpa using own_bvor x.toBitVec y.toBitVec)
theorem own_or (x y : Int32) : ((x ||| y).toInt + (x &&& y).toInt - (x.toInt + y.toInt)) % 4294967296 = 0 := by
  have h1 := c_iadd (x ||| y) (x &&& y)
  have h2 := c_iadd x y
  rw [own_or0] at h1; omega
theorem own_bvblk (x m a b : BitVec 32) (h1 : m ||| a = b) (h2 : m &&& a = 0#32) : (x &&& m) + (x &&& a) = x &&& b := by
  rw [BitVec.add_eq_or_of_and_eq_zero, ← h1]
  · ext i; simp; cases x[i] <;> simp
  · have : (x &&& m) &&& (x &&& a) = x &&& (m &&& a) := by ext i; simp; cases x[i] <;> simp
    rw [this, h2]; simp
theorem own_blk (x m a b : Int32) (h1 : m ||| a = b) (h2 : m &&& a = 0) : ((x &&& m).toInt + (x &&& a).toInt - (x &&& b).toInt) % 4294967296 = 0 := by
  have e : (x &&& m) + (x &&& a) = x &&& b := Int32.toBitVec_inj.mp (by
    have q1 := congrArg Int32.toBitVec h1
    have q2 := congrArg Int32.toBitVec h2
    simpa using own_bvblk x.toBitVec m.toBitVec a.toBitVec b.toBitVec (by simpa using q1) (by simpa using q2))
  have := c_iadd (x &&& m) (x &&& a)
  rw [e] at this; omega
theorem own_andM1 (x : Int32) : x &&& (-1) = x := Int32.toBitVec_inj.mp (by ext i; simp)
theorem own_narZ {b : Int32} (hb : b.toInt = 0 ∨ b.toInt = 1) : nar .boolean b = b := by
  have : b = 0 ∨ b = 1 := by
    rcases hb with q | q
    · exact Or.inl (Int32.toInt_inj.mp q)
    · exact Or.inr (Int32.toInt_inj.mp q)
  rcases this with rfl | rfl <;> decide
theorem own_narC {b : Int32} (h0 : 0 ≤ b.toInt) (h1 : b.toInt < 65536) : nar .char b = b := by
  have := c_i2c b
  exact Int32.toInt_inj.mp (by show b.toUInt32.toUInt16.toUInt32.toInt32.toInt = _; omega)
theorem own_narB {b : Int32} (h0 : -128 ≤ b.toInt) (h1 : b.toInt < 128) : nar .byte b = b := by
  have := c_i2b b
  exact Int32.toInt_inj.mp (by show b.toInt8.toInt32.toInt = _; omega)
theorem own_eq {x y : Int32} (q : x.toInt = y.toInt) : x = y := Int32.toInt_inj.mp q
theorem own_eqL {x y : Int64} (q : x.toInt = y.toInt) : x = y := Int64.toInt_inj.mp q
end OwnArith


theorem own_strA {Z : State} (a0 : Array Value) (hw : ∀ d ∈ tables_1, d.before a0 Z = true) : ∀ a ∈ Bundle.stringAtoms, a.before a0 Z = true := by
  intro d hd
  simp only [Bundle.stringAtoms, List.mem_cons, List.not_mem_nil, or_false] at hd
  rcases hd with rfl | rfl | rfl | rfl | rfl | rfl | rfl
  · exact (hw _ (List.mem_of_getElem? (i := 26) rfl))
  · exact (hw _ (List.mem_of_getElem? (i := 27) rfl))
  · exact (hw _ (List.mem_of_getElem? (i := 28) rfl))
  · exact (hw _ (List.mem_of_getElem? (i := 29) rfl))
  · exact (hw _ (List.mem_of_getElem? (i := 30) rfl))
  · exact (hw _ (List.mem_of_getElem? (i := 31) rfl))
  · exact (hw _ (List.mem_of_getElem? (i := 32) rfl))
theorem d2_0 : decode jdk_30_method_1_code 0 = .ok (.aload_n 0, 1) := by decide +kernel
theorem d2_1 : decode jdk_30_method_1_code 1 = .ok (.invokespecial 1, 3) := by decide +kernel
theorem d2_4 : decode jdk_30_method_1_code 4 = .ok (.return_, 1) := by decide +kernel
theorem pn_16976308 : plainName "java/lang/Record" = true := by first | (simp [plainName, overriddenIn]; done) | decide +kernel
theorem ef_2 (m : MethodId) (b0 : Addr) : entryFrame m #[(.ref b0)] 1 = mkF m 0 #[.val (.ref b0)] [] := by first | (simp [entryFrame, mkF, argsToLocals, Value.category]; done) | rfl
def Q2 (Z : State) (b0 : Addr) (h0 : Heap) (n0 : Nat) (v : Option Value) (h : Heap) (L : List Loc) : Prop := v = none ∧ Fr n0 L ∧ h = h0
set_option maxRecDepth 65536 in
set_option maxHeartbeats 40000000 in
theorem rm2 (l : Launch) (Z : State) (a0 : Array Value) (hw : ∀ d ∈ tables_1, d.before a0 Z = true) (ws : List Jvm.Cond) (b0 : Addr) (h0 : Heap) (n0 : Nat) (Z0 : n0 ≤ h0.size) :
    MetFree l (⟨"java/lang/Record", "<init>", "()V"⟩ : MethodName) (head1 (Jvm.Cond.code (⟨"java/lang/Record", "<init>", "()V"⟩ : MethodName) jdk_30_method_1_code 1 none :: ws) ({ frames := 1, cells := 0, slots := 0, locals := 12 } : Room)) (fun a U => a = #[(.ref b0)] ∧ Z.Warmed39 U.vm ∧ U.heap = h0) (fun _ _ _ _ _ => True) (fun _ U o U' => ∃ v L, o = .returned v ∧ Q2 Z b0 h0 n0 v U'.heap L ∧ FrameEnd U o U' L ({ frames := 1, cells := 0, slots := 0, locals := 12 } : Room).cells ({ frames := 1, cells := 0, slots := 0, locals := 12 } : Room).slots) := by
  refine MetFree.of_bodySF (plainFor_of_name pn_16976308) hisR ?_
  intro p e s m args below meth c s₁ Bd hml0 hP hK
  obtain ⟨rfl, hZ, hh⟩ := hP
  have C : Ctx p s m meth c Z "java/lang/Record" "<init>" jdk_30_method_1_code 1 none := Ctx.of Bd hml0 hZ
  have X0 : Stand p l e ({ frames := 1, cells := 0, slots := 0, locals := 12 } : Room) s m #[(.ref b0)] below meth c s₁ [] 0 0 := Stand.of_body Bd
  have e0 : s₁.heap = h0 := by rw [← hh, Bd.state]; rfl
  have N0 := Fr.nil n0
  refine Goes.enter (ef_2 m b0) ?_
  clear hK hml0 hh
  refine g_aloadN 1 rfl C X0 d2_0 rfl rfl ?_
  refine g_initO 4 rfl C X0 (hw _ (List.mem_of_getElem? (i := 11) rfl)) (hw _ (List.mem_of_getElem? (i := 12) rfl)) (hw _ (List.mem_of_getElem? (i := 13) rfl)) e0 d2_1 rfl (by decide) (W := 0) (Nat.le_of_eq rfl) (by decide) fun T1 X2 e3 => ?_
  exact g_retV C X2 rfl d2_4 e3 (by decide) (by decide) ⟨rfl, N0, rfl⟩
theorem d1_0 : decode prog_19_method_1_code 0 = .ok (.aload_n 0, 1) := by decide +kernel
theorem d1_1 : decode prog_19_method_1_code 1 = .ok (.invokespecial 3, 3) := by decide +kernel
theorem pd_16428534 : parseMethodDescriptor "()V" = some ⟨[], none⟩ := by decide +kernel
theorem d1_4 : decode prog_19_method_1_code 4 = .ok (.iload_n 1, 1) := by decide +kernel
theorem d1_5 : decode prog_19_method_1_code 5 = .ok (.iconst 1, 1) := by decide +kernel
theorem d1_6 : decode prog_19_method_1_code 6 = .ok (.if_icmp .lt 9, 3) := by decide +kernel
theorem d1_9 : decode prog_19_method_1_code 9 = .ok (.iload_n 1, 1) := by decide +kernel
theorem d1_10 : decode prog_19_method_1_code 10 = .ok (.bipush 8, 2) := by decide +kernel
theorem d1_12 : decode prog_19_method_1_code 12 = .ok (.if_icmp .le 17, 3) := by decide +kernel
theorem d1_29 : decode prog_19_method_1_code 29 = .ok (.iload_n 2, 1) := by decide +kernel
theorem d1_30 : decode prog_19_method_1_code 30 = .ok (.iconst 1, 1) := by decide +kernel
theorem d1_31 : decode prog_19_method_1_code 31 = .ok (.if_icmp .lt 9, 3) := by decide +kernel
theorem d1_34 : decode prog_19_method_1_code 34 = .ok (.iload_n 2, 1) := by decide +kernel
theorem d1_35 : decode prog_19_method_1_code 35 = .ok (.ldc 18, 2) := by decide +kernel
theorem d1_37 : decode prog_19_method_1_code 37 = .ok (.if_icmp .le 17, 3) := by decide +kernel
theorem d1_54 : decode prog_19_method_1_code 54 = .ok (.aload_n 0, 1) := by decide +kernel
theorem d1_55 : decode prog_19_method_1_code 55 = .ok (.iload_n 1, 1) := by decide +kernel
theorem d1_56 : decode prog_19_method_1_code 56 = .ok (.putfield 20, 3) := by decide +kernel
theorem d1_59 : decode prog_19_method_1_code 59 = .ok (.aload_n 0, 1) := by decide +kernel
theorem d1_60 : decode prog_19_method_1_code 60 = .ok (.iload_n 2, 1) := by decide +kernel
theorem d1_61 : decode prog_19_method_1_code 61 = .ok (.putfield 24, 3) := by decide +kernel
theorem d1_64 : decode prog_19_method_1_code 64 = .ok (.return_, 1) := by decide +kernel
theorem pn_75164168 : plainName "com/example/vaglio/vaglio/filter/FilterShape" = true := by first | (simp [plainName, overriddenIn]; done) | decide +kernel
theorem ef_1 (m : MethodId) (b0 : Addr) (p1 : Int32) (p2 : Int32) : entryFrame m #[(.ref b0), (.int p1), (.int p2)] 3 = mkF m 0 #[.val (.ref b0), .val (.int p1), .val (.int p2)] [] := by first | (simp [entryFrame, mkF, argsToLocals, Value.category]; done) | rfl
def Q1 (Z : State) (b0 : Addr) (p1 : Int32) (p2 : Int32) (h0 : Heap) (n0 : Nat) (v : Option Value) (h : Heap) (L : List Loc) : Prop := v = none ∧ Fr n0 L ∧ Keep h0 h [b0] ∧ Exa Z h b0 "com/example/vaglio/vaglio/filter/FilterShape" ∧ Fld Z h b0 "com/example/vaglio/vaglio/filter/FilterShape" "hashes" "I" (.int p1) ∧ Fld Z h b0 "com/example/vaglio/vaglio/filter/FilterShape" "rows" "I" (.int p2)
set_option maxRecDepth 65536 in
set_option maxHeartbeats 40000000 in
theorem rm1 (l : Launch) (Z : State) (a0 : Array Value) (hw : ∀ d ∈ tables_1, d.before a0 Z = true) (ws : List Jvm.Cond) (b0 : Addr) (p1 : Int32) (p2 : Int32) (h0 : Heap) (n0 : Nat) (Z0 : n0 ≤ h0.size) (E_b0 : Exa Z h0 b0 "com/example/vaglio/vaglio/filter/FilterShape") (F_b0_hashes : Fld Z h0 b0 "com/example/vaglio/vaglio/filter/FilterShape" "hashes" "I" (.int (0 : Int32))) (F_b0_rows : Fld Z h0 b0 "com/example/vaglio/vaglio/filter/FilterShape" "rows" "I" (.int (0 : Int32))) (g_b0 : n0 ≤ b0) (q1 : 1 ≤ p1.toInt ∧ p1.toInt ≤ 8) (q2 : 1 ≤ p2.toInt ∧ p2.toInt ≤ 1024) :
    MetFree l (⟨"com/example/vaglio/vaglio/filter/FilterShape", "<init>", "(II)V"⟩ : MethodName) (head1 (Jvm.Cond.code (⟨"com/example/vaglio/vaglio/filter/FilterShape", "<init>", "(II)V"⟩ : MethodName) prog_19_method_1_code 3 none :: ws) ({ frames := 2, cells := 0, slots := 0, locals := 24 } : Room)) (fun a U => a = #[(.ref b0), (.int p1), (.int p2)] ∧ Z.Warmed39 U.vm ∧ U.heap = h0) (fun _ _ _ _ _ => True) (fun _ U o U' => ∃ v L, o = .returned v ∧ Q1 Z b0 p1 p2 h0 n0 v U'.heap L ∧ FrameEnd U o U' L ({ frames := 2, cells := 0, slots := 0, locals := 24 } : Room).cells ({ frames := 2, cells := 0, slots := 0, locals := 24 } : Room).slots) := by
  refine MetFree.of_bodySF (plainFor_of_name pn_75164168) hisR ?_
  intro p e s m args below meth c s₁ Bd hml0 hP hK
  obtain ⟨rfl, hZ, hh⟩ := hP
  have C : Ctx p s m meth c Z "com/example/vaglio/vaglio/filter/FilterShape" "<init>" prog_19_method_1_code 3 none := Ctx.of Bd hml0 hZ
  have X0 : Stand p l e ({ frames := 2, cells := 0, slots := 0, locals := 24 } : Room) s m #[(.ref b0), (.int p1), (.int p2)] below meth c s₁ [] 0 0 := Stand.of_body Bd
  have e0 : s₁.heap = h0 := by rw [← hh, Bd.state]; rfl
  have N0 := Fr.nil n0
  refine Goes.enter (ef_1 m b0 p1 p2) ?_
  clear hK hml0 hh
  refine g_aloadN 1 rfl C X0 d1_0 rfl rfl ?_
  refine g_callN 4 rfl C X0 (argsL := []) rfl rfl (hw _ (List.mem_of_getElem? (i := 6) rfl)) (hw _ (List.mem_of_getElem? (i := 7) rfl)) (hw _ (List.mem_of_getElem? (i := 10) rfl)) (hw _ (List.mem_of_getElem? (i := 9) rfl)) e0 (rm2 l Z a0 hw [] b0 h0 n0 Z0) (lenOf pd_16428534 rfl) (by decide) (by decide) (by decide) (by decide) rfl (W := 0) (Nat.le_of_eq rfl) (by decide) d1_1 rfl fun r1 T2 Lc3 X4 hQ5 => ?_
  obtain ⟨rfl, Nq6, eh7⟩ := hQ5
  have N8 := Fr.app N0 Nq6
  show Goes _ _ _ _ _ _ 4 _ []
  refine g_iloadN 5 rfl C X4 d1_4 rfl ?_
  refine g_iconst 6 rfl C X4 (1 : Int32) d1_5 rfl ?_
  have fr9 := rng32 p1
  have fc10 : (1 : Int32).toInt = 1 := rfl
  have hb11 : ¬ (p1.toInt < (1 : Int32).toInt) := by omega
  refine g_icmp_lt_f 9 rfl C X4 d1_6 hb11 ?_
  refine g_iloadN 10 rfl C X4 d1_9 rfl ?_
  refine g_bipush 12 rfl C X4 (8 : Int32) d1_10 rfl ?_
  have fc12 : (8 : Int32).toInt = 8 := rfl
  have hb13 : ¬ ((8 : Int32).toInt < p1.toInt) := by omega
  refine g_icmp_le_t 29 C X4 d1_12 (by decide) (by decide) hb13 ?_
  refine g_iloadN 30 rfl C X4 d1_29 rfl ?_
  refine g_iconst 31 rfl C X4 (1 : Int32) d1_30 rfl ?_
  have fr14 := rng32 p2
  have hb15 : ¬ (p2.toInt < (1 : Int32).toInt) := by omega
  refine g_icmp_lt_f 34 rfl C X4 d1_31 hb15 ?_
  refine g_iloadN 35 rfl C X4 d1_34 rfl ?_
  refine g_ldc 37 rfl C X4 (hw _ (List.mem_of_getElem? (i := 14) rfl)) d1_35 ?_
  have fc16 : (4194304 : Int32).toInt = 4194304 := rfl
  have hb17 : ¬ ((4194304 : Int32).toInt < p2.toInt) := by omega
  refine g_icmp_le_t 54 C X4 d1_37 (by decide) (by decide) hb17 ?_
  refine g_aloadN 55 rfl C X4 d1_54 rfl rfl ?_
  refine g_iloadN 56 rfl C X4 d1_55 rfl ?_
  refine g_putF 59 rfl C X4 (host := "") (Or.inl (hw _ (List.mem_of_getElem? (i := 15) rfl))) Via.refl eh7 F_b0_hashes E_b0 (Or.inr ⟨(hw _ (List.mem_of_getElem? (i := 16) rfl)), rfl, rfl⟩) (hw _ (List.mem_of_getElem? (i := 1) rfl)) (ty := .int) (by decide) rfl rfl d1_56 N8 g_b0 fun T18 h19 ls20 X21 e22 W23 N24 => ?_
  have F25 : Fld Z h19 b0 "com/example/vaglio/vaglio/filter/FilterShape" "hashes" "I" (.int p1) := F_b0_hashes.same W23
  have F26 := E_b0.wr W23
  have F27 := F_b0_rows.other W23 (Or.inr (slot_ne (Or.inr (hw _ (List.mem_of_getElem? (i := 18) rfl))) (Or.inr (hw _ (List.mem_of_getElem? (i := 16) rfl))) (by decide) (t := .int) (t' := .int) (by decide) (by decide)))
  have Zs28 := Nat.le_trans Z0 (Nat.le_of_eq W23.size.symm)
  have Kp29 : Keep h0 h19 [b0] := (Keep.refl h0 [b0]).wr W23 (Or.inl (List.mem_of_getElem? (i := 0) rfl))
  refine g_aloadN 60 rfl C X21 d1_59 rfl rfl ?_
  refine g_iloadN 61 rfl C X21 d1_60 rfl ?_
  refine g_putF 64 rfl C X21 (host := "") (Or.inl (hw _ (List.mem_of_getElem? (i := 17) rfl))) Via.refl e22 F27 F26 (Or.inr ⟨(hw _ (List.mem_of_getElem? (i := 18) rfl)), rfl, rfl⟩) (hw _ (List.mem_of_getElem? (i := 1) rfl)) (ty := .int) (by decide) rfl rfl d1_61 N24 g_b0 fun T30 h31 ls32 X33 e34 W35 N36 => ?_
  have F37 : Fld Z h31 b0 "com/example/vaglio/vaglio/filter/FilterShape" "rows" "I" (.int p2) := F27.same W35
  have F38 := F26.wr W35
  have F39 := F25.other W35 (Or.inr (slot_ne (Or.inr (hw _ (List.mem_of_getElem? (i := 16) rfl))) (Or.inr (hw _ (List.mem_of_getElem? (i := 18) rfl))) (by decide) (t := .int) (t' := .int) (by decide) (by decide)))
  have Zs40 := Nat.le_trans Zs28 (Nat.le_of_eq W35.size.symm)
  have Kp41 : Keep h0 h31 [b0] := Kp29.wr W35 (Or.inl (List.mem_of_getElem? (i := 0) rfl))
  exact g_retV C X33 rfl d1_64 e34 (by decide) (by decide) ⟨rfl, N36, Kp41, F38, F39, F37⟩
theorem d5_0 : decode jdk_31_method_11_code 0 = .ok (.aload_n 0, 1) := by decide +kernel
theorem d5_1 : decode jdk_31_method_11_code 1 = .ok (.ifnonnull 12, 3) := by decide +kernel
theorem d5_13 : decode jdk_31_method_11_code 13 = .ok (.aload_n 0, 1) := by decide +kernel
theorem d5_14 : decode jdk_31_method_11_code 14 = .ok (.areturn, 1) := by decide +kernel
theorem pn_50637713 : plainName "java/util/Objects" = true := by first | (simp [plainName, overriddenIn]; done) | decide +kernel
theorem ef_5 (m : MethodId) (b0 : Addr) (b1 : Addr) : entryFrame m #[(.ref b0), (.ref b1)] 2 = mkF m 0 #[.val (.ref b0), .val (.ref b1)] [] := by first | (simp [entryFrame, mkF, argsToLocals, Value.category]; done) | rfl
def Q5 (Z : State) (b0 : Addr) (b1 : Addr) (h0 : Heap) (n0 : Nat) (v : Option Value) (h : Heap) (L : List Loc) : Prop := v = some (.ref b0) ∧ Fr n0 L ∧ h = h0
set_option maxRecDepth 65536 in
set_option maxHeartbeats 40000000 in
theorem rm5 (l : Launch) (Z : State) (a0 : Array Value) (hw : ∀ d ∈ tables_1, d.before a0 Z = true) (ws : List Jvm.Cond) (b0 : Addr) (b1 : Addr) (h0 : Heap) (n0 : Nat) (Z0 : n0 ≤ h0.size) :
    MetFree l (⟨"java/util/Objects", "requireNonNull", "(Ljava/lang/Object;Ljava/lang/String;)Ljava/lang/Object;"⟩ : MethodName) (head1 (Jvm.Cond.code (⟨"java/util/Objects", "requireNonNull", "(Ljava/lang/Object;Ljava/lang/String;)Ljava/lang/Object;"⟩ : MethodName) jdk_31_method_11_code 2 (some (.object "java/lang/Object")) :: ws) ({ frames := 0, cells := 0, slots := 0, locals := 0 } : Room)) (fun a U => a = #[(.ref b0), (.ref b1)] ∧ Z.Warmed39 U.vm ∧ U.heap = h0) (fun _ _ _ _ _ => True) (fun _ U o U' => ∃ v L, o = .returned v ∧ Q5 Z b0 b1 h0 n0 v U'.heap L ∧ FrameEnd U o U' L ({ frames := 0, cells := 0, slots := 0, locals := 0 } : Room).cells ({ frames := 0, cells := 0, slots := 0, locals := 0 } : Room).slots) := by
  refine MetFree.of_bodySF (plainFor_of_name pn_50637713) hisR ?_
  intro p e s m args below meth c s₁ Bd hml0 hP hK
  obtain ⟨rfl, hZ, hh⟩ := hP
  have C : Ctx p s m meth c Z "java/util/Objects" "requireNonNull" jdk_31_method_11_code 2 (some (.object "java/lang/Object")) := Ctx.of Bd hml0 hZ
  have X0 : Stand p l e ({ frames := 0, cells := 0, slots := 0, locals := 0 } : Room) s m #[(.ref b0), (.ref b1)] below meth c s₁ [] 0 0 := Stand.of_body Bd
  have e0 : s₁.heap = h0 := by rw [← hh, Bd.state]; rfl
  have N0 := Fr.nil n0
  refine Goes.enter (ef_5 m b0 b1) ?_
  clear hK hml0 hh
  refine g_aloadN 1 rfl C X0 d5_0 rfl rfl ?_
  refine g_ifnonnull_t 13 C X0 d5_1 (by decide) (by decide) ?_
  refine g_aloadN 14 rfl C X0 d5_13 rfl rfl ?_
  exact g_retA C X0 rfl rfl rfl rfl d5_14 e0 (by decide) (by decide) ⟨rfl, N0, rfl⟩
theorem d6_0 : decode prog_19_method_12_code 0 = .ok (.aload_n 0, 1) := by decide +kernel
theorem d6_1 : decode prog_19_method_12_code 1 = .ok (.getfield 24, 3) := by decide +kernel
theorem d6_4 : decode prog_19_method_12_code 4 = .ok (.ireturn, 1) := by decide +kernel
theorem ef_6 (m : MethodId) (b0 : Addr) : entryFrame m #[(.ref b0)] 1 = mkF m 0 #[.val (.ref b0)] [] := by first | (simp [entryFrame, mkF, argsToLocals, Value.category]; done) | rfl
def Q6 (Z : State) (b0 : Addr) (w1 : Int32) (h0 : Heap) (n0 : Nat) (v : Option Value) (h : Heap) (L : List Loc) : Prop := v = some (.int w1) ∧ Fr n0 L ∧ h = h0
set_option maxRecDepth 65536 in
set_option maxHeartbeats 40000000 in
theorem rm6 (l : Launch) (Z : State) (a0 : Array Value) (hw : ∀ d ∈ tables_1, d.before a0 Z = true) (ws : List Jvm.Cond) (b0 : Addr) (w1 : Int32) (h0 : Heap) (n0 : Nat) (Z0 : n0 ≤ h0.size) (F_b0_rows : Fld Z h0 b0 "com/example/vaglio/vaglio/filter/FilterShape" "rows" "I" (.int w1)) :
    MetFree l (⟨"com/example/vaglio/vaglio/filter/FilterShape", "rows", "()I"⟩ : MethodName) (head1 (Jvm.Cond.code (⟨"com/example/vaglio/vaglio/filter/FilterShape", "rows", "()I"⟩ : MethodName) prog_19_method_12_code 1 (some .int) :: ws) ({ frames := 0, cells := 0, slots := 0, locals := 0 } : Room)) (fun a U => a = #[(.ref b0)] ∧ Z.Warmed39 U.vm ∧ U.heap = h0) (fun _ _ _ _ _ => True) (fun _ U o U' => ∃ v L, o = .returned v ∧ Q6 Z b0 w1 h0 n0 v U'.heap L ∧ FrameEnd U o U' L ({ frames := 0, cells := 0, slots := 0, locals := 0 } : Room).cells ({ frames := 0, cells := 0, slots := 0, locals := 0 } : Room).slots) := by
  refine MetFree.of_bodySF (plainFor_of_name pn_75164168) hisR ?_
  intro p e s m args below meth c s₁ Bd hml0 hP hK
  obtain ⟨rfl, hZ, hh⟩ := hP
  have C : Ctx p s m meth c Z "com/example/vaglio/vaglio/filter/FilterShape" "rows" prog_19_method_12_code 1 (some .int) := Ctx.of Bd hml0 hZ
  have X0 : Stand p l e ({ frames := 0, cells := 0, slots := 0, locals := 0 } : Room) s m #[(.ref b0)] below meth c s₁ [] 0 0 := Stand.of_body Bd
  have e0 : s₁.heap = h0 := by rw [← hh, Bd.state]; rfl
  have N0 := Fr.nil n0
  refine Goes.enter (ef_6 m b0) ?_
  clear hK hml0 hh
  refine g_aloadN 1 rfl C X0 d6_0 rfl rfl ?_
  refine g_getF 4 rfl C X0 (host := "") (Or.inl (hw _ (List.mem_of_getElem? (i := 17) rfl))) Via.refl e0 F_b0_rows d6_1 fun T1 X2 e3 => ?_
  exact g_retI C X2 rfl d6_4 e3 (by decide) (by decide) ⟨rfl, N0, rfl⟩
theorem d7_0 : decode prog_15_method_2_code 0 = .ok (.aload_n 0, 1) := by decide +kernel
theorem d7_1 : decode prog_15_method_2_code 1 = .ok (.invokespecial 23, 3) := by decide +kernel
theorem d7_4 : decode prog_15_method_2_code 4 = .ok (.aload_n 2, 1) := by decide +kernel
theorem d7_5 : decode prog_15_method_2_code 5 = .ok (.arraylength, 1) := by decide +kernel
theorem d7_6 : decode prog_15_method_2_code 6 = .ok (.aload_n 1, 1) := by decide +kernel
theorem d7_7 : decode prog_15_method_2_code 7 = .ok (.invokevirtual 13, 3) := by decide +kernel
theorem pd_16428521 : parseMethodDescriptor "()I" = some ⟨[], some .int⟩ := by decide +kernel
theorem d7_10 : decode prog_15_method_2_code 10 = .ok (.sipush 128, 3) := by decide +kernel
theorem d7_13 : decode prog_15_method_2_code 13 = .ok (.imul, 1) := by decide +kernel
theorem d7_14 : decode prog_15_method_2_code 14 = .ok (.if_icmp .eq 30, 3) := by decide +kernel
theorem d7_44 : decode prog_15_method_2_code 44 = .ok (.aload_n 0, 1) := by decide +kernel
theorem d7_45 : decode prog_15_method_2_code 45 = .ok (.aload_n 1, 1) := by decide +kernel
theorem d7_46 : decode prog_15_method_2_code 46 = .ok (.putfield 37, 3) := by decide +kernel
theorem d7_49 : decode prog_15_method_2_code 49 = .ok (.aload_n 0, 1) := by decide +kernel
theorem d7_50 : decode prog_15_method_2_code 50 = .ok (.aload_n 2, 1) := by decide +kernel
theorem d7_51 : decode prog_15_method_2_code 51 = .ok (.putfield 40, 3) := by decide +kernel
theorem d7_54 : decode prog_15_method_2_code 54 = .ok (.return_, 1) := by decide +kernel
theorem pn_46490325 : plainName "com/example/vaglio/vaglio/filter/Filter" = true := by first | (simp [plainName, overriddenIn]; done) | decide +kernel
theorem ef_7 (m : MethodId) (b0 : Addr) (b1 : Addr) (b2 : Addr) : entryFrame m #[(.ref b0), (.ref b1), (.ref b2)] 3 = mkF m 0 #[.val (.ref b0), .val (.ref b1), .val (.ref b2)] [] := by first | (simp [entryFrame, mkF, argsToLocals, Value.category]; done) | rfl
def Q7 (Z : State) (b0 : Addr) (b1 : Addr) (b2 : Addr) (w1 : Int32) (n : Nat) (f : Nat → Int32) (h0 : Heap) (n0 : Nat) (v : Option Value) (h : Heap) (L : List Loc) : Prop := v = none ∧ Fr n0 L ∧ Keep h0 h [b0] ∧ Exa Z h b0 "com/example/vaglio/vaglio/filter/Filter" ∧ Fld Z h b0 "com/example/vaglio/vaglio/filter/Filter" "shape" "Lcom/example/vaglio/vaglio/filter/FilterShape;" (.ref b1)
set_option maxRecDepth 65536 in
set_option maxHeartbeats 40000000 in
theorem rm7 (l : Launch) (Z : State) (a0 : Array Value) (hw : ∀ d ∈ tables_1, d.before a0 Z = true) (ws : List Jvm.Cond) (b0 : Addr) (b1 : Addr) (b2 : Addr) (w1 : Int32) (n : Nat) (f : Nat → Int32) (h0 : Heap) (n0 : Nat) (Z0 : n0 ≤ h0.size) (E_b0 : Exa Z h0 b0 "com/example/vaglio/vaglio/filter/Filter") (F_b0_shape : Fld Z h0 b0 "com/example/vaglio/vaglio/filter/Filter" "shape" "Lcom/example/vaglio/vaglio/filter/FilterShape;" .null) (F_b0_bits : Fld Z h0 b0 "com/example/vaglio/vaglio/filter/Filter" "bits" "[B" .null) (g_b0 : n0 ≤ b0) (E_b1 : Exa Z h0 b1 "com/example/vaglio/vaglio/filter/FilterShape") (F_b1_rows : Fld Z h0 b1 "com/example/vaglio/vaglio/filter/FilterShape" "rows" "I" (.int w1)) (B_b2 : Ba Z h0 b2 .byte n f) (hn : (n : Int) = w1.toInt * 128) (hw1 : 1 ≤ w1.toInt ∧ w1.toInt ≤ 1024) (ne10 : b1 ≠ b0) (ne20 : b2 ≠ b0) :
    MetFree l (⟨"com/example/vaglio/vaglio/filter/Filter", "<init>", "(Lcom/example/vaglio/vaglio/filter/FilterShape;[B)V"⟩ : MethodName) (head1 (Jvm.Cond.code (⟨"com/example/vaglio/vaglio/filter/Filter", "<init>", "(Lcom/example/vaglio/vaglio/filter/FilterShape;[B)V"⟩ : MethodName) prog_15_method_2_code 3 none :: ws) ({ frames := 1, cells := 0, slots := 0, locals := 13 } : Room)) (fun a U => a = #[(.ref b0), (.ref b1), (.ref b2)] ∧ Z.Warmed39 U.vm ∧ U.heap = h0) (fun _ _ _ _ _ => True) (fun _ U o U' => ∃ v L, o = .returned v ∧ Q7 Z b0 b1 b2 w1 n f h0 n0 v U'.heap L ∧ FrameEnd U o U' L ({ frames := 1, cells := 0, slots := 0, locals := 13 } : Room).cells ({ frames := 1, cells := 0, slots := 0, locals := 13 } : Room).slots) := by
  refine MetFree.of_bodySF (plainFor_of_name pn_46490325) hisR ?_
  intro p e s m args below meth c s₁ Bd hml0 hP hK
  obtain ⟨rfl, hZ, hh⟩ := hP
  have C : Ctx p s m meth c Z "com/example/vaglio/vaglio/filter/Filter" "<init>" prog_15_method_2_code 3 none := Ctx.of Bd hml0 hZ
  have X0 : Stand p l e ({ frames := 1, cells := 0, slots := 0, locals := 13 } : Room) s m #[(.ref b0), (.ref b1), (.ref b2)] below meth c s₁ [] 0 0 := Stand.of_body Bd
  have e0 : s₁.heap = h0 := by rw [← hh, Bd.state]; rfl
  have N0 := Fr.nil n0
  refine Goes.enter (ef_7 m b0 b1 b2) ?_
  clear hK hml0 hh
  refine g_aloadN 1 rfl C X0 d7_0 rfl rfl ?_
  refine g_initO 4 rfl C X0 (hw _ (List.mem_of_getElem? (i := 47) rfl)) (hw _ (List.mem_of_getElem? (i := 12) rfl)) (hw _ (List.mem_of_getElem? (i := 13) rfl)) e0 d7_1 rfl (by decide) (W := 0) (Nat.le_of_eq rfl) (by decide) fun T1 X2 e3 => ?_
  refine g_aloadN 5 rfl C X2 d7_4 rfl rfl ?_
  have hq4 : (w1 * (128 : Int32)).toInt = ((n : Nat) : Int) := by
    have fr5 := rng32 w1
    have fc6 : (128 : Int32).toInt = 128 := rfl
    have fo7 := own_mulc w1 (128 : Int32) 128 rfl
    have fr8 := rng32 (w1 * (128 : Int32))
    omega
  refine g_len 6 rfl C X2 e3 B_b2 (w1 * (128 : Int32)) hq4 d7_5 ?_
  refine g_aloadN 7 rfl C X2 d7_6 rfl rfl ?_
  refine g_callV 10 rfl C X2 (argsL := []) (hw _ (List.mem_of_getElem? (i := 39) rfl)) (hw _ (List.mem_of_getElem? (i := 40) rfl)) (hw _ (List.mem_of_getElem? (i := 42) rfl)) (hw _ (List.mem_of_getElem? (i := 41) rfl)) (hw _ (List.mem_of_getElem? (i := 43) rfl)) (hw _ (List.mem_of_getElem? (i := 2) rfl)) e3 E_b1 (rm6 l Z a0 hw [] b1 w1 h0 n0 Z0 F_b1_rows) (lenOf pd_16428521 rfl) (by decide) (by decide) (by decide) (by decide) rfl (W := 1) (Nat.le_of_eq rfl) (by decide) d7_7 rfl fun r9 T10 Lc11 X12 hQ13 => ?_
  obtain ⟨rfl, Nq14, eh15⟩ := hQ13
  have N16 := Fr.app N0 Nq14
  show Goes _ _ _ _ _ _ 10 _ [(.int w1), (.int (w1 * (128 : Int32)))]
  refine g_sipush 13 rfl C X12 (128 : Int32) d7_10 rfl ?_
  refine g_imul 14 rfl C X12 d7_13 ?_
  refine g_icmp_eq_t 44 C X12 d7_14 (by decide) (by decide) rfl ?_
  refine g_aloadN 45 rfl C X12 d7_44 rfl rfl ?_
  refine g_aloadN 46 rfl C X12 d7_45 rfl rfl ?_
  refine g_putF 49 rfl C X12 (host := "") (Or.inl (hw _ (List.mem_of_getElem? (i := 48) rfl))) Via.refl eh15 F_b0_shape E_b0 (Or.inr ⟨(hw _ (List.mem_of_getElem? (i := 49) rfl)), rfl, rfl⟩) (hw _ (List.mem_of_getElem? (i := 20) rfl)) (ty := (.object "com/example/vaglio/vaglio/filter/FilterShape")) (by decide) rfl rfl d7_46 N16 g_b0 fun T17 h18 ls19 X20 e21 W22 N23 => ?_
  have F24 : Fld Z h18 b0 "com/example/vaglio/vaglio/filter/Filter" "shape" "Lcom/example/vaglio/vaglio/filter/FilterShape;" (.ref b1) := F_b0_shape.same W22
  have F25 := E_b0.wr W22
  have F26 := F_b0_bits.other W22 (Or.inr (slot_ne (Or.inr (hw _ (List.mem_of_getElem? (i := 51) rfl))) (Or.inr (hw _ (List.mem_of_getElem? (i := 49) rfl))) (by decide) (t := (.array .byte)) (t' := (.object "com/example/vaglio/vaglio/filter/FilterShape")) (by decide) (by decide)))
  have F27 := E_b1.wr W22
  have F28 := F_b1_rows.other W22 (Or.inl ne10)
  have F29 := B_b2.other W22 ne20
  have Zs30 := Nat.le_trans Z0 (Nat.le_of_eq W22.size.symm)
  have Kp31 : Keep h0 h18 [b0] := (Keep.refl h0 [b0]).wr W22 (Or.inl (List.mem_of_getElem? (i := 0) rfl))
  refine g_aloadN 50 rfl C X20 d7_49 rfl rfl ?_
  refine g_aloadN 51 rfl C X20 d7_50 rfl rfl ?_
  refine g_putF 54 rfl C X20 (host := "") (Or.inl (hw _ (List.mem_of_getElem? (i := 50) rfl))) Via.refl e21 F26 F25 (Or.inr ⟨(hw _ (List.mem_of_getElem? (i := 51) rfl)), rfl, rfl⟩) (hw _ (List.mem_of_getElem? (i := 20) rfl)) (ty := (.array .byte)) (by decide) rfl rfl d7_51 N23 g_b0 fun T32 h33 ls34 X35 e36 W37 N38 => ?_
  have F39 : Fld Z h33 b0 "com/example/vaglio/vaglio/filter/Filter" "bits" "[B" (.ref b2) := F26.same W37
  have F40 := F25.wr W37
  have F41 := F24.other W37 (Or.inr (slot_ne (Or.inr (hw _ (List.mem_of_getElem? (i := 49) rfl))) (Or.inr (hw _ (List.mem_of_getElem? (i := 51) rfl))) (by decide) (t := (.object "com/example/vaglio/vaglio/filter/FilterShape")) (t' := (.array .byte)) (by decide) (by decide)))
  have F42 := F27.wr W37
  have F43 := F28.other W37 (Or.inl ne10)
  have F44 := F29.other W37 ne20
  have Zs45 := Nat.le_trans Zs30 (Nat.le_of_eq W37.size.symm)
  have Kp46 : Keep h0 h33 [b0] := Kp31.wr W37 (Or.inl (List.mem_of_getElem? (i := 0) rfl))
  exact g_retV C X35 rfl d7_54 e36 (by decide) (by decide) ⟨rfl, N38, Kp46, F40, F41⟩
theorem d4_0 : decode prog_15_method_1_code 0 = .ok (.aload_n 0, 1) := by decide +kernel
theorem d4_1 : decode prog_15_method_1_code 1 = .ok (.aload_n 1, 1) := by decide +kernel
theorem d4_2 : decode prog_15_method_1_code 2 = .ok (.aload_n 1, 1) := by decide +kernel
theorem d4_3 : decode prog_15_method_1_code 3 = .ok (.ldc 5, 2) := by decide +kernel
theorem d4_5 : decode prog_15_method_1_code 5 = .ok (.invokestatic 7, 3) := by decide +kernel
theorem pd_40943338 : parseMethodDescriptor "(Ljava/lang/Object;Ljava/lang/String;)Ljava/lang/Object;" = some ⟨[(.object "java/lang/Object"), (.object "java/lang/String")], some (.object "java/lang/Object")⟩ := by decide +kernel
theorem d4_8 : decode prog_15_method_1_code 8 = .ok (.checkcast 1, 3) := by decide +kernel
theorem d4_11 : decode prog_15_method_1_code 11 = .ok (.invokevirtual 13, 3) := by decide +kernel
theorem d4_14 : decode prog_15_method_1_code 14 = .ok (.sipush 128, 3) := by decide +kernel
theorem d4_17 : decode prog_15_method_1_code 17 = .ok (.imul, 1) := by decide +kernel
theorem d4_18 : decode prog_15_method_1_code 18 = .ok (.newarray .byte, 2) := by decide +kernel
theorem d4_20 : decode prog_15_method_1_code 20 = .ok (.invokespecial 19, 3) := by decide +kernel
theorem pd_70153203 : parseMethodDescriptor "(Lcom/example/vaglio/vaglio/filter/FilterShape;[B)V" = some ⟨[(.object "com/example/vaglio/vaglio/filter/FilterShape"), (.array .byte)], none⟩ := by decide +kernel
theorem d4_23 : decode prog_15_method_1_code 23 = .ok (.return_, 1) := by decide +kernel
theorem ef_4 (m : MethodId) (b0 : Addr) (b1 : Addr) : entryFrame m #[(.ref b0), (.ref b1)] 2 = mkF m 0 #[.val (.ref b0), .val (.ref b1)] [] := by first | (simp [entryFrame, mkF, argsToLocals, Value.category]; done) | rfl
def Q4 (Z : State) (b0 : Addr) (b1 : Addr) (w1 : Int32) (h0 : Heap) (n0 : Nat) (v : Option Value) (h : Heap) (L : List Loc) : Prop := v = none ∧ Fr n0 L ∧ Keep h0 h [b0] ∧ Exa Z h b0 "com/example/vaglio/vaglio/filter/Filter" ∧ Fld Z h b0 "com/example/vaglio/vaglio/filter/Filter" "shape" "Lcom/example/vaglio/vaglio/filter/FilterShape;" (.ref b1)
set_option maxRecDepth 65536 in
set_option maxHeartbeats 40000000 in
theorem rm4 (l : Launch) (Z : State) (a0 : Array Value) (hw : ∀ d ∈ tables_1, d.before a0 Z = true) (ws : List Jvm.Cond) (b0 : Addr) (b1 : Addr) (w1 : Int32) (h0 : Heap) (n0 : Nat) (Z0 : n0 ≤ h0.size) (E_b0 : Exa Z h0 b0 "com/example/vaglio/vaglio/filter/Filter") (F_b0_shape : Fld Z h0 b0 "com/example/vaglio/vaglio/filter/Filter" "shape" "Lcom/example/vaglio/vaglio/filter/FilterShape;" .null) (F_b0_bits : Fld Z h0 b0 "com/example/vaglio/vaglio/filter/Filter" "bits" "[B" .null) (g_b0 : n0 ≤ b0) (E_b1 : Exa Z h0 b1 "com/example/vaglio/vaglio/filter/FilterShape") (F_b1_rows : Fld Z h0 b1 "com/example/vaglio/vaglio/filter/FilterShape" "rows" "I" (.int w1)) (hw1 : 1 ≤ w1.toInt ∧ w1.toInt ≤ 1024) (ne10 : b1 ≠ b0) :
    MetFree l (⟨"com/example/vaglio/vaglio/filter/Filter", "<init>", "(Lcom/example/vaglio/vaglio/filter/FilterShape;)V"⟩ : MethodName) (head1 (Jvm.Cond.code (⟨"com/example/vaglio/vaglio/filter/Filter", "<init>", "(Lcom/example/vaglio/vaglio/filter/FilterShape;)V"⟩ : MethodName) prog_15_method_1_code 2 none :: ws) ({ frames := 2, cells := 3, slots := 131096, locals := 27 } : Room)) (fun a U => a = #[(.ref b0), (.ref b1)] ∧ Z.Warmed39 U.vm ∧ U.heap = h0) (fun _ _ _ _ _ => True) (fun _ U o U' => ∃ v L, o = .returned v ∧ Q4 Z b0 b1 w1 h0 n0 v U'.heap L ∧ ReturnedEndW U o U' L ({ frames := 2, cells := 3, slots := 131096, locals := 27 } : Room).cells ({ frames := 2, cells := 3, slots := 131096, locals := 27 } : Room).slots) := by
  refine MetFree.of_bodySF (plainFor_of_name pn_46490325) hisR ?_
  intro p e s m args below meth c s₁ Bd hml0 hP hK
  obtain ⟨rfl, hZ, hh⟩ := hP
  have C : Ctx p (s.setVm s.vm) m meth c Z "com/example/vaglio/vaglio/filter/Filter" "<init>" prog_15_method_1_code 2 none := Ctx.of Bd hml0 hZ
  have X0 : Stand p l e ({ frames := 2, cells := 3, slots := 131096, locals := 27 } : Room) (s.setVm s.vm) m #[(.ref b0), (.ref b1)] below meth c s₁ [] 0 0 := Stand.of_body Bd
  have e0 : s₁.heap = h0 := by rw [← hh, Bd.state]; rfl
  have N0 := Fr.nil n0
  have hS0 : s.Since s.vm 0 := (State.WarmedH.refl s).since 0
  have own_strW := own_strA a0 hw
  refine Goes.enterW (ef_4 m b0 b1) ?_
  clear hK hml0 hh
  refine g_aloadN 1 rfl C X0 d4_0 rfl rfl ?_
  refine g_aloadN 2 rfl C X0 d4_1 rfl rfl ?_
  refine g_aloadN 3 rfl C X0 d4_2 rfl rfl ?_
  refine w_ldcS 5 rfl C X0 hS0 (by rw [e0]; exact (Nat.zero_le _)) (hw _ (List.mem_of_getElem? (i := 25) rfl)) own_strW e0 d4_3 20 (by decide) (by decide) (by decide) (by decide) fun o1 T2 h3 k4 C X5 e6 E7 S8 hk9 => ?_
  have F10 := E_b0.ext E7
  have F11 := F_b0_shape.ext E7
  have F12 := F_b0_bits.ext E7
  have F13 := E_b1.ext E7
  have F14 := F_b1_rows.ext E7
  have Zs15 := Nat.le_trans Z0 E7.1
  have Ks16 := Nat.le_trans (Nat.zero_le _) E7.1
  have Kp17 : Keep h0 h3 [b0] := (Keep.refl h0 [b0]).ext E7
  have Ks18 : k4 ≤ h3.size := by rw [← e6]; exact hk9
  refine g_callS 8 rfl C X5 (argsL := [(.ref b1), (.ref o1)]) (hw _ (List.mem_of_getElem? (i := 33) rfl)) (hw _ (List.mem_of_getElem? (i := 34) rfl)) (hw _ (List.mem_of_getElem? (i := 36) rfl)) (hw _ (List.mem_of_getElem? (i := 35) rfl)) e6 (rm5 l Z a0 hw [] b1 o1 h3 n0 Zs15) (lenOf pd_40943338 rfl) (by decide) (by decide) (by decide) (by decide) rfl (W := 2) (Nat.le_of_eq rfl) (by decide) d4_5 rfl fun r19 T20 Lc21 X22 hQ23 => ?_
  obtain ⟨rfl, Nq24, eh25⟩ := hQ23
  have N26 := Fr.app N0 Nq24
  show Goes _ _ _ _ _ _ 8 _ [(.ref b1), (.ref b1), (.ref b0)]
  refine g_cast 11 rfl C X22 (hw _ (List.mem_of_getElem? (i := 37) rfl)) eh25 (Ins.self F13) d4_8 fun T27 X28 e29 => ?_
  refine g_callV 14 rfl C X28 (argsL := []) (hw _ (List.mem_of_getElem? (i := 39) rfl)) (hw _ (List.mem_of_getElem? (i := 40) rfl)) (hw _ (List.mem_of_getElem? (i := 42) rfl)) (hw _ (List.mem_of_getElem? (i := 41) rfl)) (hw _ (List.mem_of_getElem? (i := 43) rfl)) (hw _ (List.mem_of_getElem? (i := 2) rfl)) e29 F13 (rm6 l Z a0 hw [] b1 w1 h3 n0 Zs15 F14) (lenOf pd_16428521 rfl) (by decide) (by decide) (by decide) (by decide) rfl (W := 2) (Nat.le_of_eq rfl) (by decide) d4_11 rfl fun r30 T31 Lc32 X33 hQ34 => ?_
  obtain ⟨rfl, Nq35, eh36⟩ := hQ34
  have N37 := Fr.app N26 Nq35
  show Goes _ _ _ _ _ _ 14 _ [(.int w1), (.ref b1), (.ref b0)]
  refine g_sipush 17 rfl C X33 (128 : Int32) d4_14 rfl ?_
  refine g_imul 18 rfl C X33 d4_17 ?_
  have hq39 : 0 ≤ (w1 * (128 : Int32)).toInt ∧ (w1 * (128 : Int32)).toInt ≤ 131072 ∧ (w1 * (128 : Int32)).toInt = w1.toInt * 128 := by
    have fr40 := rng32 w1
    have fc41 : (128 : Int32).toInt = 128 := rfl
    have fo42 := own_mulc w1 (128 : Int32) 128 rfl
    have fr43 := rng32 (w1 * (128 : Int32))
    omega
  obtain ⟨n38, hn38⟩ : ∃ n : Nat, (w1 * (128 : Int32)).toInt = n := ⟨(w1 * (128 : Int32)).toInt.toNat, by omega⟩
  have hn38c : n38 ≤ 131072 := by omega
  have hn38m : (n38 : Int) = w1.toInt * 128 := by omega
  refine g_newP 20 rfl C X33 n38 hn38 131072 (by omega) (by decide) rfl (hw _ (List.mem_of_getElem? (i := 28) rfl)) eh36 d4_18 (by decide) (by decide) fun T44 h45 o46 g47 X48 e49 E50 B51 => ?_
  have ne52 : b0 ≠ o46 := by rw [g47]; exact Nat.ne_of_lt F10.lt
  have ne53 : b1 ≠ o46 := by rw [g47]; exact Nat.ne_of_lt F13.lt
  have gn54 : n0 ≤ o46 := by rw [g47]; exact Zs15
  have sz55 : h0.size ≤ o46 := by rw [g47]; exact Kp17.1
  have F56 := F10.ext E50
  have F57 := F11.ext E50
  have F58 := F12.ext E50
  have F59 := F13.ext E50
  have F60 := F14.ext E50
  have Zs61 := Nat.le_trans Zs15 E50.1
  have Ks62 := Nat.le_trans Ks18 E50.1
  have Kp63 : Keep h0 h45 [b0] := Kp17.ext E50
  refine g_callN 23 rfl C X48 (argsL := [(.ref b1), (.ref o46)]) rfl rfl (hw _ (List.mem_of_getElem? (i := 44) rfl)) (hw _ (List.mem_of_getElem? (i := 45) rfl)) (hw _ (List.mem_of_getElem? (i := 46) rfl)) (hw _ (List.mem_of_getElem? (i := 21) rfl)) e49 (rm7 l Z a0 hw [] b0 b1 o46 w1 n38 (fun _ => 0) h45 n0 Zs61 F56 F57 F58 g_b0 F59 F60 B51 hn38m (by omega) ne10 (Ne.symm ne52)) (lenOf pd_70153203 rfl) (by decide) (by decide) (by decide) (by decide) rfl (W := 0) (Nat.le_of_eq rfl) (by decide) d4_20 rfl fun r64 T65 Lc66 X67 hQ68 => ?_
  obtain ⟨rfl, Nq69, Kc70, F71, F72⟩ := hQ68
  have F73 := F56.keep Kc70
  have F74 := F59.keep Kc70
  have F75 := F60.keep Kc70 (ninS ne10 nin0)
  have F76 := B51.keep Kc70 (ninS (Ne.symm ne52) nin0)
  have Zs77 := Nat.le_trans Zs61 Kc70.1
  have Ks78 := Nat.le_trans Ks62 Kc70.1
  have Kp79 : Keep h0 T65.heap [b0] := Keep.trans Kp63 Kc70 (allS (Or.inl (List.mem_of_getElem? (i := 0) rfl)) all0)
  have N80 := Fr.app N37 Nq69
  show Goes _ _ _ _ _ _ 23 _ []
  exact w_retV C X67 S8 Ks78 rfl d4_23 rfl (by decide) (by decide) ⟨rfl, N80, Kp79, F71, F72⟩
theorem d12_0 : decode prog_17_method_2_code 0 = .ok (.aload_n 0, 1) := by decide +kernel
theorem d12_1 : decode prog_17_method_2_code 1 = .ok (.ldc 68, 2) := by decide +kernel
theorem d12_3 : decode prog_17_method_2_code 3 = .ok (.invokestatic 70, 3) := by decide +kernel
theorem d12_6 : decode prog_17_method_2_code 6 = .ok (.pop, 1) := by decide +kernel
theorem d12_7 : decode prog_17_method_2_code 7 = .ok (.aload_n 0, 1) := by decide +kernel
theorem d12_8 : decode prog_17_method_2_code 8 = .ok (.arraylength, 1) := by decide +kernel
theorem d12_9 : decode prog_17_method_2_code 9 = .ok (.bipush 32, 2) := by decide +kernel
theorem d12_11 : decode prog_17_method_2_code 11 = .ok (.if_icmp .eq 18, 3) := by decide +kernel
theorem d12_29 : decode prog_17_method_2_code 29 = .ok (.aload_n 0, 1) := by decide +kernel
theorem d12_30 : decode prog_17_method_2_code 30 = .ok (.areturn, 1) := by decide +kernel
theorem pn_11936945 : plainName "com/example/vaglio/vaglio/filter/FilterMask" = true := by first | (simp [plainName, overriddenIn]; done) | decide +kernel
theorem ef_12 (m : MethodId) (b0 : Addr) : entryFrame m #[(.ref b0)] 1 = mkF m 0 #[.val (.ref b0)] [] := by first | (simp [entryFrame, mkF, argsToLocals, Value.category]; done) | rfl
def Q12 (Z : State) (b0 : Addr) (f : Nat → Int32) (h0 : Heap) (n0 : Nat) (v : Option Value) (h : Heap) (L : List Loc) : Prop := v = some (.ref b0) ∧ Fr n0 L ∧ Keep h0 h []
set_option maxRecDepth 65536 in
set_option maxHeartbeats 40000000 in
theorem rm12 (l : Launch) (Z : State) (a0 : Array Value) (hw : ∀ d ∈ tables_1, d.before a0 Z = true) (ws : List Jvm.Cond) (b0 : Addr) (f : Nat → Int32) (h0 : Heap) (n0 : Nat) (Z0 : n0 ≤ h0.size) (B_b0 : Ba Z h0 b0 .byte 32 f) :
    MetFree l (⟨"com/example/vaglio/vaglio/filter/FilterMask", "checkSeed", "([B)[B"⟩ : MethodName) (head1 (Jvm.Cond.code (⟨"com/example/vaglio/vaglio/filter/FilterMask", "checkSeed", "([B)[B"⟩ : MethodName) prog_17_method_2_code 1 (some (.array .byte)) :: ws) ({ frames := 1, cells := 2, slots := 20, locals := 13 } : Room)) (fun a U => a = #[(.ref b0)] ∧ Z.Warmed39 U.vm ∧ U.heap = h0) (fun _ _ _ _ _ => True) (fun _ U o U' => ∃ v L, o = .returned v ∧ Q12 Z b0 f h0 n0 v U'.heap L ∧ ReturnedEndW U o U' L ({ frames := 1, cells := 2, slots := 20, locals := 13 } : Room).cells ({ frames := 1, cells := 2, slots := 20, locals := 13 } : Room).slots) := by
  refine MetFree.of_bodySF (plainFor_of_name pn_11936945) hisR ?_
  intro p e s m args below meth c s₁ Bd hml0 hP hK
  obtain ⟨rfl, hZ, hh⟩ := hP
  have C : Ctx p (s.setVm s.vm) m meth c Z "com/example/vaglio/vaglio/filter/FilterMask" "checkSeed" prog_17_method_2_code 1 (some (.array .byte)) := Ctx.of Bd hml0 hZ
  have X0 : Stand p l e ({ frames := 1, cells := 2, slots := 20, locals := 13 } : Room) (s.setVm s.vm) m #[(.ref b0)] below meth c s₁ [] 0 0 := Stand.of_body Bd
  have e0 : s₁.heap = h0 := by rw [← hh, Bd.state]; rfl
  have N0 := Fr.nil n0
  have hS0 : s.Since s.vm 0 := (State.WarmedH.refl s).since 0
  have own_strW := own_strA a0 hw
  refine Goes.enterW (ef_12 m b0) ?_
  clear hK hml0 hh
  refine g_aloadN 1 rfl C X0 d12_0 rfl rfl ?_
  refine w_ldcS 3 rfl C X0 hS0 (by rw [e0]; exact (Nat.zero_le _)) (hw _ (List.mem_of_getElem? (i := 89) rfl)) own_strW e0 d12_1 16 (by decide) (by decide) (by decide) (by decide) fun o1 T2 h3 k4 C X5 e6 E7 S8 hk9 => ?_
  have F10 := B_b0.ext E7
  have Zs11 := Nat.le_trans Z0 E7.1
  have Ks12 := Nat.le_trans (Nat.zero_le _) E7.1
  have Kp13 : Keep h0 h3 [] := (Keep.refl h0 []).ext E7
  have Ks14 : k4 ≤ h3.size := by rw [← e6]; exact hk9
  refine g_callS 6 rfl C X5 (argsL := [(.ref b0), (.ref o1)]) (hw _ (List.mem_of_getElem? (i := 90) rfl)) (hw _ (List.mem_of_getElem? (i := 34) rfl)) (hw _ (List.mem_of_getElem? (i := 36) rfl)) (hw _ (List.mem_of_getElem? (i := 35) rfl)) e6 (rm5 l Z a0 hw [] b0 o1 h3 n0 Zs11) (lenOf pd_40943338 rfl) (by decide) (by decide) (by decide) (by decide) rfl (W := 0) (Nat.le_of_eq rfl) (by decide) d12_3 rfl fun r15 T16 Lc17 X18 hQ19 => ?_
  obtain ⟨rfl, Nq20, eh21⟩ := hQ19
  have N22 := Fr.app N0 Nq20
  show Goes _ _ _ _ _ _ 6 _ [(.ref b0)]
  refine g_pop 7 rfl C X18 d12_6 rfl ?_
  refine g_aloadN 8 rfl C X18 d12_7 rfl rfl ?_
  refine g_len 9 rfl C X18 eh21 F10 (32 : Int32) rfl d12_8 ?_
  refine g_bipush 11 rfl C X18 (32 : Int32) d12_9 rfl ?_
  refine g_icmp_eq_t 29 C X18 d12_11 (by decide) (by decide) (by decide) ?_
  refine g_aloadN 30 rfl C X18 d12_29 rfl rfl ?_
  exact w_retA C X18 S8 (by rw [eh21]; exact Ks14) rfl rfl rfl rfl d12_30 eh21 (by decide) (by decide) ⟨rfl, N22, Kp13⟩
theorem d8_0 : decode prog_20_method_1_code 0 = .ok (.aload_n 0, 1) := by decide +kernel
theorem d8_1 : decode prog_20_method_1_code 1 = .ok (.invokespecial 3, 3) := by decide +kernel
theorem d8_4 : decode prog_20_method_1_code 4 = .ok (.aload_n 1, 1) := by decide +kernel
theorem d8_5 : decode prog_20_method_1_code 5 = .ok (.ldc 9, 2) := by decide +kernel
theorem d8_7 : decode prog_20_method_1_code 7 = .ok (.invokestatic 11, 3) := by decide +kernel
theorem d8_10 : decode prog_20_method_1_code 10 = .ok (.pop, 1) := by decide +kernel
theorem d8_11 : decode prog_20_method_1_code 11 = .ok (.lload_n 2, 1) := by decide +kernel
theorem d8_12 : decode prog_20_method_1_code 12 = .ok (.lconst 0, 1) := by decide +kernel
theorem d8_13 : decode prog_20_method_1_code 13 = .ok (.lcmp, 1) := by decide +kernel
theorem d8_14 : decode prog_20_method_1_code 14 = .ok (.ifCond .lt 11, 3) := by decide +kernel
theorem d8_17 : decode prog_20_method_1_code 17 = .ok (.lload_n 2, 1) := by decide +kernel
theorem d8_18 : decode prog_20_method_1_code 18 = .ok (.ldc2_w 19, 3) := by decide +kernel
theorem d8_21 : decode prog_20_method_1_code 21 = .ok (.lcmp, 1) := by decide +kernel
theorem d8_22 : decode prog_20_method_1_code 22 = .ok (.ifCond .le 17, 3) := by decide +kernel
theorem d8_39 : decode prog_20_method_1_code 39 = .ok (.aload 4, 2) := by decide +kernel
theorem d8_41 : decode prog_20_method_1_code 41 = .ok (.ifnonnull 7, 3) := by decide +kernel
theorem d8_44 : decode prog_20_method_1_code 44 = .ok (.aconst_null, 1) := by decide +kernel
theorem d8_45 : decode prog_20_method_1_code 45 = .ok (.goto 14, 3) := by decide +kernel
theorem d8_59 : decode prog_20_method_1_code 59 = .ok (.astore 4, 2) := by decide +kernel
theorem d8_61 : decode prog_20_method_1_code 61 = .ok (.aload_n 0, 1) := by decide +kernel
theorem d8_62 : decode prog_20_method_1_code 62 = .ok (.aload_n 1, 1) := by decide +kernel
theorem d8_63 : decode prog_20_method_1_code 63 = .ok (.putfield 40, 3) := by decide +kernel
theorem d8_66 : decode prog_20_method_1_code 66 = .ok (.aload_n 0, 1) := by decide +kernel
theorem d8_67 : decode prog_20_method_1_code 67 = .ok (.lload_n 2, 1) := by decide +kernel
theorem d8_68 : decode prog_20_method_1_code 68 = .ok (.putfield 43, 3) := by decide +kernel
theorem d8_71 : decode prog_20_method_1_code 71 = .ok (.aload_n 0, 1) := by decide +kernel
theorem d8_72 : decode prog_20_method_1_code 72 = .ok (.aload 4, 2) := by decide +kernel
theorem d8_74 : decode prog_20_method_1_code 74 = .ok (.putfield 47, 3) := by decide +kernel
theorem d8_77 : decode prog_20_method_1_code 77 = .ok (.return_, 1) := by decide +kernel
theorem pn_93593169 : plainName "com/example/vaglio/vaglio/filter/FilterSnapshot" = true := by first | (simp [plainName, overriddenIn]; done) | decide +kernel
theorem ef_8_0 (m : MethodId) (b0 : Addr) (b1 : Addr) (p2 : Int64) : entryFrame m #[(.ref b0), (.ref b1), (.long p2), .null] 5 = mkF m 0 #[.val (.ref b0), .val (.ref b1), .val (.long p2), .second, .val .null] [] := by first | (simp [entryFrame, mkF, argsToLocals, Value.category]; done) | rfl
def Q8_0 (Z : State) (b0 : Addr) (b1 : Addr) (p2 : Int64) (h0 : Heap) (n0 : Nat) (v : Option Value) (h : Heap) (L : List Loc) : Prop := v = none ∧ Fr n0 L ∧ Keep h0 h [b0] ∧ Exa Z h b0 "com/example/vaglio/vaglio/filter/FilterSnapshot" ∧ Fld Z h b0 "com/example/vaglio/vaglio/filter/FilterSnapshot" "filter" "Lcom/example/vaglio/vaglio/filter/Filter;" (.ref b1) ∧ Fld Z h b0 "com/example/vaglio/vaglio/filter/FilterSnapshot" "height" "J" (.long p2) ∧ Fld Z h b0 "com/example/vaglio/vaglio/filter/FilterSnapshot" "maskSeed" "[B" .null
set_option maxRecDepth 65536 in
set_option maxHeartbeats 40000000 in
theorem rm8_0 (l : Launch) (Z : State) (a0 : Array Value) (hw : ∀ d ∈ tables_1, d.before a0 Z = true) (ws : List Jvm.Cond) (b0 : Addr) (b1 : Addr) (p2 : Int64) (h0 : Heap) (n0 : Nat) (Z0 : n0 ≤ h0.size) (E_b0 : Exa Z h0 b0 "com/example/vaglio/vaglio/filter/FilterSnapshot") (F_b0_filter : Fld Z h0 b0 "com/example/vaglio/vaglio/filter/FilterSnapshot" "filter" "Lcom/example/vaglio/vaglio/filter/Filter;" .null) (F_b0_height : Fld Z h0 b0 "com/example/vaglio/vaglio/filter/FilterSnapshot" "height" "J" (.long (0 : Int64))) (F_b0_maskSeed : Fld Z h0 b0 "com/example/vaglio/vaglio/filter/FilterSnapshot" "maskSeed" "[B" .null) (g_b0 : n0 ≤ b0) (q2 : 0 ≤ p2.toInt ∧ p2.toInt ≤ 4294967295) :
    MetFree l (⟨"com/example/vaglio/vaglio/filter/FilterSnapshot", "<init>", "(Lcom/example/vaglio/vaglio/filter/Filter;J[B)V"⟩ : MethodName) (head1 (Jvm.Cond.code (⟨"com/example/vaglio/vaglio/filter/FilterSnapshot", "<init>", "(Lcom/example/vaglio/vaglio/filter/Filter;J[B)V"⟩ : MethodName) prog_20_method_1_code 5 none :: ws) ({ frames := 2, cells := 2, slots := 28, locals := 24 } : Room)) (fun a U => a = #[(.ref b0), (.ref b1), (.long p2), .null] ∧ Z.Warmed39 U.vm ∧ U.heap = h0) (fun _ _ _ _ _ => True) (fun _ U o U' => ∃ v L, o = .returned v ∧ Q8_0 Z b0 b1 p2 h0 n0 v U'.heap L ∧ ReturnedEndW U o U' L ({ frames := 2, cells := 2, slots := 28, locals := 24 } : Room).cells ({ frames := 2, cells := 2, slots := 28, locals := 24 } : Room).slots) := by
  refine MetFree.of_bodySF (plainFor_of_name pn_93593169) hisR ?_
  intro p e s m args below meth c s₁ Bd hml0 hP hK
  obtain ⟨rfl, hZ, hh⟩ := hP
  have C : Ctx p (s.setVm s.vm) m meth c Z "com/example/vaglio/vaglio/filter/FilterSnapshot" "<init>" prog_20_method_1_code 5 none := Ctx.of Bd hml0 hZ
  have X0 : Stand p l e ({ frames := 2, cells := 2, slots := 28, locals := 24 } : Room) (s.setVm s.vm) m #[(.ref b0), (.ref b1), (.long p2), .null] below meth c s₁ [] 0 0 := Stand.of_body Bd
  have e0 : s₁.heap = h0 := by rw [← hh, Bd.state]; rfl
  have N0 := Fr.nil n0
  have hS0 : s.Since s.vm 0 := (State.WarmedH.refl s).since 0
  have own_strW := own_strA a0 hw
  refine Goes.enterW (ef_8_0 m b0 b1 p2) ?_
  clear hK hml0 hh
  refine g_aloadN 1 rfl C X0 d8_0 rfl rfl ?_
  refine g_callN 4 rfl C X0 (argsL := []) rfl rfl (hw _ (List.mem_of_getElem? (i := 59) rfl)) (hw _ (List.mem_of_getElem? (i := 7) rfl)) (hw _ (List.mem_of_getElem? (i := 10) rfl)) (hw _ (List.mem_of_getElem? (i := 9) rfl)) e0 (rm2 l Z a0 hw [] b0 h0 n0 Z0) (lenOf pd_16428534 rfl) (by decide) (by decide) (by decide) (by decide) rfl (W := 0) (Nat.le_of_eq rfl) (by decide) d8_1 rfl fun r1 T2 Lc3 X4 hQ5 => ?_
  obtain ⟨rfl, Nq6, eh7⟩ := hQ5
  have N8 := Fr.app N0 Nq6
  show Goes _ _ _ _ _ _ 4 _ []
  refine g_aloadN 5 rfl C X4 d8_4 rfl rfl ?_
  refine w_ldcS 7 rfl C X4 hS0 (by rw [eh7]; exact (Nat.zero_le _)) (hw _ (List.mem_of_getElem? (i := 60) rfl)) own_strW eh7 d8_5 24 (by decide) (by decide) (by decide) (by decide) fun o9 T10 h11 k12 C X13 e14 E15 S16 hk17 => ?_
  have F18 := E_b0.ext E15
  have F19 := F_b0_filter.ext E15
  have F20 := F_b0_height.ext E15
  have F21 := F_b0_maskSeed.ext E15
  have Zs22 := Nat.le_trans Z0 E15.1
  have Ks23 := Nat.le_trans (Nat.zero_le _) E15.1
  have Kp24 : Keep h0 h11 [b0] := (Keep.refl h0 [b0]).ext E15
  have Ks25 : k12 ≤ h11.size := by rw [← e14]; exact hk17
  refine g_callS 10 rfl C X13 (argsL := [(.ref b1), (.ref o9)]) (hw _ (List.mem_of_getElem? (i := 61) rfl)) (hw _ (List.mem_of_getElem? (i := 34) rfl)) (hw _ (List.mem_of_getElem? (i := 36) rfl)) (hw _ (List.mem_of_getElem? (i := 35) rfl)) e14 (rm5 l Z a0 hw [] b1 o9 h11 n0 Zs22) (lenOf pd_40943338 rfl) (by decide) (by decide) (by decide) (by decide) rfl (W := 0) (Nat.le_of_eq rfl) (by decide) d8_7 rfl fun r26 T27 Lc28 X29 hQ30 => ?_
  obtain ⟨rfl, Nq31, eh32⟩ := hQ30
  have N33 := Fr.app N8 Nq31
  show Goes _ _ _ _ _ _ 10 _ [(.ref b1)]
  refine g_pop 11 rfl C X29 d8_10 rfl ?_
  refine g_lloadN 12 rfl C X29 d8_11 rfl ?_
  refine g_lconst 13 rfl C X29 (0 : Int64) d8_12 rfl ?_
  refine g_lcmp 14 rfl C X29 d8_13 ?_
  have fr34 := rng64 p2
  have fc35 : (0 : Int64).toInt = 0 := rfl
  have hb36 : ¬ (p2.toInt < (0 : Int64).toInt) := by omega
  refine g_il_lt_f 17 rfl C X29 d8_14 hb36 ?_
  refine g_lloadN 18 rfl C X29 d8_17 rfl ?_
  refine g_ldc2 21 rfl C X29 (hw _ (List.mem_of_getElem? (i := 62) rfl)) d8_18 ?_
  refine g_lcmp 22 rfl C X29 d8_21 ?_
  have fc37 : (4294967295 : Int64).toInt = 4294967295 := rfl
  have hb38 : ¬ ((4294967295 : Int64).toInt < p2.toInt) := by omega
  refine g_il_le_t 39 C X29 d8_22 (by decide) (by decide) hb38 ?_
  refine g_aload 41 rfl C X29 d8_39 rfl rfl ?_
  refine g_ifnonnull_f 44 rfl C X29 d8_41 ?_
  refine g_null 45 rfl C X29 d8_44 ?_
  refine g_goto 59 C X29 d8_45 (by decide) (by decide) ?_
  refine g_astore 61 rfl C X29 #[.val (.ref b0), .val (.ref b1), .val (.long p2), .second, .val .null] d8_59 rfl rfl ?_
  refine g_aloadN 62 rfl C X29 d8_61 rfl rfl ?_
  refine g_aloadN 63 rfl C X29 d8_62 rfl rfl ?_
  refine g_putF 66 rfl C X29 (host := "") (Or.inl (hw _ (List.mem_of_getElem? (i := 63) rfl))) Via.refl eh32 F19 F18 (Or.inr ⟨(hw _ (List.mem_of_getElem? (i := 64) rfl)), rfl, rfl⟩) (hw _ (List.mem_of_getElem? (i := 54) rfl)) (ty := (.object "com/example/vaglio/vaglio/filter/Filter")) (by decide) rfl rfl d8_63 N33 g_b0 fun T39 h40 ls41 X42 e43 W44 N45 => ?_
  have F46 : Fld Z h40 b0 "com/example/vaglio/vaglio/filter/FilterSnapshot" "filter" "Lcom/example/vaglio/vaglio/filter/Filter;" (.ref b1) := F19.same W44
  have F47 := F18.wr W44
  have F48 := F20.other W44 (Or.inr (slot_ne (Or.inr (hw _ (List.mem_of_getElem? (i := 66) rfl))) (Or.inr (hw _ (List.mem_of_getElem? (i := 64) rfl))) (by decide) (t := .long) (t' := (.object "com/example/vaglio/vaglio/filter/Filter")) (by decide) (by decide)))
  have F49 := F21.other W44 (Or.inr (slot_ne (Or.inr (hw _ (List.mem_of_getElem? (i := 68) rfl))) (Or.inr (hw _ (List.mem_of_getElem? (i := 64) rfl))) (by decide) (t := (.array .byte)) (t' := (.object "com/example/vaglio/vaglio/filter/Filter")) (by decide) (by decide)))
  have Zs50 := Nat.le_trans Zs22 (Nat.le_of_eq W44.size.symm)
  have Ks51 := Nat.le_trans Ks25 (Nat.le_of_eq W44.size.symm)
  have Kp52 : Keep h0 h40 [b0] := Kp24.wr W44 (Or.inl (List.mem_of_getElem? (i := 0) rfl))
  refine g_aloadN 67 rfl C X42 d8_66 rfl rfl ?_
  refine g_lloadN 68 rfl C X42 d8_67 rfl ?_
  refine g_putF 71 rfl C X42 (host := "") (Or.inl (hw _ (List.mem_of_getElem? (i := 65) rfl))) Via.refl e43 F48 F47 (Or.inr ⟨(hw _ (List.mem_of_getElem? (i := 66) rfl)), rfl, rfl⟩) (hw _ (List.mem_of_getElem? (i := 54) rfl)) (ty := .long) (by decide) rfl rfl d8_68 N45 g_b0 fun T53 h54 ls55 X56 e57 W58 N59 => ?_
  have F60 : Fld Z h54 b0 "com/example/vaglio/vaglio/filter/FilterSnapshot" "height" "J" (.long p2) := F48.same W58
  have F61 := F47.wr W58
  have F62 := F46.other W58 (Or.inr (slot_ne (Or.inr (hw _ (List.mem_of_getElem? (i := 64) rfl))) (Or.inr (hw _ (List.mem_of_getElem? (i := 66) rfl))) (by decide) (t := (.object "com/example/vaglio/vaglio/filter/Filter")) (t' := .long) (by decide) (by decide)))
  have F63 := F49.other W58 (Or.inr (slot_ne (Or.inr (hw _ (List.mem_of_getElem? (i := 68) rfl))) (Or.inr (hw _ (List.mem_of_getElem? (i := 66) rfl))) (by decide) (t := (.array .byte)) (t' := .long) (by decide) (by decide)))
  have Zs64 := Nat.le_trans Zs50 (Nat.le_of_eq W58.size.symm)
  have Ks65 := Nat.le_trans Ks51 (Nat.le_of_eq W58.size.symm)
  have Kp66 : Keep h0 h54 [b0] := Kp52.wr W58 (Or.inl (List.mem_of_getElem? (i := 0) rfl))
  refine g_aloadN 72 rfl C X56 d8_71 rfl rfl ?_
  refine g_aload 74 rfl C X56 d8_72 rfl rfl ?_
  refine g_putF 77 rfl C X56 (host := "") (Or.inl (hw _ (List.mem_of_getElem? (i := 67) rfl))) Via.refl e57 F63 F61 (Or.inr ⟨(hw _ (List.mem_of_getElem? (i := 68) rfl)), rfl, rfl⟩) (hw _ (List.mem_of_getElem? (i := 54) rfl)) (ty := (.array .byte)) (by decide) rfl rfl d8_74 N59 g_b0 fun T67 h68 ls69 X70 e71 W72 N73 => ?_
  have F74 : Fld Z h68 b0 "com/example/vaglio/vaglio/filter/FilterSnapshot" "maskSeed" "[B" .null := F63.same W72
  have F75 := F61.wr W72
  have F76 := F62.other W72 (Or.inr (slot_ne (Or.inr (hw _ (List.mem_of_getElem? (i := 64) rfl))) (Or.inr (hw _ (List.mem_of_getElem? (i := 68) rfl))) (by decide) (t := (.object "com/example/vaglio/vaglio/filter/Filter")) (t' := (.array .byte)) (by decide) (by decide)))
  have F77 := F60.other W72 (Or.inr (slot_ne (Or.inr (hw _ (List.mem_of_getElem? (i := 66) rfl))) (Or.inr (hw _ (List.mem_of_getElem? (i := 68) rfl))) (by decide) (t := .long) (t' := (.array .byte)) (by decide) (by decide)))
  have Zs78 := Nat.le_trans Zs64 (Nat.le_of_eq W72.size.symm)
  have Ks79 := Nat.le_trans Ks65 (Nat.le_of_eq W72.size.symm)
  have Kp80 : Keep h0 h68 [b0] := Kp66.wr W72 (Or.inl (List.mem_of_getElem? (i := 0) rfl))
  exact w_retV C X70 S16 (by rw [e71]; exact Ks79) rfl d8_77 e71 (by decide) (by decide) ⟨rfl, N73, Kp80, F75, F76, F77, F74⟩
theorem d8_48 : decode prog_20_method_1_code 48 = .ok (.aload 4, 2) := by decide +kernel
theorem d8_50 : decode prog_20_method_1_code 50 = .ok (.invokestatic 30, 3) := by decide +kernel
theorem pd_20178412 : parseMethodDescriptor "([B)[B" = some ⟨[(.array .byte)], some (.array .byte)⟩ := by decide +kernel
theorem d8_53 : decode prog_20_method_1_code 53 = .ok (.invokevirtual 34, 3) := by decide +kernel
theorem d8_56 : decode prog_20_method_1_code 56 = .ok (.checkcast 35, 3) := by decide +kernel
theorem ef_8_1 (m : MethodId) (b0 : Addr) (b1 : Addr) (p2 : Int64) (b3 : Addr) : entryFrame m #[(.ref b0), (.ref b1), (.long p2), (.ref b3)] 5 = mkF m 0 #[.val (.ref b0), .val (.ref b1), .val (.long p2), .second, .val (.ref b3)] [] := by first | (simp [entryFrame, mkF, argsToLocals, Value.category]; done) | rfl
def Q8_1 (Z : State) (b0 : Addr) (b1 : Addr) (p2 : Int64) (b3 : Addr) (f : Nat → Int32) (h0 : Heap) (n0 : Nat) (v : Option Value) (h : Heap) (L : List Loc) : Prop := ∃ w, v = none ∧ Fr n0 L ∧ Keep h0 h [b0] ∧ Exa Z h b0 "com/example/vaglio/vaglio/filter/FilterSnapshot" ∧ Fld Z h b0 "com/example/vaglio/vaglio/filter/FilterSnapshot" "filter" "Lcom/example/vaglio/vaglio/filter/Filter;" (.ref b1) ∧ Fld Z h b0 "com/example/vaglio/vaglio/filter/FilterSnapshot" "height" "J" (.long p2) ∧ Fld Z h b0 "com/example/vaglio/vaglio/filter/FilterSnapshot" "maskSeed" "[B" (.ref w) ∧ h0.size ≤ w ∧ Ba Z h w .byte 32 f ∧ Exa Z h w "[B"
set_option maxRecDepth 65536 in
set_option maxHeartbeats 40000000 in
theorem rm8_1 (l : Launch) (Z : State) (a0 : Array Value) (hw : ∀ d ∈ tables_1, d.before a0 Z = true) (ws : List Jvm.Cond) (b0 : Addr) (b1 : Addr) (p2 : Int64) (b3 : Addr) (f : Nat → Int32) (h0 : Heap) (n0 : Nat) (Z0 : n0 ≤ h0.size) (E_b0 : Exa Z h0 b0 "com/example/vaglio/vaglio/filter/FilterSnapshot") (F_b0_filter : Fld Z h0 b0 "com/example/vaglio/vaglio/filter/FilterSnapshot" "filter" "Lcom/example/vaglio/vaglio/filter/Filter;" .null) (F_b0_height : Fld Z h0 b0 "com/example/vaglio/vaglio/filter/FilterSnapshot" "height" "J" (.long (0 : Int64))) (F_b0_maskSeed : Fld Z h0 b0 "com/example/vaglio/vaglio/filter/FilterSnapshot" "maskSeed" "[B" .null) (g_b0 : n0 ≤ b0) (q2 : 0 ≤ p2.toInt ∧ p2.toInt ≤ 4294967295) (B_b3 : Ba Z h0 b3 .byte 32 f) (E_b3 : Exa Z h0 b3 "[B") (hfit : ∀ k, k < 32 → fits .byte (.int (f k)) = true) (ne30 : b3 ≠ b0) :
    MetFree l (⟨"com/example/vaglio/vaglio/filter/FilterSnapshot", "<init>", "(Lcom/example/vaglio/vaglio/filter/Filter;J[B)V"⟩ : MethodName) (head1 (Jvm.Cond.code (⟨"com/example/vaglio/vaglio/filter/FilterSnapshot", "<init>", "(Lcom/example/vaglio/vaglio/filter/Filter;J[B)V"⟩ : MethodName) prog_20_method_1_code 5 none :: ws) ({ frames := 2, cells := 5, slots := 80, locals := 25 } : Room)) (fun a U => a = #[(.ref b0), (.ref b1), (.long p2), (.ref b3)] ∧ Z.Warmed39 U.vm ∧ U.heap = h0) (fun _ _ _ _ _ => True) (fun _ U o U' => ∃ v L, o = .returned v ∧ Q8_1 Z b0 b1 p2 b3 f h0 n0 v U'.heap L ∧ ReturnedEndW U o U' L ({ frames := 2, cells := 5, slots := 80, locals := 25 } : Room).cells ({ frames := 2, cells := 5, slots := 80, locals := 25 } : Room).slots) := by
  refine MetFree.of_bodySF (plainFor_of_name pn_93593169) hisR ?_
  intro p e s m args below meth c s₁ Bd hml0 hP hK
  obtain ⟨rfl, hZ, hh⟩ := hP
  have C : Ctx p (s.setVm s.vm) m meth c Z "com/example/vaglio/vaglio/filter/FilterSnapshot" "<init>" prog_20_method_1_code 5 none := Ctx.of Bd hml0 hZ
  have X0 : Stand p l e ({ frames := 2, cells := 5, slots := 80, locals := 25 } : Room) (s.setVm s.vm) m #[(.ref b0), (.ref b1), (.long p2), (.ref b3)] below meth c s₁ [] 0 0 := Stand.of_body Bd
  have e0 : s₁.heap = h0 := by rw [← hh, Bd.state]; rfl
  have N0 := Fr.nil n0
  have hS0 : s.Since s.vm 0 := (State.WarmedH.refl s).since 0
  have own_strW := own_strA a0 hw
  refine Goes.enterW (ef_8_1 m b0 b1 p2 b3) ?_
  clear hK hml0 hh
  refine g_aloadN 1 rfl C X0 d8_0 rfl rfl ?_
  refine g_callN 4 rfl C X0 (argsL := []) rfl rfl (hw _ (List.mem_of_getElem? (i := 59) rfl)) (hw _ (List.mem_of_getElem? (i := 7) rfl)) (hw _ (List.mem_of_getElem? (i := 10) rfl)) (hw _ (List.mem_of_getElem? (i := 9) rfl)) e0 (rm2 l Z a0 hw [] b0 h0 n0 Z0) (lenOf pd_16428534 rfl) (by decide) (by decide) (by decide) (by decide) rfl (W := 0) (Nat.le_of_eq rfl) (by decide) d8_1 rfl fun r1 T2 Lc3 X4 hQ5 => ?_
  obtain ⟨rfl, Nq6, eh7⟩ := hQ5
  have N8 := Fr.app N0 Nq6
  show Goes _ _ _ _ _ _ 4 _ []
  refine g_aloadN 5 rfl C X4 d8_4 rfl rfl ?_
  refine w_ldcS 7 rfl C X4 hS0 (by rw [eh7]; exact (Nat.zero_le _)) (hw _ (List.mem_of_getElem? (i := 60) rfl)) own_strW eh7 d8_5 24 (by decide) (by decide) (by decide) (by decide) fun o9 T10 h11 k12 C X13 e14 E15 S16 hk17 => ?_
  have F18 := E_b0.ext E15
  have F19 := F_b0_filter.ext E15
  have F20 := F_b0_height.ext E15
  have F21 := F_b0_maskSeed.ext E15
  have F22 := B_b3.ext E15
  have F23 := E_b3.ext E15
  have Zs24 := Nat.le_trans Z0 E15.1
  have Ks25 := Nat.le_trans (Nat.zero_le _) E15.1
  have Kp26 : Keep h0 h11 [b0] := (Keep.refl h0 [b0]).ext E15
  have Ks27 : k12 ≤ h11.size := by rw [← e14]; exact hk17
  refine g_callS 10 rfl C X13 (argsL := [(.ref b1), (.ref o9)]) (hw _ (List.mem_of_getElem? (i := 61) rfl)) (hw _ (List.mem_of_getElem? (i := 34) rfl)) (hw _ (List.mem_of_getElem? (i := 36) rfl)) (hw _ (List.mem_of_getElem? (i := 35) rfl)) e14 (rm5 l Z a0 hw [] b1 o9 h11 n0 Zs24) (lenOf pd_40943338 rfl) (by decide) (by decide) (by decide) (by decide) rfl (W := 0) (Nat.le_of_eq rfl) (by decide) d8_7 rfl fun r28 T29 Lc30 X31 hQ32 => ?_
  obtain ⟨rfl, Nq33, eh34⟩ := hQ32
  have N35 := Fr.app N8 Nq33
  show Goes _ _ _ _ _ _ 10 _ [(.ref b1)]
  refine g_pop 11 rfl C X31 d8_10 rfl ?_
  refine g_lloadN 12 rfl C X31 d8_11 rfl ?_
  refine g_lconst 13 rfl C X31 (0 : Int64) d8_12 rfl ?_
  refine g_lcmp 14 rfl C X31 d8_13 ?_
  have fr36 := rng64 p2
  have fc37 : (0 : Int64).toInt = 0 := rfl
  have hb38 : ¬ (p2.toInt < (0 : Int64).toInt) := by omega
  refine g_il_lt_f 17 rfl C X31 d8_14 hb38 ?_
  refine g_lloadN 18 rfl C X31 d8_17 rfl ?_
  refine g_ldc2 21 rfl C X31 (hw _ (List.mem_of_getElem? (i := 62) rfl)) d8_18 ?_
  refine g_lcmp 22 rfl C X31 d8_21 ?_
  have fc39 : (4294967295 : Int64).toInt = 4294967295 := rfl
  have hb40 : ¬ ((4294967295 : Int64).toInt < p2.toInt) := by omega
  refine g_il_le_t 39 C X31 d8_22 (by decide) (by decide) hb40 ?_
  refine g_aload 41 rfl C X31 d8_39 rfl rfl ?_
  refine g_ifnonnull_t 48 C X31 d8_41 (by decide) (by decide) ?_
  refine g_aload 50 rfl C X31 d8_48 rfl rfl ?_
  refine w_callS 53 rfl C X31 S16 (by rw [eh34]; exact Ks27) (argsL := [(.ref b3)]) (hw _ (List.mem_of_getElem? (i := 85) rfl)) (hw _ (List.mem_of_getElem? (i := 86) rfl)) (hw _ (List.mem_of_getElem? (i := 88) rfl)) (hw _ (List.mem_of_getElem? (i := 87) rfl)) eh34 (rm12 l Z a0 hw [] b3 f h11 n0 Zs24 F22) (lenOf pd_20178412 rfl) (by decide) (by decide) (by decide) (by decide) rfl (W := 0) (Nat.le_of_eq rfl) (by decide) d8_50 rfl fun r41 T42 Lc43 k46 C X44 S47 hk48 hQ45 => ?_
  obtain ⟨rfl, Nq49, Kc50⟩ := hQ45
  have F51 := F18.keep Kc50
  have F52 := F19.keep Kc50 nin0
  have F53 := F20.keep Kc50 nin0
  have F54 := F21.keep Kc50 nin0
  have F55 := F22.keep Kc50 nin0
  have F56 := F23.keep Kc50
  have Zs57 := Nat.le_trans Zs24 Kc50.1
  have Ks58 := Nat.le_trans Ks27 Kc50.1
  have Kp59 : Keep h0 T42.heap [b0] := Keep.trans Kp26 Kc50 all0
  have N60 := Fr.app N35 Nq49
  show Goes _ _ _ _ _ _ 53 _ [(.ref b3)]
  refine g_clone 56 rfl C X44 (hw _ (List.mem_of_getElem? (i := 91) rfl)) (hw _ (List.mem_of_getElem? (i := 92) rfl)) (hw _ (List.mem_of_getElem? (i := 96) rfl)) (hw _ (List.mem_of_getElem? (i := 94) rfl)) (hw _ (List.mem_of_getElem? (i := 95) rfl)) (hw _ (List.mem_of_getElem? (i := 97) rfl)) rfl F55 F56 hfit d8_53 rfl (by decide) (W := 0) (Nat.le_of_eq rfl) (by decide) (by decide) (by decide) fun T61 h62 o63 g64 X65 e66 E67 B68 A69 => ?_
  have ne70 : b0 ≠ o63 := by rw [g64]; exact Nat.ne_of_lt F51.lt
  have ne71 : b3 ≠ o63 := by rw [g64]; exact Nat.ne_of_lt F55.lt
  have gn72 : n0 ≤ o63 := by rw [g64]; exact Zs57
  have sz73 : h0.size ≤ o63 := by rw [g64]; exact Kp59.1
  have F74 := F51.ext E67
  have F75 := F52.ext E67
  have F76 := F53.ext E67
  have F77 := F54.ext E67
  have F78 := F55.ext E67
  have F79 := F56.ext E67
  have Zs80 := Nat.le_trans Zs57 E67.1
  have Ks81 := Nat.le_trans hk48 E67.1
  have Kp82 : Keep h0 h62 [b0] := Kp59.ext E67
  refine g_cast 59 rfl C X65 (hw _ (List.mem_of_getElem? (i := 98) rfl)) e66 (Ins.self A69) d8_56 fun T83 X84 e85 => ?_
  refine g_astore 61 rfl C X84 #[.val (.ref b0), .val (.ref b1), .val (.long p2), .second, .val (.ref o63)] d8_59 rfl rfl ?_
  refine g_aloadN 62 rfl C X84 d8_61 rfl rfl ?_
  refine g_aloadN 63 rfl C X84 d8_62 rfl rfl ?_
  refine g_putF 66 rfl C X84 (host := "") (Or.inl (hw _ (List.mem_of_getElem? (i := 63) rfl))) Via.refl e85 F75 F74 (Or.inr ⟨(hw _ (List.mem_of_getElem? (i := 64) rfl)), rfl, rfl⟩) (hw _ (List.mem_of_getElem? (i := 54) rfl)) (ty := (.object "com/example/vaglio/vaglio/filter/Filter")) (by decide) rfl rfl d8_63 N60 g_b0 fun T86 h87 ls88 X89 e90 W91 N92 => ?_
  have F93 : Fld Z h87 b0 "com/example/vaglio/vaglio/filter/FilterSnapshot" "filter" "Lcom/example/vaglio/vaglio/filter/Filter;" (.ref b1) := F75.same W91
  have F94 := F74.wr W91
  have F95 := F76.other W91 (Or.inr (slot_ne (Or.inr (hw _ (List.mem_of_getElem? (i := 66) rfl))) (Or.inr (hw _ (List.mem_of_getElem? (i := 64) rfl))) (by decide) (t := .long) (t' := (.object "com/example/vaglio/vaglio/filter/Filter")) (by decide) (by decide)))
  have F96 := F77.other W91 (Or.inr (slot_ne (Or.inr (hw _ (List.mem_of_getElem? (i := 68) rfl))) (Or.inr (hw _ (List.mem_of_getElem? (i := 64) rfl))) (by decide) (t := (.array .byte)) (t' := (.object "com/example/vaglio/vaglio/filter/Filter")) (by decide) (by decide)))
  have F97 := F78.other W91 ne30
  have F98 := F79.wr W91
  have F99 := B68.other W91 (Ne.symm ne70)
  have F100 := A69.wr W91
  have Zs101 := Nat.le_trans Zs80 (Nat.le_of_eq W91.size.symm)
  have Ks102 := Nat.le_trans Ks81 (Nat.le_of_eq W91.size.symm)
  have Kp103 : Keep h0 h87 [b0] := Kp82.wr W91 (Or.inl (List.mem_of_getElem? (i := 0) rfl))
  refine g_aloadN 67 rfl C X89 d8_66 rfl rfl ?_
  refine g_lloadN 68 rfl C X89 d8_67 rfl ?_
  refine g_putF 71 rfl C X89 (host := "") (Or.inl (hw _ (List.mem_of_getElem? (i := 65) rfl))) Via.refl e90 F95 F94 (Or.inr ⟨(hw _ (List.mem_of_getElem? (i := 66) rfl)), rfl, rfl⟩) (hw _ (List.mem_of_getElem? (i := 54) rfl)) (ty := .long) (by decide) rfl rfl d8_68 N92 g_b0 fun T104 h105 ls106 X107 e108 W109 N110 => ?_
  have F111 : Fld Z h105 b0 "com/example/vaglio/vaglio/filter/FilterSnapshot" "height" "J" (.long p2) := F95.same W109
  have F112 := F94.wr W109
  have F113 := F93.other W109 (Or.inr (slot_ne (Or.inr (hw _ (List.mem_of_getElem? (i := 64) rfl))) (Or.inr (hw _ (List.mem_of_getElem? (i := 66) rfl))) (by decide) (t := (.object "com/example/vaglio/vaglio/filter/Filter")) (t' := .long) (by decide) (by decide)))
  have F114 := F96.other W109 (Or.inr (slot_ne (Or.inr (hw _ (List.mem_of_getElem? (i := 68) rfl))) (Or.inr (hw _ (List.mem_of_getElem? (i := 66) rfl))) (by decide) (t := (.array .byte)) (t' := .long) (by decide) (by decide)))
  have F115 := F97.other W109 ne30
  have F116 := F98.wr W109
  have F117 := F99.other W109 (Ne.symm ne70)
  have F118 := F100.wr W109
  have Zs119 := Nat.le_trans Zs101 (Nat.le_of_eq W109.size.symm)
  have Ks120 := Nat.le_trans Ks102 (Nat.le_of_eq W109.size.symm)
  have Kp121 : Keep h0 h105 [b0] := Kp103.wr W109 (Or.inl (List.mem_of_getElem? (i := 0) rfl))
  refine g_aloadN 72 rfl C X107 d8_71 rfl rfl ?_
  refine g_aload 74 rfl C X107 d8_72 rfl rfl ?_
  refine g_putF 77 rfl C X107 (host := "") (Or.inl (hw _ (List.mem_of_getElem? (i := 67) rfl))) Via.refl e108 F114 F112 (Or.inr ⟨(hw _ (List.mem_of_getElem? (i := 68) rfl)), rfl, rfl⟩) (hw _ (List.mem_of_getElem? (i := 54) rfl)) (ty := (.array .byte)) (by decide) rfl rfl d8_74 N110 g_b0 fun T122 h123 ls124 X125 e126 W127 N128 => ?_
  have F129 : Fld Z h123 b0 "com/example/vaglio/vaglio/filter/FilterSnapshot" "maskSeed" "[B" (.ref o63) := F114.same W127
  have F130 := F112.wr W127
  have F131 := F113.other W127 (Or.inr (slot_ne (Or.inr (hw _ (List.mem_of_getElem? (i := 64) rfl))) (Or.inr (hw _ (List.mem_of_getElem? (i := 68) rfl))) (by decide) (t := (.object "com/example/vaglio/vaglio/filter/Filter")) (t' := (.array .byte)) (by decide) (by decide)))
  have F132 := F111.other W127 (Or.inr (slot_ne (Or.inr (hw _ (List.mem_of_getElem? (i := 66) rfl))) (Or.inr (hw _ (List.mem_of_getElem? (i := 68) rfl))) (by decide) (t := .long) (t' := (.array .byte)) (by decide) (by decide)))
  have F133 := F115.other W127 ne30
  have F134 := F116.wr W127
  have F135 := F117.other W127 (Ne.symm ne70)
  have F136 := F118.wr W127
  have Zs137 := Nat.le_trans Zs119 (Nat.le_of_eq W127.size.symm)
  have Ks138 := Nat.le_trans Ks120 (Nat.le_of_eq W127.size.symm)
  have Kp139 : Keep h0 h123 [b0] := Kp121.wr W127 (Or.inl (List.mem_of_getElem? (i := 0) rfl))
  exact w_retV C X125 S47 (by rw [e126]; exact Ks138) rfl d8_77 e126 (by decide) (by decide) ⟨o63, rfl, N128, Kp139, F130, F131, F132, F129, sz73, F135, F136⟩
theorem d10_0 : decode prog_20_method_3_code 0 = .ok (.aload_n 0, 1) := by decide +kernel
theorem d10_1 : decode prog_20_method_3_code 1 = .ok (.getfield 47, 3) := by decide +kernel
theorem d10_4 : decode prog_20_method_3_code 4 = .ok (.ifnonnull 7, 3) := by decide +kernel
theorem d10_7 : decode prog_20_method_3_code 7 = .ok (.aconst_null, 1) := by decide +kernel
theorem d10_8 : decode prog_20_method_3_code 8 = .ok (.goto 13, 3) := by decide +kernel
theorem d10_21 : decode prog_20_method_3_code 21 = .ok (.areturn, 1) := by decide +kernel
theorem ef_10_0 (m : MethodId) (b0 : Addr) : entryFrame m #[(.ref b0)] 1 = mkF m 0 #[.val (.ref b0)] [] := by first | (simp [entryFrame, mkF, argsToLocals, Value.category]; done) | rfl
def Q10_0 (Z : State) (b0 : Addr) (h0 : Heap) (n0 : Nat) (v : Option Value) (h : Heap) (L : List Loc) : Prop := v = some .null ∧ Fr n0 L ∧ h = h0
set_option maxRecDepth 65536 in
set_option maxHeartbeats 40000000 in
theorem rm10_0 (l : Launch) (Z : State) (a0 : Array Value) (hw : ∀ d ∈ tables_1, d.before a0 Z = true) (ws : List Jvm.Cond) (b0 : Addr) (h0 : Heap) (n0 : Nat) (Z0 : n0 ≤ h0.size) (F_b0_maskSeed : Fld Z h0 b0 "com/example/vaglio/vaglio/filter/FilterSnapshot" "maskSeed" "[B" .null) :
    MetFree l (⟨"com/example/vaglio/vaglio/filter/FilterSnapshot", "maskSeed", "()[B"⟩ : MethodName) (head1 (Jvm.Cond.code (⟨"com/example/vaglio/vaglio/filter/FilterSnapshot", "maskSeed", "()[B"⟩ : MethodName) prog_20_method_3_code 1 (some (.array .byte)) :: ws) ({ frames := 0, cells := 0, slots := 0, locals := 0 } : Room)) (fun a U => a = #[(.ref b0)] ∧ Z.Warmed39 U.vm ∧ U.heap = h0) (fun _ _ _ _ _ => True) (fun _ U o U' => ∃ v L, o = .returned v ∧ Q10_0 Z b0 h0 n0 v U'.heap L ∧ FrameEnd U o U' L ({ frames := 0, cells := 0, slots := 0, locals := 0 } : Room).cells ({ frames := 0, cells := 0, slots := 0, locals := 0 } : Room).slots) := by
  refine MetFree.of_bodySF (plainFor_of_name pn_93593169) hisR ?_
  intro p e s m args below meth c s₁ Bd hml0 hP hK
  obtain ⟨rfl, hZ, hh⟩ := hP
  have C : Ctx p s m meth c Z "com/example/vaglio/vaglio/filter/FilterSnapshot" "maskSeed" prog_20_method_3_code 1 (some (.array .byte)) := Ctx.of Bd hml0 hZ
  have X0 : Stand p l e ({ frames := 0, cells := 0, slots := 0, locals := 0 } : Room) s m #[(.ref b0)] below meth c s₁ [] 0 0 := Stand.of_body Bd
  have e0 : s₁.heap = h0 := by rw [← hh, Bd.state]; rfl
  have N0 := Fr.nil n0
  refine Goes.enter (ef_10_0 m b0) ?_
  clear hK hml0 hh
  refine g_aloadN 1 rfl C X0 d10_0 rfl rfl ?_
  refine g_getF 4 rfl C X0 (host := "") (Or.inl (hw _ (List.mem_of_getElem? (i := 67) rfl))) Via.refl e0 F_b0_maskSeed d10_1 fun T1 X2 e3 => ?_
  refine g_ifnonnull_f 7 rfl C X2 d10_4 ?_
  refine g_null 8 rfl C X2 d10_7 ?_
  refine g_goto 21 C X2 d10_8 (by decide) (by decide) ?_
  exact g_retA C X2 rfl rfl rfl rfl d10_21 e3 (by decide) (by decide) ⟨rfl, N0, rfl⟩
theorem d10_11 : decode prog_20_method_3_code 11 = .ok (.aload_n 0, 1) := by decide +kernel
theorem d10_12 : decode prog_20_method_3_code 12 = .ok (.getfield 47, 3) := by decide +kernel
theorem d10_15 : decode prog_20_method_3_code 15 = .ok (.invokevirtual 34, 3) := by decide +kernel
theorem d10_18 : decode prog_20_method_3_code 18 = .ok (.checkcast 35, 3) := by decide +kernel
theorem ef_10_1 (m : MethodId) (b0 : Addr) : entryFrame m #[(.ref b0)] 1 = mkF m 0 #[.val (.ref b0)] [] := by first | (simp [entryFrame, mkF, argsToLocals, Value.category]; done) | rfl
def Q10_1 (Z : State) (b0 : Addr) (w1 : Addr) (f : Nat → Int32) (h0 : Heap) (n0 : Nat) (v : Option Value) (h : Heap) (L : List Loc) : Prop := ∃ a, v = some (.ref a) ∧ Fr n0 L ∧ Keep h0 h [] ∧ h0.size ≤ a ∧ Ba Z h a .byte 32 f
set_option maxRecDepth 65536 in
set_option maxHeartbeats 40000000 in
theorem rm10_1 (l : Launch) (Z : State) (a0 : Array Value) (hw : ∀ d ∈ tables_1, d.before a0 Z = true) (ws : List Jvm.Cond) (b0 : Addr) (w1 : Addr) (f : Nat → Int32) (h0 : Heap) (n0 : Nat) (Z0 : n0 ≤ h0.size) (F_b0_maskSeed : Fld Z h0 b0 "com/example/vaglio/vaglio/filter/FilterSnapshot" "maskSeed" "[B" (.ref w1)) (B_w1 : Ba Z h0 w1 .byte 32 f) (E_w1 : Exa Z h0 w1 "[B") (hfit : ∀ k, k < 32 → fits .byte (.int (f k)) = true) :
    MetFree l (⟨"com/example/vaglio/vaglio/filter/FilterSnapshot", "maskSeed", "()[B"⟩ : MethodName) (head1 (Jvm.Cond.code (⟨"com/example/vaglio/vaglio/filter/FilterSnapshot", "maskSeed", "()[B"⟩ : MethodName) prog_20_method_3_code 1 (some (.array .byte)) :: ws) ({ frames := 1, cells := 1, slots := 32, locals := 14 } : Room)) (fun a U => a = #[(.ref b0)] ∧ Z.Warmed39 U.vm ∧ U.heap = h0) (fun _ _ _ _ _ => True) (fun _ U o U' => ∃ v L, o = .returned v ∧ Q10_1 Z b0 w1 f h0 n0 v U'.heap L ∧ FrameEnd U o U' L ({ frames := 1, cells := 1, slots := 32, locals := 14 } : Room).cells ({ frames := 1, cells := 1, slots := 32, locals := 14 } : Room).slots) := by
  refine MetFree.of_bodySF (plainFor_of_name pn_93593169) hisR ?_
  intro p e s m args below meth c s₁ Bd hml0 hP hK
  obtain ⟨rfl, hZ, hh⟩ := hP
  have C : Ctx p s m meth c Z "com/example/vaglio/vaglio/filter/FilterSnapshot" "maskSeed" prog_20_method_3_code 1 (some (.array .byte)) := Ctx.of Bd hml0 hZ
  have X0 : Stand p l e ({ frames := 1, cells := 1, slots := 32, locals := 14 } : Room) s m #[(.ref b0)] below meth c s₁ [] 0 0 := Stand.of_body Bd
  have e0 : s₁.heap = h0 := by rw [← hh, Bd.state]; rfl
  have N0 := Fr.nil n0
  refine Goes.enter (ef_10_1 m b0) ?_
  clear hK hml0 hh
  refine g_aloadN 1 rfl C X0 d10_0 rfl rfl ?_
  refine g_getF 4 rfl C X0 (host := "") (Or.inl (hw _ (List.mem_of_getElem? (i := 67) rfl))) Via.refl e0 F_b0_maskSeed d10_1 fun T1 X2 e3 => ?_
  refine g_ifnonnull_t 11 C X2 d10_4 (by decide) (by decide) ?_
  refine g_aloadN 12 rfl C X2 d10_11 rfl rfl ?_
  refine g_getF 15 rfl C X2 (host := "") (Or.inl (hw _ (List.mem_of_getElem? (i := 67) rfl))) Via.refl e3 F_b0_maskSeed d10_12 fun T4 X5 e6 => ?_
  refine g_clone 18 rfl C X5 (hw _ (List.mem_of_getElem? (i := 91) rfl)) (hw _ (List.mem_of_getElem? (i := 92) rfl)) (hw _ (List.mem_of_getElem? (i := 96) rfl)) (hw _ (List.mem_of_getElem? (i := 94) rfl)) (hw _ (List.mem_of_getElem? (i := 95) rfl)) (hw _ (List.mem_of_getElem? (i := 97) rfl)) e6 B_w1 E_w1 hfit d10_15 rfl (by decide) (W := 0) (Nat.le_of_eq rfl) (by decide) (by decide) (by decide) fun T7 h8 o9 g10 X11 e12 E13 B14 A15 => ?_
  have ne16 : b0 ≠ o9 := by rw [g10]; exact Nat.ne_of_lt F_b0_maskSeed.lt
  have ne17 : w1 ≠ o9 := by rw [g10]; exact Nat.ne_of_lt B_w1.lt
  have gn18 : n0 ≤ o9 := by rw [g10]; exact Z0
  have sz19 : h0.size ≤ o9 := by rw [g10]; exact (Keep.refl h0 []).1
  have F20 := F_b0_maskSeed.ext E13
  have F21 := B_w1.ext E13
  have F22 := E_w1.ext E13
  have Zs23 := Nat.le_trans Z0 E13.1
  have Kp24 : Keep h0 h8 [] := (Keep.refl h0 []).ext E13
  refine g_cast 21 rfl C X11 (hw _ (List.mem_of_getElem? (i := 98) rfl)) e12 (Ins.self A15) d10_18 fun T25 X26 e27 => ?_
  exact g_retA C X26 rfl rfl rfl rfl d10_21 e27 (by decide) (by decide) ⟨o9, rfl, N0, Kp24, sz19, B14⟩
theorem d9_0 : decode prog_20_method_4_code 0 = .ok (.aload_n 0, 1) := by decide +kernel
theorem d9_1 : decode prog_20_method_4_code 1 = .ok (.getfield 47, 3) := by decide +kernel
theorem d9_4 : decode prog_20_method_4_code 4 = .ok (.ifnull 7, 3) := by decide +kernel
theorem d9_7 : decode prog_20_method_4_code 7 = .ok (.iconst 1, 1) := by decide +kernel
theorem d9_8 : decode prog_20_method_4_code 8 = .ok (.goto 4, 3) := by decide +kernel
theorem d9_12 : decode prog_20_method_4_code 12 = .ok (.ireturn, 1) := by decide +kernel
theorem ef_9_1 (m : MethodId) (b0 : Addr) : entryFrame m #[(.ref b0)] 1 = mkF m 0 #[.val (.ref b0)] [] := by first | (simp [entryFrame, mkF, argsToLocals, Value.category]; done) | rfl
def Q9_1 (Z : State) (b0 : Addr) (w1 : Addr) (h0 : Heap) (n0 : Nat) (v : Option Value) (h : Heap) (L : List Loc) : Prop := v = some (.int 1) ∧ Fr n0 L ∧ h = h0
set_option maxRecDepth 65536 in
set_option maxHeartbeats 40000000 in
theorem rm9_1 (l : Launch) (Z : State) (a0 : Array Value) (hw : ∀ d ∈ tables_1, d.before a0 Z = true) (ws : List Jvm.Cond) (b0 : Addr) (w1 : Addr) (h0 : Heap) (n0 : Nat) (Z0 : n0 ≤ h0.size) (F_b0_maskSeed : Fld Z h0 b0 "com/example/vaglio/vaglio/filter/FilterSnapshot" "maskSeed" "[B" (.ref w1)) :
    MetFree l (⟨"com/example/vaglio/vaglio/filter/FilterSnapshot", "masked", "()Z"⟩ : MethodName) (head1 (Jvm.Cond.code (⟨"com/example/vaglio/vaglio/filter/FilterSnapshot", "masked", "()Z"⟩ : MethodName) prog_20_method_4_code 1 (some .boolean) :: ws) ({ frames := 0, cells := 0, slots := 0, locals := 0 } : Room)) (fun a U => a = #[(.ref b0)] ∧ Z.Warmed39 U.vm ∧ U.heap = h0) (fun _ _ _ _ _ => True) (fun _ U o U' => ∃ v L, o = .returned v ∧ Q9_1 Z b0 w1 h0 n0 v U'.heap L ∧ FrameEnd U o U' L ({ frames := 0, cells := 0, slots := 0, locals := 0 } : Room).cells ({ frames := 0, cells := 0, slots := 0, locals := 0 } : Room).slots) := by
  refine MetFree.of_bodySF (plainFor_of_name pn_93593169) hisR ?_
  intro p e s m args below meth c s₁ Bd hml0 hP hK
  obtain ⟨rfl, hZ, hh⟩ := hP
  have C : Ctx p s m meth c Z "com/example/vaglio/vaglio/filter/FilterSnapshot" "masked" prog_20_method_4_code 1 (some .boolean) := Ctx.of Bd hml0 hZ
  have X0 : Stand p l e ({ frames := 0, cells := 0, slots := 0, locals := 0 } : Room) s m #[(.ref b0)] below meth c s₁ [] 0 0 := Stand.of_body Bd
  have e0 : s₁.heap = h0 := by rw [← hh, Bd.state]; rfl
  have N0 := Fr.nil n0
  refine Goes.enter (ef_9_1 m b0) ?_
  clear hK hml0 hh
  refine g_aloadN 1 rfl C X0 d9_0 rfl rfl ?_
  refine g_getF 4 rfl C X0 (host := "") (Or.inl (hw _ (List.mem_of_getElem? (i := 67) rfl))) Via.refl e0 F_b0_maskSeed d9_1 fun T1 X2 e3 => ?_
  refine g_ifnull_f 7 rfl C X2 d9_4 ?_
  refine g_iconst 8 rfl C X2 (1 : Int32) d9_7 rfl ?_
  refine g_goto 12 C X2 d9_8 (by decide) (by decide) ?_
  exact g_retN C X2 (z' := (1 : Int32)) rfl (Or.inl rfl) d9_12 e3 (by decide) (by decide) rfl ⟨rfl, N0, rfl⟩
theorem d9_11 : decode prog_20_method_4_code 11 = .ok (.iconst 0, 1) := by decide +kernel
theorem ef_9_0 (m : MethodId) (b0 : Addr) : entryFrame m #[(.ref b0)] 1 = mkF m 0 #[.val (.ref b0)] [] := by first | (simp [entryFrame, mkF, argsToLocals, Value.category]; done) | rfl
def Q9_0 (Z : State) (b0 : Addr) (h0 : Heap) (n0 : Nat) (v : Option Value) (h : Heap) (L : List Loc) : Prop := v = some (.int 0) ∧ Fr n0 L ∧ h = h0
set_option maxRecDepth 65536 in
set_option maxHeartbeats 40000000 in
theorem rm9_0 (l : Launch) (Z : State) (a0 : Array Value) (hw : ∀ d ∈ tables_1, d.before a0 Z = true) (ws : List Jvm.Cond) (b0 : Addr) (h0 : Heap) (n0 : Nat) (Z0 : n0 ≤ h0.size) (F_b0_maskSeed : Fld Z h0 b0 "com/example/vaglio/vaglio/filter/FilterSnapshot" "maskSeed" "[B" .null) :
    MetFree l (⟨"com/example/vaglio/vaglio/filter/FilterSnapshot", "masked", "()Z"⟩ : MethodName) (head1 (Jvm.Cond.code (⟨"com/example/vaglio/vaglio/filter/FilterSnapshot", "masked", "()Z"⟩ : MethodName) prog_20_method_4_code 1 (some .boolean) :: ws) ({ frames := 0, cells := 0, slots := 0, locals := 0 } : Room)) (fun a U => a = #[(.ref b0)] ∧ Z.Warmed39 U.vm ∧ U.heap = h0) (fun _ _ _ _ _ => True) (fun _ U o U' => ∃ v L, o = .returned v ∧ Q9_0 Z b0 h0 n0 v U'.heap L ∧ FrameEnd U o U' L ({ frames := 0, cells := 0, slots := 0, locals := 0 } : Room).cells ({ frames := 0, cells := 0, slots := 0, locals := 0 } : Room).slots) := by
  refine MetFree.of_bodySF (plainFor_of_name pn_93593169) hisR ?_
  intro p e s m args below meth c s₁ Bd hml0 hP hK
  obtain ⟨rfl, hZ, hh⟩ := hP
  have C : Ctx p s m meth c Z "com/example/vaglio/vaglio/filter/FilterSnapshot" "masked" prog_20_method_4_code 1 (some .boolean) := Ctx.of Bd hml0 hZ
  have X0 : Stand p l e ({ frames := 0, cells := 0, slots := 0, locals := 0 } : Room) s m #[(.ref b0)] below meth c s₁ [] 0 0 := Stand.of_body Bd
  have e0 : s₁.heap = h0 := by rw [← hh, Bd.state]; rfl
  have N0 := Fr.nil n0
  refine Goes.enter (ef_9_0 m b0) ?_
  clear hK hml0 hh
  refine g_aloadN 1 rfl C X0 d9_0 rfl rfl ?_
  refine g_getF 4 rfl C X0 (host := "") (Or.inl (hw _ (List.mem_of_getElem? (i := 67) rfl))) Via.refl e0 F_b0_maskSeed d9_1 fun T1 X2 e3 => ?_
  refine g_ifnull_t 11 C X2 d9_4 (by decide) (by decide) ?_
  refine g_iconst 12 rfl C X2 (0 : Int32) d9_11 rfl ?_
  exact g_retN C X2 (z' := (0 : Int32)) rfl (Or.inl rfl) d9_12 e3 (by decide) (by decide) rfl ⟨rfl, N0, rfl⟩
theorem d13_0 : decode prog_15_method_3_code 0 = .ok (.aload_n 0, 1) := by decide +kernel
theorem d13_1 : decode prog_15_method_3_code 1 = .ok (.getfield 37, 3) := by decide +kernel
theorem d13_4 : decode prog_15_method_3_code 4 = .ok (.areturn, 1) := by decide +kernel
theorem ef_13 (m : MethodId) (b0 : Addr) : entryFrame m #[(.ref b0)] 1 = mkF m 0 #[.val (.ref b0)] [] := by first | (simp [entryFrame, mkF, argsToLocals, Value.category]; done) | rfl
def Q13 (Z : State) (b0 : Addr) (w1 : Addr) (h0 : Heap) (n0 : Nat) (v : Option Value) (h : Heap) (L : List Loc) : Prop := v = some (.ref w1) ∧ Fr n0 L ∧ h = h0
set_option maxRecDepth 65536 in
set_option maxHeartbeats 40000000 in
theorem rm13 (l : Launch) (Z : State) (a0 : Array Value) (hw : ∀ d ∈ tables_1, d.before a0 Z = true) (ws : List Jvm.Cond) (b0 : Addr) (w1 : Addr) (h0 : Heap) (n0 : Nat) (Z0 : n0 ≤ h0.size) (F_b0_shape : Fld Z h0 b0 "com/example/vaglio/vaglio/filter/Filter" "shape" "Lcom/example/vaglio/vaglio/filter/FilterShape;" (.ref w1)) :
    MetFree l (⟨"com/example/vaglio/vaglio/filter/Filter", "shape", "()Lcom/example/vaglio/vaglio/filter/FilterShape;"⟩ : MethodName) (head1 (Jvm.Cond.code (⟨"com/example/vaglio/vaglio/filter/Filter", "shape", "()Lcom/example/vaglio/vaglio/filter/FilterShape;"⟩ : MethodName) prog_15_method_3_code 1 (some (.object "com/example/vaglio/vaglio/filter/FilterShape")) :: ws) ({ frames := 0, cells := 0, slots := 0, locals := 0 } : Room)) (fun a U => a = #[(.ref b0)] ∧ Z.Warmed39 U.vm ∧ U.heap = h0) (fun _ _ _ _ _ => True) (fun _ U o U' => ∃ v L, o = .returned v ∧ Q13 Z b0 w1 h0 n0 v U'.heap L ∧ FrameEnd U o U' L ({ frames := 0, cells := 0, slots := 0, locals := 0 } : Room).cells ({ frames := 0, cells := 0, slots := 0, locals := 0 } : Room).slots) := by
  refine MetFree.of_bodySF (plainFor_of_name pn_46490325) hisR ?_
  intro p e s m args below meth c s₁ Bd hml0 hP hK
  obtain ⟨rfl, hZ, hh⟩ := hP
  have C : Ctx p s m meth c Z "com/example/vaglio/vaglio/filter/Filter" "shape" prog_15_method_3_code 1 (some (.object "com/example/vaglio/vaglio/filter/FilterShape")) := Ctx.of Bd hml0 hZ
  have X0 : Stand p l e ({ frames := 0, cells := 0, slots := 0, locals := 0 } : Room) s m #[(.ref b0)] below meth c s₁ [] 0 0 := Stand.of_body Bd
  have e0 : s₁.heap = h0 := by rw [← hh, Bd.state]; rfl
  have N0 := Fr.nil n0
  refine Goes.enter (ef_13 m b0) ?_
  clear hK hml0 hh
  refine g_aloadN 1 rfl C X0 d13_0 rfl rfl ?_
  refine g_getF 4 rfl C X0 (host := "") (Or.inl (hw _ (List.mem_of_getElem? (i := 48) rfl))) Via.refl e0 F_b0_shape d13_1 fun T1 X2 e3 => ?_
  exact g_retA C X2 rfl rfl rfl rfl d13_4 e3 (by decide) (by decide) ⟨rfl, N0, rfl⟩
theorem d14_0 : decode prog_17_method_3_code 0 = .ok (.aload_n 0, 1) := by decide +kernel
theorem d14_1 : decode prog_17_method_3_code 1 = .ok (.invokevirtual 85, 3) := by decide +kernel
theorem d14_4 : decode prog_17_method_3_code 4 = .ok (.sipush 1024, 3) := by decide +kernel
theorem d14_7 : decode prog_17_method_3_code 7 = .ok (.iadd, 1) := by decide +kernel
theorem d14_8 : decode prog_17_method_3_code 8 = .ok (.iconst 1, 1) := by decide +kernel
theorem d14_9 : decode prog_17_method_3_code 9 = .ok (.isub, 1) := by decide +kernel
theorem d14_10 : decode prog_17_method_3_code 10 = .ok (.sipush 1024, 3) := by decide +kernel
theorem d14_13 : decode prog_17_method_3_code 13 = .ok (.idiv, 1) := by decide +kernel
theorem d14_14 : decode prog_17_method_3_code 14 = .ok (.istore_n 1, 1) := by decide +kernel
theorem d14_15 : decode prog_17_method_3_code 15 = .ok (.iload_n 1, 1) := by decide +kernel
theorem d14_16 : decode prog_17_method_3_code 16 = .ok (.sipush 1024, 3) := by decide +kernel
theorem d14_19 : decode prog_17_method_3_code 19 = .ok (.imul, 1) := by decide +kernel
theorem d14_20 : decode prog_17_method_3_code 20 = .ok (.ireturn, 1) := by decide +kernel
theorem ef_14 (m : MethodId) (b0 : Addr) : entryFrame m #[(.ref b0)] 2 = mkF m 0 #[.val (.ref b0), .unset] [] := by first | (simp [entryFrame, mkF, argsToLocals, Value.category]; done) | rfl
def Q14 (Z : State) (b0 : Addr) (w1 : Int32) (h0 : Heap) (n0 : Nat) (v : Option Value) (h : Heap) (L : List Loc) : Prop := ∃ r : Int32, v = some (.int r) ∧ (r.toInt = 1024) ∧ Fr n0 L ∧ h = h0
set_option maxRecDepth 65536 in
set_option maxHeartbeats 40000000 in
theorem rm14 (l : Launch) (Z : State) (a0 : Array Value) (hw : ∀ d ∈ tables_1, d.before a0 Z = true) (ws : List Jvm.Cond) (b0 : Addr) (w1 : Int32) (h0 : Heap) (n0 : Nat) (Z0 : n0 ≤ h0.size) (E_b0 : Exa Z h0 b0 "com/example/vaglio/vaglio/filter/FilterShape") (F_b0_rows : Fld Z h0 b0 "com/example/vaglio/vaglio/filter/FilterShape" "rows" "I" (.int w1)) (hw1 : 1 ≤ w1.toInt ∧ w1.toInt ≤ 1024) :
    MetFree l (⟨"com/example/vaglio/vaglio/filter/FilterMask", "rowsFor", "(Lcom/example/vaglio/vaglio/filter/FilterShape;)I"⟩ : MethodName) (head1 (Jvm.Cond.code (⟨"com/example/vaglio/vaglio/filter/FilterMask", "rowsFor", "(Lcom/example/vaglio/vaglio/filter/FilterShape;)I"⟩ : MethodName) prog_17_method_3_code 2 (some .int) :: ws) ({ frames := 1, cells := 0, slots := 0, locals := 12 } : Room)) (fun a U => a = #[(.ref b0)] ∧ Z.Warmed39 U.vm ∧ U.heap = h0) (fun _ _ _ _ _ => True) (fun _ U o U' => ∃ v L, o = .returned v ∧ Q14 Z b0 w1 h0 n0 v U'.heap L ∧ FrameEnd U o U' L ({ frames := 1, cells := 0, slots := 0, locals := 12 } : Room).cells ({ frames := 1, cells := 0, slots := 0, locals := 12 } : Room).slots) := by
  refine MetFree.of_bodySF (plainFor_of_name pn_11936945) hisR ?_
  intro p e s m args below meth c s₁ Bd hml0 hP hK
  obtain ⟨rfl, hZ, hh⟩ := hP
  have C : Ctx p s m meth c Z "com/example/vaglio/vaglio/filter/FilterMask" "rowsFor" prog_17_method_3_code 2 (some .int) := Ctx.of Bd hml0 hZ
  have X0 : Stand p l e ({ frames := 1, cells := 0, slots := 0, locals := 12 } : Room) s m #[(.ref b0)] below meth c s₁ [] 0 0 := Stand.of_body Bd
  have e0 : s₁.heap = h0 := by rw [← hh, Bd.state]; rfl
  have N0 := Fr.nil n0
  refine Goes.enter (ef_14 m b0) ?_
  clear hK hml0 hh
  refine g_aloadN 1 rfl C X0 d14_0 rfl rfl ?_
  refine g_callV 4 rfl C X0 (argsL := []) (hw _ (List.mem_of_getElem? (i := 108) rfl)) (hw _ (List.mem_of_getElem? (i := 40) rfl)) (hw _ (List.mem_of_getElem? (i := 42) rfl)) (hw _ (List.mem_of_getElem? (i := 41) rfl)) (hw _ (List.mem_of_getElem? (i := 43) rfl)) (hw _ (List.mem_of_getElem? (i := 2) rfl)) e0 E_b0 (rm6 l Z a0 hw [] b0 w1 h0 n0 Z0 F_b0_rows) (lenOf pd_16428521 rfl) (by decide) (by decide) (by decide) (by decide) rfl (W := 0) (Nat.le_of_eq rfl) (by decide) d14_1 rfl fun r1 T2 Lc3 X4 hQ5 => ?_
  obtain ⟨rfl, Nq6, eh7⟩ := hQ5
  have N8 := Fr.app N0 Nq6
  show Goes _ _ _ _ _ _ 4 _ [(.int w1)]
  refine g_sipush 7 rfl C X4 (1024 : Int32) d14_4 rfl ?_
  refine g_iadd 8 rfl C X4 d14_7 ?_
  refine g_iconst 9 rfl C X4 (1 : Int32) d14_8 rfl ?_
  refine g_isub 10 rfl C X4 d14_9 ?_
  refine g_sipush 13 rfl C X4 (1024 : Int32) d14_10 rfl ?_
  refine g_idiv 14 rfl C X4 d14_13 (by decide) ?_
  obtain ⟨v9, hv9⟩ : ∃ z : Int32, (((w1 + (1024 : Int32)) - (1 : Int32)) / (1024 : Int32)) = z := ⟨_, rfl⟩
  refine g_istoreN 15 rfl C X4 v9 hv9 #[.val (.ref b0), .val (.int v9)] d14_14 rfl ?_
  refine g_iloadN 16 rfl C X4 d14_15 rfl ?_
  refine g_sipush 19 rfl C X4 (1024 : Int32) d14_16 rfl ?_
  refine g_imul 20 rfl C X4 d14_19 ?_
  have fr10 := rng32 v9
  have fr11 := rng32 w1
  have fc12 : (1024 : Int32).toInt = 1024 := rfl
  have fo13 := c_iadd w1 (1024 : Int32)
  have fr14 := rng32 (w1 + (1024 : Int32))
  have fc15 : (1 : Int32).toInt = 1 := rfl
  have fo16 := c_isub (w1 + (1024 : Int32)) (1 : Int32)
  have fr17 := rng32 ((w1 + (1024 : Int32)) - (1 : Int32))
  have fo18 := c_idiv ((w1 + (1024 : Int32)) - (1 : Int32)) (1024 : Int32) 1024 rfl (by decide)
  have fr19 := rng32 (((w1 + (1024 : Int32)) - (1 : Int32)) / (1024 : Int32))
  have fe20 : (((w1 + (1024 : Int32)) - (1 : Int32)) / (1024 : Int32)).toInt = v9.toInt := congrArg Int32.toInt hv9
  have fo21 := own_mulc v9 (1024 : Int32) 1024 rfl
  have fr22 := rng32 (v9 * (1024 : Int32))
  exact g_retI C X4 rfl d14_20 eh7 (by decide) (by decide) ⟨_, rfl, by omega, N8, rfl⟩
theorem d11_0 : decode prog_20_method_5_code 0 = .ok (.aload_n 0, 1) := by decide +kernel
theorem d11_1 : decode prog_20_method_5_code 1 = .ok (.invokevirtual 53, 3) := by decide +kernel
theorem pd_16428538 : parseMethodDescriptor "()Z" = some ⟨[], some .boolean⟩ := by decide +kernel
theorem d11_4 : decode prog_20_method_5_code 4 = .ok (.ifCond .eq 16, 3) := by decide +kernel
theorem d11_7 : decode prog_20_method_5_code 7 = .ok (.aload_n 0, 1) := by decide +kernel
theorem d11_8 : decode prog_20_method_5_code 8 = .ok (.getfield 40, 3) := by decide +kernel
theorem d11_11 : decode prog_20_method_5_code 11 = .ok (.invokevirtual 57, 3) := by decide +kernel
theorem pd_30412818 : parseMethodDescriptor "()Lcom/example/vaglio/vaglio/filter/FilterShape;" = some ⟨[], some (.object "com/example/vaglio/vaglio/filter/FilterShape")⟩ := by decide +kernel
theorem d11_14 : decode prog_20_method_5_code 14 = .ok (.invokestatic 63, 3) := by decide +kernel
theorem pd_28114307 : parseMethodDescriptor "(Lcom/example/vaglio/vaglio/filter/FilterShape;)I" = some ⟨[(.object "com/example/vaglio/vaglio/filter/FilterShape")], some .int⟩ := by decide +kernel
theorem d11_17 : decode prog_20_method_5_code 17 = .ok (.goto 4, 3) := by decide +kernel
theorem d11_21 : decode prog_20_method_5_code 21 = .ok (.ireturn, 1) := by decide +kernel
theorem ef_11_1 (m : MethodId) (b0 : Addr) : entryFrame m #[(.ref b0)] 1 = mkF m 0 #[.val (.ref b0)] [] := by first | (simp [entryFrame, mkF, argsToLocals, Value.category]; done) | rfl
def Q11_1 (Z : State) (b0 : Addr) (m1 : Addr) (b1 : Addr) (b2 : Addr) (w1 : Int32) (h0 : Heap) (n0 : Nat) (v : Option Value) (h : Heap) (L : List Loc) : Prop := ∃ r : Int32, v = some (.int r) ∧ (r.toInt = 1024) ∧ Fr n0 L ∧ h = h0
set_option maxRecDepth 65536 in
set_option maxHeartbeats 40000000 in
theorem rm11_1 (l : Launch) (Z : State) (a0 : Array Value) (hw : ∀ d ∈ tables_1, d.before a0 Z = true) (ws : List Jvm.Cond) (b0 : Addr) (m1 : Addr) (b1 : Addr) (b2 : Addr) (w1 : Int32) (h0 : Heap) (n0 : Nat) (Z0 : n0 ≤ h0.size) (E_b0 : Exa Z h0 b0 "com/example/vaglio/vaglio/filter/FilterSnapshot") (F_b0_filter : Fld Z h0 b0 "com/example/vaglio/vaglio/filter/FilterSnapshot" "filter" "Lcom/example/vaglio/vaglio/filter/Filter;" (.ref b1)) (F_b0_maskSeed : Fld Z h0 b0 "com/example/vaglio/vaglio/filter/FilterSnapshot" "maskSeed" "[B" (.ref m1)) (E_b1 : Exa Z h0 b1 "com/example/vaglio/vaglio/filter/Filter") (F_b1_shape : Fld Z h0 b1 "com/example/vaglio/vaglio/filter/Filter" "shape" "Lcom/example/vaglio/vaglio/filter/FilterShape;" (.ref b2)) (E_b2 : Exa Z h0 b2 "com/example/vaglio/vaglio/filter/FilterShape") (F_b2_rows : Fld Z h0 b2 "com/example/vaglio/vaglio/filter/FilterShape" "rows" "I" (.int w1)) (hw1 : 1 ≤ w1.toInt ∧ w1.toInt ≤ 1024) :
    MetFree l (⟨"com/example/vaglio/vaglio/filter/FilterSnapshot", "maskRows", "()I"⟩ : MethodName) (head1 (Jvm.Cond.code (⟨"com/example/vaglio/vaglio/filter/FilterSnapshot", "maskRows", "()I"⟩ : MethodName) prog_20_method_5_code 1 (some .int) :: ws) ({ frames := 2, cells := 0, slots := 0, locals := 25 } : Room)) (fun a U => a = #[(.ref b0)] ∧ Z.Warmed39 U.vm ∧ U.heap = h0) (fun _ _ _ _ _ => True) (fun _ U o U' => ∃ v L, o = .returned v ∧ Q11_1 Z b0 m1 b1 b2 w1 h0 n0 v U'.heap L ∧ FrameEnd U o U' L ({ frames := 2, cells := 0, slots := 0, locals := 25 } : Room).cells ({ frames := 2, cells := 0, slots := 0, locals := 25 } : Room).slots) := by
  refine MetFree.of_bodySF (plainFor_of_name pn_93593169) hisR ?_
  intro p e s m args below meth c s₁ Bd hml0 hP hK
  obtain ⟨rfl, hZ, hh⟩ := hP
  have C : Ctx p s m meth c Z "com/example/vaglio/vaglio/filter/FilterSnapshot" "maskRows" prog_20_method_5_code 1 (some .int) := Ctx.of Bd hml0 hZ
  have X0 : Stand p l e ({ frames := 2, cells := 0, slots := 0, locals := 25 } : Room) s m #[(.ref b0)] below meth c s₁ [] 0 0 := Stand.of_body Bd
  have e0 : s₁.heap = h0 := by rw [← hh, Bd.state]; rfl
  have N0 := Fr.nil n0
  refine Goes.enter (ef_11_1 m b0) ?_
  clear hK hml0 hh
  refine g_aloadN 1 rfl C X0 d11_0 rfl rfl ?_
  refine g_callV 4 rfl C X0 (argsL := []) (hw _ (List.mem_of_getElem? (i := 84) rfl)) (hw _ (List.mem_of_getElem? (i := 70) rfl)) (hw _ (List.mem_of_getElem? (i := 72) rfl)) (hw _ (List.mem_of_getElem? (i := 71) rfl)) (hw _ (List.mem_of_getElem? (i := 73) rfl)) (hw _ (List.mem_of_getElem? (i := 55) rfl)) e0 E_b0 (rm9_1 l Z a0 hw [] b0 m1 h0 n0 Z0 F_b0_maskSeed) (lenOf pd_16428538 rfl) (by decide) (by decide) (by decide) (by decide) rfl (W := 0) (Nat.le_of_eq rfl) (by decide) d11_1 rfl fun r1 T2 Lc3 X4 hQ5 => ?_
  obtain ⟨rfl, Nq6, eh7⟩ := hQ5
  have N8 := Fr.app N0 Nq6
  show Goes _ _ _ _ _ _ 4 _ [(.int (1 : Int32))]
  refine g_if_eq_f 7 rfl C X4 d11_4 (by decide) ?_
  refine g_aloadN 8 rfl C X4 d11_7 rfl rfl ?_
  refine g_getF 11 rfl C X4 (host := "") (Or.inl (hw _ (List.mem_of_getElem? (i := 63) rfl))) Via.refl eh7 F_b0_filter d11_8 fun T9 X10 e11 => ?_
  refine g_callV 14 rfl C X10 (argsL := []) (hw _ (List.mem_of_getElem? (i := 100) rfl)) (hw _ (List.mem_of_getElem? (i := 101) rfl)) (hw _ (List.mem_of_getElem? (i := 103) rfl)) (hw _ (List.mem_of_getElem? (i := 102) rfl)) (hw _ (List.mem_of_getElem? (i := 104) rfl)) (hw _ (List.mem_of_getElem? (i := 21) rfl)) e11 E_b1 (rm13 l Z a0 hw [] b1 b2 h0 n0 Z0 F_b1_shape) (lenOf pd_30412818 rfl) (by decide) (by decide) (by decide) (by decide) rfl (W := 0) (Nat.le_of_eq rfl) (by decide) d11_11 rfl fun r12 T13 Lc14 X15 hQ16 => ?_
  obtain ⟨rfl, Nq17, eh18⟩ := hQ16
  have N19 := Fr.app N8 Nq17
  show Goes _ _ _ _ _ _ 14 _ [(.ref b2)]
  refine g_callS 17 rfl C X15 (argsL := [(.ref b2)]) (hw _ (List.mem_of_getElem? (i := 105) rfl)) (hw _ (List.mem_of_getElem? (i := 106) rfl)) (hw _ (List.mem_of_getElem? (i := 107) rfl)) (hw _ (List.mem_of_getElem? (i := 87) rfl)) eh18 (rm14 l Z a0 hw [] b2 w1 h0 n0 Z0 E_b2 F_b2_rows hw1) (lenOf pd_28114307 rfl) (by decide) (by decide) (by decide) (by decide) rfl (W := 0) (Nat.le_of_eq rfl) (by decide) d11_14 rfl fun r20 T21 Lc22 X23 hQ24 => ?_
  obtain ⟨r25, rfl, hs26, Nq27, eh28⟩ := hQ24
  have N29 := Fr.app N19 Nq27
  show Goes _ _ _ _ _ _ 17 _ [(.int r25)]
  refine g_goto 21 C X23 d11_17 (by decide) (by decide) ?_
  have fc30 : (1 : Int32).toInt = 1 := rfl
  have fr31 := rng32 r25
  exact g_retI C X23 rfl d11_21 eh28 (by decide) (by decide) ⟨_, rfl, by omega, N29, rfl⟩
theorem d11_20 : decode prog_20_method_5_code 20 = .ok (.iconst 0, 1) := by decide +kernel
theorem ef_11_0 (m : MethodId) (b0 : Addr) : entryFrame m #[(.ref b0)] 1 = mkF m 0 #[.val (.ref b0)] [] := by first | (simp [entryFrame, mkF, argsToLocals, Value.category]; done) | rfl
def Q11_0 (Z : State) (b0 : Addr) (h0 : Heap) (n0 : Nat) (v : Option Value) (h : Heap) (L : List Loc) : Prop := ∃ r : Int32, v = some (.int r) ∧ (r.toInt = 0) ∧ Fr n0 L ∧ h = h0
set_option maxRecDepth 65536 in
set_option maxHeartbeats 40000000 in
theorem rm11_0 (l : Launch) (Z : State) (a0 : Array Value) (hw : ∀ d ∈ tables_1, d.before a0 Z = true) (ws : List Jvm.Cond) (b0 : Addr) (h0 : Heap) (n0 : Nat) (Z0 : n0 ≤ h0.size) (E_b0 : Exa Z h0 b0 "com/example/vaglio/vaglio/filter/FilterSnapshot") (F_b0_maskSeed : Fld Z h0 b0 "com/example/vaglio/vaglio/filter/FilterSnapshot" "maskSeed" "[B" .null) :
    MetFree l (⟨"com/example/vaglio/vaglio/filter/FilterSnapshot", "maskRows", "()I"⟩ : MethodName) (head1 (Jvm.Cond.code (⟨"com/example/vaglio/vaglio/filter/FilterSnapshot", "maskRows", "()I"⟩ : MethodName) prog_20_method_5_code 1 (some .int) :: ws) ({ frames := 1, cells := 0, slots := 0, locals := 12 } : Room)) (fun a U => a = #[(.ref b0)] ∧ Z.Warmed39 U.vm ∧ U.heap = h0) (fun _ _ _ _ _ => True) (fun _ U o U' => ∃ v L, o = .returned v ∧ Q11_0 Z b0 h0 n0 v U'.heap L ∧ FrameEnd U o U' L ({ frames := 1, cells := 0, slots := 0, locals := 12 } : Room).cells ({ frames := 1, cells := 0, slots := 0, locals := 12 } : Room).slots) := by
  refine MetFree.of_bodySF (plainFor_of_name pn_93593169) hisR ?_
  intro p e s m args below meth c s₁ Bd hml0 hP hK
  obtain ⟨rfl, hZ, hh⟩ := hP
  have C : Ctx p s m meth c Z "com/example/vaglio/vaglio/filter/FilterSnapshot" "maskRows" prog_20_method_5_code 1 (some .int) := Ctx.of Bd hml0 hZ
  have X0 : Stand p l e ({ frames := 1, cells := 0, slots := 0, locals := 12 } : Room) s m #[(.ref b0)] below meth c s₁ [] 0 0 := Stand.of_body Bd
  have e0 : s₁.heap = h0 := by rw [← hh, Bd.state]; rfl
  have N0 := Fr.nil n0
  refine Goes.enter (ef_11_0 m b0) ?_
  clear hK hml0 hh
  refine g_aloadN 1 rfl C X0 d11_0 rfl rfl ?_
  refine g_callV 4 rfl C X0 (argsL := []) (hw _ (List.mem_of_getElem? (i := 84) rfl)) (hw _ (List.mem_of_getElem? (i := 70) rfl)) (hw _ (List.mem_of_getElem? (i := 72) rfl)) (hw _ (List.mem_of_getElem? (i := 71) rfl)) (hw _ (List.mem_of_getElem? (i := 73) rfl)) (hw _ (List.mem_of_getElem? (i := 55) rfl)) e0 E_b0 (rm9_0 l Z a0 hw [] b0 h0 n0 Z0 F_b0_maskSeed) (lenOf pd_16428538 rfl) (by decide) (by decide) (by decide) (by decide) rfl (W := 0) (Nat.le_of_eq rfl) (by decide) d11_1 rfl fun r1 T2 Lc3 X4 hQ5 => ?_
  obtain ⟨rfl, Nq6, eh7⟩ := hQ5
  have N8 := Fr.app N0 Nq6
  show Goes _ _ _ _ _ _ 4 _ [(.int (0 : Int32))]
  refine g_if_eq_t 20 C X4 d11_4 (by decide) (by decide) (by decide) ?_
  refine g_iconst 21 rfl C X4 (0 : Int32) d11_20 rfl ?_
  have fc9 : (0 : Int32).toInt = 0 := rfl
  exact g_retI C X4 rfl d11_21 eh7 (by decide) (by decide) ⟨_, rfl, by omega, N8, rfl⟩
theorem pd_1793250 : parseMethodDescriptor "(II)V" = some ⟨[.int, .int], none⟩ := by decide +kernel
theorem pd_28114320 : parseMethodDescriptor "(Lcom/example/vaglio/vaglio/filter/FilterShape;)V" = some ⟨[(.object "com/example/vaglio/vaglio/filter/FilterShape")], none⟩ := by decide +kernel
theorem pd_11076584 : parseMethodDescriptor "(Lcom/example/vaglio/vaglio/filter/Filter;J[B)V" = some ⟨[(.object "com/example/vaglio/vaglio/filter/Filter"), .long, (.array .byte)], none⟩ := by decide +kernel
theorem pd_52138675 : parseMethodDescriptor "()[B" = some ⟨[], some (.array .byte)⟩ := by decide +kernel
theorem pn_13901233 : plainName "com/example/vaglio/vaglio/filter/FilterSnapshotMaskedPinLaw" = true := by first | (simp [plainName, overriddenIn]; done) | decide +kernel
theorem ef_0 (m : MethodId) (p0 : Int32) (p1 : Int32) (p2 : Int32) (p3 : Int64) (p4 : Int32) : entryFrame m #[(.int p0), (.int p1), (.int p2), (.long p3), (.int p4)] maxLocals = mkF m 0 #[.val (.int p0), .val (.int p1), .val (.int p2), .val (.long p3), .second, .val (.int p4), .unset, .unset, .unset, .unset, .unset, .unset, .unset, .unset, .unset, .unset, .unset] [] := by first | (simp [entryFrame, mkF, argsToLocals, Value.category, maxLocals]; done) | rfl
def Q0 (Z : State) (p0 : Int32) (p1 : Int32) (p2 : Int32) (p3 : Int64) (p4 : Int32) (h0 : Heap) (n0 : Nat) (v : Option Value) (h : Heap) (L : List Loc) : Prop := v = some (.int 1) ∧ Fr n0 L
set_option maxRecDepth 65536 in
set_option maxHeartbeats 40000000 in
theorem rm0 (l : Launch) (Z : State) (a0 : Array Value) (hw : ∀ d ∈ tables_1, d.before a0 Z = true) (ws : List Jvm.Cond) (p0 : Int32) (p1 : Int32) (p2 : Int32) (p3 : Int64) (p4 : Int32) (h0 : Heap) (n0 : Nat) (Z0 : n0 ≤ h0.size) :
    MetFree l x (head1 (Jvm.Cond.code x code maxLocals ret :: ws) room_1) (fun a U => a = #[(.int p0), (.int p1), (.int p2), (.long p3), (.int p4)] ∧ Z.Warmed39 U.vm ∧ U.heap = h0) (fun _ _ _ _ _ => True) (fun _ U o U' => ∃ v L, o = .returned v ∧ Q0 Z p0 p1 p2 p3 p4 h0 n0 v U'.heap L ∧ ReturnedEndW U o U' L 32 160512) := by
  refine MetFree.of_bodySF (plainFor_of_name pn_13901233) hisR ?_
  intro p e s m args below meth c s₁ Bd hml0 hP hK
  obtain ⟨rfl, hZ, hh⟩ := hP
  have C : Ctx p (s.setVm s.vm) m meth c Z "com/example/vaglio/vaglio/filter/FilterSnapshotMaskedPinLaw" "law" code maxLocals ret := Ctx.of Bd hml0 hZ
  have X0 : Stand p l e room_1 (s.setVm s.vm) m #[(.int p0), (.int p1), (.int p2), (.long p3), (.int p4)] below meth c s₁ [] 0 0 := Stand.of_body Bd
  have e0 : s₁.heap = h0 := by rw [← hh, Bd.state]; rfl
  have N0 := Fr.nil n0
  have hS0 : s.Since s.vm 0 := (State.WarmedH.refl s).since 0
  have own_strW := own_strA a0 hw
  refine Goes.enterW (ef_0 m p0 p1 p2 p3 p4) ?_
  clear hK hml0 hh
  refine g_iloadN 1 rfl C X0 at_0 rfl ?_
  refine g_iconst 2 rfl C X0 (1 : Int32) at_1 rfl ?_
  refine g_iand 3 rfl C X0 at_2 ?_
  by_cases hb1 : (p0 &&& (1 : Int32)).toInt = 0
  · skip
    refine g_if_eq_t 10 C X0 at_3 (by decide) (by decide) hb1 ?_
    refine g_iconst 11 rfl C X0 (0 : Int32) at_10 rfl ?_
    refine g_istore 13 rfl C X0 (0 : Int32) rfl #[.val (.int p0), .val (.int p1), .val (.int p2), .val (.long p3), .second, .val (.int p4), .val (.int (0 : Int32)), .unset, .unset, .unset, .unset, .unset, .unset, .unset, .unset, .unset, .unset] at_11 rfl ?_
    refine g_new 16 rfl C X0 (hw _ (List.mem_of_getElem? (i := 0) rfl)) (hw _ (List.mem_of_getElem? (i := 1) rfl)) (hw _ (List.mem_of_getElem? (i := 2) rfl)) e0 at_13 (by decide) (by decide) fun T2 h3 o4 g5 X6 e7 E8 A9 D10 => ?_
    have gn11 : n0 ≤ o4 := by rw [g5]; exact Z0
    have Zs12 := Nat.le_trans Z0 E8.1
    have Ks13 := Nat.le_trans (Nat.zero_le _) E8.1
    have F14 : Fld Z h3 o4 "com/example/vaglio/vaglio/filter/FilterShape" "hashes" "I" (.int (0 : Int32)) := D10 (Or.inr (hw _ (List.mem_of_getElem? (i := 16) rfl))) (ty := .int) (by decide)
    have F15 : Fld Z h3 o4 "com/example/vaglio/vaglio/filter/FilterShape" "rows" "I" (.int (0 : Int32)) := D10 (Or.inr (hw _ (List.mem_of_getElem? (i := 18) rfl))) (ty := .int) (by decide)
    refine g_dup 17 rfl C X6 at_16 rfl ?_
    refine g_iconst 18 rfl C X6 (1 : Int32) at_17 rfl ?_
    refine g_iloadN 19 rfl C X6 at_18 rfl ?_
    refine g_bipush 21 rfl C X6 (7 : Int32) at_19 rfl ?_
    refine g_iand 22 rfl C X6 at_21 ?_
    refine g_iadd 23 rfl C X6 at_22 ?_
    refine g_iconst 24 rfl C X6 (1 : Int32) at_23 rfl ?_
    refine g_iloadN 25 rfl C X6 at_24 rfl ?_
    refine g_sipush 28 rfl C X6 (1023 : Int32) at_25 rfl ?_
    refine g_iand 29 rfl C X6 at_28 ?_
    refine g_iadd 30 rfl C X6 at_29 ?_
    have hq16 : 1 ≤ ((1 : Int32) + (p1 &&& (7 : Int32))).toInt ∧ ((1 : Int32) + (p1 &&& (7 : Int32))).toInt ≤ 8 := by
      have fc17 : (1 : Int32).toInt = 1 := rfl
      have fr18 := rng32 p1
      have fc19 : (7 : Int32).toInt = 7 := rfl
      have fo20 : (p1 &&& (7 : Int32)).toInt = p1.toInt % 8 := c_mask p1 (7 : Int32) 3 (by decide) (by decide)
      have fo21 := c_iadd (1 : Int32) (p1 &&& (7 : Int32))
      have fr22 := rng32 ((1 : Int32) + (p1 &&& (7 : Int32)))
      omega
    have hq23 : 1 ≤ ((1 : Int32) + (p2 &&& (1023 : Int32))).toInt ∧ ((1 : Int32) + (p2 &&& (1023 : Int32))).toInt ≤ 1024 := by
      have fc24 : (1 : Int32).toInt = 1 := rfl
      have fr25 := rng32 p2
      have fc26 : (1023 : Int32).toInt = 1023 := rfl
      have fo27 : (p2 &&& (1023 : Int32)).toInt = p2.toInt % 1024 := c_mask p2 (1023 : Int32) 10 (by decide) (by decide)
      have fo28 := c_iadd (1 : Int32) (p2 &&& (1023 : Int32))
      have fr29 := rng32 ((1 : Int32) + (p2 &&& (1023 : Int32)))
      omega
    refine g_callN 33 rfl C X6 (argsL := [(.int ((1 : Int32) + (p1 &&& (7 : Int32)))), (.int ((1 : Int32) + (p2 &&& (1023 : Int32))))]) rfl rfl (hw _ (List.mem_of_getElem? (i := 3) rfl)) (hw _ (List.mem_of_getElem? (i := 4) rfl)) (hw _ (List.mem_of_getElem? (i := 5) rfl)) (hw _ (List.mem_of_getElem? (i := 2) rfl)) e7 (rm1 l Z a0 hw [] o4 ((1 : Int32) + (p1 &&& (7 : Int32))) ((1 : Int32) + (p2 &&& (1023 : Int32))) h3 n0 Zs12 A9 F14 F15 gn11 hq16 hq23) (lenOf pd_1793250 rfl) (by decide) (by decide) (by decide) (by decide) rfl (W := 1) (Nat.le_of_eq rfl) (by decide) at_30 rfl fun r30 T31 Lc32 X33 hQ34 => ?_
    obtain ⟨rfl, Nq35, Kc36, F37, F38, F39⟩ := hQ34
    have F40 := A9.keep Kc36
    have Zs41 := Nat.le_trans Zs12 Kc36.1
    have Ks42 := Nat.le_trans Ks13 Kc36.1
    have N43 := Fr.app N0 Nq35
    show Goes _ _ _ _ _ _ 33 _ [(.ref o4)]
    refine g_astore 35 rfl C X33 #[.val (.int p0), .val (.int p1), .val (.int p2), .val (.long p3), .second, .val (.int p4), .val (.int (0 : Int32)), .val (.ref o4), .unset, .unset, .unset, .unset, .unset, .unset, .unset, .unset, .unset] at_33 rfl rfl ?_
    refine g_new 38 rfl C X33 (hw _ (List.mem_of_getElem? (i := 19) rfl)) (hw _ (List.mem_of_getElem? (i := 20) rfl)) (hw _ (List.mem_of_getElem? (i := 21) rfl)) rfl at_35 (by decide) (by decide) fun T44 h45 o46 g47 X48 e49 E50 A51 D52 => ?_
    have ne53 : o4 ≠ o46 := by rw [g47]; exact Nat.ne_of_lt F37.lt
    have gn54 : n0 ≤ o46 := by rw [g47]; exact Zs41
    have F55 := F37.ext E50
    have F56 := F38.ext E50
    have F57 := F39.ext E50
    have Zs58 := Nat.le_trans Zs41 E50.1
    have Ks59 := Nat.le_trans Ks42 E50.1
    have F60 : Fld Z h45 o46 "com/example/vaglio/vaglio/filter/Filter" "shape" "Lcom/example/vaglio/vaglio/filter/FilterShape;" .null := D52 (Or.inr (hw _ (List.mem_of_getElem? (i := 49) rfl))) (ty := (.object "com/example/vaglio/vaglio/filter/FilterShape")) (by decide)
    have F61 : Fld Z h45 o46 "com/example/vaglio/vaglio/filter/Filter" "bits" "[B" .null := D52 (Or.inr (hw _ (List.mem_of_getElem? (i := 51) rfl))) (ty := (.array .byte)) (by decide)
    refine g_dup 39 rfl C X48 at_38 rfl ?_
    refine g_aload 41 rfl C X48 at_39 rfl rfl ?_
    have hq62 : 1 ≤ ((1 : Int32) + (p2 &&& (1023 : Int32))).toInt ∧ ((1 : Int32) + (p2 &&& (1023 : Int32))).toInt ≤ 1024 := by
      have fc63 : (1 : Int32).toInt = 1 := rfl
      have fr64 := rng32 p2
      have fc65 : (1023 : Int32).toInt = 1023 := rfl
      have fo66 : (p2 &&& (1023 : Int32)).toInt = p2.toInt % 1024 := c_mask p2 (1023 : Int32) 10 (by decide) (by decide)
      have fo67 := c_iadd (1 : Int32) (p2 &&& (1023 : Int32))
      have fr68 := rng32 ((1 : Int32) + (p2 &&& (1023 : Int32)))
      omega
    refine w_callN 44 rfl C X48 hS0 (by rw [e49]; exact Ks59) (argsL := [(.ref o4)]) rfl rfl (hw _ (List.mem_of_getElem? (i := 22) rfl)) (hw _ (List.mem_of_getElem? (i := 23) rfl)) (hw _ (List.mem_of_getElem? (i := 24) rfl)) (hw _ (List.mem_of_getElem? (i := 21) rfl)) e49 (rm4 l Z a0 hw [] o46 o4 ((1 : Int32) + (p2 &&& (1023 : Int32))) h45 n0 Zs58 A51 F60 F61 gn54 F55 F57 hq62 ne53) (lenOf pd_28114320 rfl) (by decide) (by decide) (by decide) (by decide) rfl (W := 1) (Nat.le_of_eq rfl) (by decide) at_41 rfl fun r69 T70 Lc71 k74 C X72 S75 hk76 hQ73 => ?_
    obtain ⟨rfl, Nq77, Kc78, F79, F80⟩ := hQ73
    have F81 := F55.keep Kc78
    have F82 := F56.keep Kc78 (ninS ne53 nin0)
    have F83 := F57.keep Kc78 (ninS ne53 nin0)
    have F84 := A51.keep Kc78
    have Zs85 := Nat.le_trans Zs58 Kc78.1
    have Ks86 := Nat.le_trans Ks59 Kc78.1
    have N87 := Fr.app N43 Nq77
    show Goes _ _ _ _ _ _ 44 _ [(.ref o46)]
    refine g_astore 46 rfl C X72 #[.val (.int p0), .val (.int p1), .val (.int p2), .val (.long p3), .second, .val (.int p4), .val (.int (0 : Int32)), .val (.ref o4), .val (.ref o46), .unset, .unset, .unset, .unset, .unset, .unset, .unset, .unset] at_44 rfl rfl ?_
    refine g_bipush 48 rfl C X72 (32 : Int32) at_46 rfl ?_
    refine g_newPE 50 rfl C X72 32 (by decide) 32 (by decide) (by decide) rfl (hw _ (List.mem_of_getElem? (i := 28) rfl)) rfl at_48 (by decide) (by decide) (ad := "[B") (by decide) fun T88 h89 o90 g91 X92 e93 E94 B95 AB95 => ?_
    have ne96 : o4 ≠ o90 := by rw [g91]; exact Nat.ne_of_lt F81.lt
    have ne97 : o46 ≠ o90 := by rw [g91]; exact Nat.ne_of_lt F79.lt
    have gn98 : n0 ≤ o90 := by rw [g91]; exact Zs85
    have F99 := F81.ext E94
    have F100 := F82.ext E94
    have F101 := F83.ext E94
    have F102 := F79.ext E94
    have F103 := F80.ext E94
    have Zs104 := Nat.le_trans Zs85 E94.1
    have Ks105 := Nat.le_trans hk76 E94.1
    refine g_astore 52 rfl C X92 #[.val (.int p0), .val (.int p1), .val (.int p2), .val (.long p3), .second, .val (.int p4), .val (.int (0 : Int32)), .val (.ref o4), .val (.ref o46), .val (.ref o90), .unset, .unset, .unset, .unset, .unset, .unset, .unset] at_50 rfl rfl ?_
    refine g_aload 54 rfl C X92 at_52 rfl rfl ?_
    refine g_iload 56 rfl C X92 at_54 rfl ?_
    refine g_bipush 58 rfl C X92 (8 : Int32) at_56 rfl ?_
    refine g_iushr 59 rfl C X92 at_58 ?_
    refine g_bipush 61 rfl C X92 (31 : Int32) at_59 rfl ?_
    refine g_iand 62 rfl C X92 at_61 ?_
    refine g_iload 64 rfl C X92 at_62 rfl ?_
    refine g_i2b 65 rfl C X92 at_64 ?_
    have hq107 : 0 ≤ ((((p4).toUInt32 >>> ((8 : Int32) &&& 31).toUInt32).toInt32) &&& (31 : Int32)).toInt ∧ ((((p4).toUInt32 >>> ((8 : Int32) &&& 31).toUInt32).toInt32) &&& (31 : Int32)).toInt ≤ 31 := by
      have fr108 := rng32 p4
      have fc109 : (8 : Int32).toInt = 8 := rfl
      have fo110 : ((((p4).toUInt32 >>> ((8 : Int32) &&& 31).toUInt32).toInt32)).toInt = (p4.toInt % 4294967296) / 256 := c_iushr p4 (8 : Int32) 8 (by decide) (by decide)
      have fc111 : (31 : Int32).toInt = 31 := rfl
      have fo112 : ((((p4).toUInt32 >>> ((8 : Int32) &&& 31).toUInt32).toInt32) &&& (31 : Int32)).toInt = (((p4).toUInt32 >>> ((8 : Int32) &&& 31).toUInt32).toInt32).toInt % 32 := c_mask (((p4).toUInt32 >>> ((8 : Int32) &&& 31).toUInt32).toInt32) (31 : Int32) 5 (by decide) (by decide)
      omega
    obtain ⟨n106, hn106⟩ : ∃ n : Nat, ((((p4).toUInt32 >>> ((8 : Int32) &&& 31).toUInt32).toInt32) &&& (31 : Int32)).toInt = n := ⟨((((p4).toUInt32 >>> ((8 : Int32) &&& 31).toUInt32).toInt32) &&& (31 : Int32)).toInt.toNat, by omega⟩
    have hn106m : n106 ≤ 31 := by omega
    obtain ⟨w113, hw113⟩ : ∃ z : Int32, ((((p4).toInt8.toInt32)).toInt8.toInt32) = z := ⟨_, rfl⟩
    refine g_bastore 66 rfl C X92 e93 B95 (n106) hn106 (by omega) w113 hw113 at_65 N87 gn98 fun T114 h115 ls116 X117 e118 W119 B120 N121 => ?_
    have F122 := F99.wr W119
    have F123 := F100.other W119 (Or.inl ne96)
    have F124 := F101.other W119 (Or.inl ne96)
    have F125 := F102.wr W119
    have F126 := F103.other W119 (Or.inl ne97)
    have F127 := AB95.wr W119
    have Zs128 := Nat.le_trans Zs104 (Nat.le_of_eq W119.size.symm)
    have Ks129 := Nat.le_trans Ks105 (Nat.le_of_eq W119.size.symm)
    have hq133 : -128 ≤ w113.toInt ∧ w113.toInt < 128 := by
      have fr134 := rng32 w113
      have fr135 := rng32 p4
      have fo136 := c_i2b p4
      have fo137 := c_i2b ((p4).toInt8.toInt32)
      have fe138 : ((((p4).toInt8.toInt32)).toInt8.toInt32).toInt = w113.toInt := congrArg Int32.toInt hw113
      omega
    obtain ⟨f130, B131, hfit132⟩ : ∃ f : Nat → Int32, Ba Z h115 o90 .byte 32 f ∧ ∀ k, k < 32 → fits .byte (.int (f k)) = true := ⟨_, B120, fun k hk => by
        simp only [upd_eq]; (repeat' split) <;> first | rfl | exact own_fitB (by omega) (by omega)⟩
    refine g_lloadN 67 rfl C X117 at_66 rfl ?_
    refine g_ldc2 70 rfl C X117 (hw _ (List.mem_of_getElem? (i := 52) rfl)) at_67 ?_
    refine g_land 71 rfl C X117 at_70 ?_
    obtain ⟨v139, hv139⟩ : ∃ z : Int64, (p3 &&& (4294967295 : Int64)) = z := ⟨_, rfl⟩
    refine g_lstore 73 rfl C X117 v139 hv139 #[.val (.int p0), .val (.int p1), .val (.int p2), .val (.long p3), .second, .val (.int p4), .val (.int (0 : Int32)), .val (.ref o4), .val (.ref o46), .val (.ref o90), .val (.long v139), .second, .unset, .unset, .unset, .unset, .unset] at_71 rfl ?_
    refine g_new 76 rfl C X117 (hw _ (List.mem_of_getElem? (i := 53) rfl)) (hw _ (List.mem_of_getElem? (i := 54) rfl)) (hw _ (List.mem_of_getElem? (i := 55) rfl)) e118 at_73 (by decide) (by decide) fun T140 h141 o142 g143 X144 e145 E146 A147 D148 => ?_
    have ne149 : o4 ≠ o142 := by rw [g143]; exact Nat.ne_of_lt F122.lt
    have ne150 : o46 ≠ o142 := by rw [g143]; exact Nat.ne_of_lt F125.lt
    have ne151 : o90 ≠ o142 := by rw [g143]; exact Nat.ne_of_lt B131.lt
    have gn152 : n0 ≤ o142 := by rw [g143]; exact Zs128
    have F153 := F122.ext E146
    have F154 := F123.ext E146
    have F155 := F124.ext E146
    have F156 := F125.ext E146
    have F157 := F126.ext E146
    have F158 := B131.ext E146
    have F159 := F127.ext E146
    have Zs160 := Nat.le_trans Zs128 E146.1
    have Ks161 := Nat.le_trans Ks129 E146.1
    have F162 : Fld Z h141 o142 "com/example/vaglio/vaglio/filter/FilterSnapshot" "filter" "Lcom/example/vaglio/vaglio/filter/Filter;" .null := D148 (Or.inr (hw _ (List.mem_of_getElem? (i := 64) rfl))) (ty := (.object "com/example/vaglio/vaglio/filter/Filter")) (by decide)
    have F163 : Fld Z h141 o142 "com/example/vaglio/vaglio/filter/FilterSnapshot" "height" "J" (.long (0 : Int64)) := D148 (Or.inr (hw _ (List.mem_of_getElem? (i := 66) rfl))) (ty := .long) (by decide)
    have F164 : Fld Z h141 o142 "com/example/vaglio/vaglio/filter/FilterSnapshot" "maskSeed" "[B" .null := D148 (Or.inr (hw _ (List.mem_of_getElem? (i := 68) rfl))) (ty := (.array .byte)) (by decide)
    refine g_dup 77 rfl C X144 at_76 rfl ?_
    refine g_aload 79 rfl C X144 at_77 rfl rfl ?_
    refine g_lload 81 rfl C X144 at_79 rfl ?_
    refine g_iload 83 rfl C X144 at_81 rfl ?_
    refine g_if_eq_t 91 C X144 at_83 (by decide) (by decide) (by decide) ?_
    refine g_null 92 rfl C X144 at_91 ?_
    have hq165 : 0 ≤ v139.toInt ∧ v139.toInt ≤ 4294967295 := by
      have fr166 := rng64 v139
      have fr167 := rng64 p3
      have fc168 : (4294967295 : Int64).toInt = 4294967295 := rfl
      have fo169 : (p3 &&& (4294967295 : Int64)).toInt = p3.toInt % 4294967296 := c_maskL p3 (4294967295 : Int64) 32 (by decide) (by decide)
      have fe170 : (p3 &&& (4294967295 : Int64)).toInt = v139.toInt := congrArg Int64.toInt hv139
      omega
    refine w_callN 95 rfl C X144 S75 (by rw [e145]; exact Ks161) (argsL := [(.ref o46), (.long v139), .null]) rfl rfl (hw _ (List.mem_of_getElem? (i := 56) rfl)) (hw _ (List.mem_of_getElem? (i := 57) rfl)) (hw _ (List.mem_of_getElem? (i := 58) rfl)) (hw _ (List.mem_of_getElem? (i := 55) rfl)) e145 (rm8_0 l Z a0 hw [] o142 o46 v139 h141 n0 Zs160 A147 F162 F163 F164 gn152 hq165) (lenOf pd_11076584 rfl) (by decide) (by decide) (by decide) (by decide) rfl (W := 1) (Nat.le_of_eq rfl) (by decide) at_92 rfl fun r171 T172 Lc173 k176 C X174 S177 hk178 hQ175 => ?_
    obtain ⟨rfl, Nq179, Kc180, F181, F182, F183, F184⟩ := hQ175
    have F185 := F153.keep Kc180
    have F186 := F154.keep Kc180 (ninS ne149 nin0)
    have F187 := F155.keep Kc180 (ninS ne149 nin0)
    have F188 := F156.keep Kc180
    have F189 := F157.keep Kc180 (ninS ne150 nin0)
    have F190 := F158.keep Kc180 (ninS ne151 nin0)
    have F191 := F159.keep Kc180
    have F192 := A147.keep Kc180
    have Zs193 := Nat.le_trans Zs160 Kc180.1
    have Ks194 := Nat.le_trans Ks161 Kc180.1
    have N195 := Fr.app N121 Nq179
    show Goes _ _ _ _ _ _ 95 _ [(.ref o142)]
    refine g_astore 97 rfl C X174 #[.val (.int p0), .val (.int p1), .val (.int p2), .val (.long p3), .second, .val (.int p4), .val (.int (0 : Int32)), .val (.ref o4), .val (.ref o46), .val (.ref o90), .val (.long v139), .second, .val (.ref o142), .unset, .unset, .unset, .unset] at_95 rfl rfl ?_
    refine g_aload 99 rfl C X174 at_97 rfl rfl ?_
    refine g_iconst 100 rfl C X174 (0 : Int32) at_99 rfl ?_
    refine g_dup2 101 rfl C X174 at_100 rfl rfl ?_
    refine g_baload 102 rfl C X174 rfl F190 0 (by decide) (by decide) (f130 0) rfl at_101 ?_
    refine g_iconst 103 rfl C X174 (1 : Int32) at_102 rfl ?_
    refine g_ixor 104 rfl C X174 at_103 ?_
    refine g_i2b 105 rfl C X174 at_104 ?_
    obtain ⟨w196, hw196⟩ : ∃ z : Int32, ((((((f130 0) ^^^ (1 : Int32))).toInt8.toInt32)).toInt8.toInt32) = z := ⟨_, rfl⟩
    refine g_bastore 106 rfl C X174 rfl F190 0 (by decide) (by decide) w196 hw196 at_105 N195 gn98 fun T197 h198 ls199 X200 e201 W202 B203 N204 => ?_
    have F205 := F185.wr W202
    have F206 := F186.other W202 (Or.inl ne96)
    have F207 := F187.other W202 (Or.inl ne96)
    have F208 := F188.wr W202
    have F209 := F189.other W202 (Or.inl ne97)
    have F210 := F191.wr W202
    have F211 := F181.wr W202
    have F212 := F182.other W202 (Or.inl (Ne.symm ne151))
    have F213 := F183.other W202 (Or.inl (Ne.symm ne151))
    have F214 := F184.other W202 (Or.inl (Ne.symm ne151))
    have Zs215 := Nat.le_trans Zs193 (Nat.le_of_eq W202.size.symm)
    have Ks216 := Nat.le_trans hk178 (Nat.le_of_eq W202.size.symm)
    refine g_aload 108 rfl C X200 at_106 rfl rfl ?_
    refine g_callV 111 rfl C X200 (argsL := []) (hw _ (List.mem_of_getElem? (i := 69) rfl)) (hw _ (List.mem_of_getElem? (i := 70) rfl)) (hw _ (List.mem_of_getElem? (i := 72) rfl)) (hw _ (List.mem_of_getElem? (i := 71) rfl)) (hw _ (List.mem_of_getElem? (i := 73) rfl)) (hw _ (List.mem_of_getElem? (i := 55) rfl)) e201 F211 (rm9_0 l Z a0 hw [] o142 h198 n0 Zs215 F214) (lenOf pd_16428538 rfl) (by decide) (by decide) (by decide) (by decide) rfl (W := 0) (Nat.le_of_eq rfl) (by decide) at_108 rfl fun r217 T218 Lc219 X220 hQ221 => ?_
    obtain ⟨rfl, Nq222, eh223⟩ := hQ221
    have N224 := Fr.app N204 Nq222
    show Goes _ _ _ _ _ _ 111 _ [(.int (0 : Int32))]
    refine g_istore 113 rfl C X220 (0 : Int32) rfl #[.val (.int p0), .val (.int p1), .val (.int p2), .val (.long p3), .second, .val (.int p4), .val (.int (0 : Int32)), .val (.ref o4), .val (.ref o46), .val (.ref o90), .val (.long v139), .second, .val (.ref o142), .val (.int (0 : Int32)), .unset, .unset, .unset] at_111 rfl ?_
    refine g_aload 115 rfl C X220 at_113 rfl rfl ?_
    refine g_callV 118 rfl C X220 (argsL := []) (hw _ (List.mem_of_getElem? (i := 69) rfl)) (hw _ (List.mem_of_getElem? (i := 70) rfl)) (hw _ (List.mem_of_getElem? (i := 72) rfl)) (hw _ (List.mem_of_getElem? (i := 71) rfl)) (hw _ (List.mem_of_getElem? (i := 73) rfl)) (hw _ (List.mem_of_getElem? (i := 55) rfl)) eh223 F211 (rm9_0 l Z a0 hw [] o142 h198 n0 Zs215 F214) (lenOf pd_16428538 rfl) (by decide) (by decide) (by decide) (by decide) rfl (W := 0) (Nat.le_of_eq rfl) (by decide) at_115 rfl fun r225 T226 Lc227 X228 hQ229 => ?_
    obtain ⟨rfl, Nq230, eh231⟩ := hQ229
    have N232 := Fr.app N224 Nq230
    show Goes _ _ _ _ _ _ 118 _ [(.int (0 : Int32))]
    refine g_istore 120 rfl C X228 (0 : Int32) rfl #[.val (.int p0), .val (.int p1), .val (.int p2), .val (.long p3), .second, .val (.int p4), .val (.int (0 : Int32)), .val (.ref o4), .val (.ref o46), .val (.ref o90), .val (.long v139), .second, .val (.ref o142), .val (.int (0 : Int32)), .val (.int (0 : Int32)), .unset, .unset] at_118 rfl ?_
    refine g_aload 122 rfl C X228 at_120 rfl rfl ?_
    refine g_callV 125 rfl C X228 (argsL := []) (hw _ (List.mem_of_getElem? (i := 74) rfl)) (hw _ (List.mem_of_getElem? (i := 75) rfl)) (hw _ (List.mem_of_getElem? (i := 77) rfl)) (hw _ (List.mem_of_getElem? (i := 76) rfl)) (hw _ (List.mem_of_getElem? (i := 78) rfl)) (hw _ (List.mem_of_getElem? (i := 55) rfl)) eh231 F211 (rm10_0 l Z a0 hw [] o142 h198 n0 Zs215 F214) (lenOf pd_52138675 rfl) (by decide) (by decide) (by decide) (by decide) rfl (W := 0) (Nat.le_of_eq rfl) (by decide) at_122 rfl fun r233 T234 Lc235 X236 hQ237 => ?_
    obtain ⟨rfl, Nq238, eh239⟩ := hQ237
    have N240 := Fr.app N232 Nq238
    show Goes _ _ _ _ _ _ 125 _ [.null]
    refine g_ifnull_t 132 C X236 at_125 (by decide) (by decide) ?_
    refine g_iconst 133 rfl C X236 (0 : Int32) at_132 rfl ?_
    refine g_istore 135 rfl C X236 (0 : Int32) rfl #[.val (.int p0), .val (.int p1), .val (.int p2), .val (.long p3), .second, .val (.int p4), .val (.int (0 : Int32)), .val (.ref o4), .val (.ref o46), .val (.ref o90), .val (.long v139), .second, .val (.ref o142), .val (.int (0 : Int32)), .val (.int (0 : Int32)), .val (.int (0 : Int32)), .unset] at_133 rfl ?_
    refine g_aload 137 rfl C X236 at_135 rfl rfl ?_
    refine g_callV 140 rfl C X236 (argsL := []) (hw _ (List.mem_of_getElem? (i := 79) rfl)) (hw _ (List.mem_of_getElem? (i := 80) rfl)) (hw _ (List.mem_of_getElem? (i := 82) rfl)) (hw _ (List.mem_of_getElem? (i := 81) rfl)) (hw _ (List.mem_of_getElem? (i := 83) rfl)) (hw _ (List.mem_of_getElem? (i := 55) rfl)) eh239 F211 (rm11_0 l Z a0 hw [] o142 h198 n0 Zs215 F211 F214) (lenOf pd_16428521 rfl) (by decide) (by decide) (by decide) (by decide) rfl (W := 0) (Nat.le_of_eq rfl) (by decide) at_137 rfl fun r241 T242 Lc243 X244 hQ245 => ?_
    obtain ⟨r246, rfl, hs247, Nq248, eh249⟩ := hQ245
    have N250 := Fr.app N240 Nq248
    show Goes _ _ _ _ _ _ 140 _ [(.int r246)]
    refine g_istore 142 rfl C X244 r246 rfl #[.val (.int p0), .val (.int p1), .val (.int p2), .val (.long p3), .second, .val (.int p4), .val (.int (0 : Int32)), .val (.ref o4), .val (.ref o46), .val (.ref o90), .val (.long v139), .second, .val (.ref o142), .val (.int (0 : Int32)), .val (.int (0 : Int32)), .val (.int (0 : Int32)), .val (.int r246)] at_140 rfl ?_
    refine g_iload 144 rfl C X244 at_142 rfl ?_
    refine g_iload 146 rfl C X244 at_144 rfl ?_
    refine g_icmp_ne_f 149 rfl C X244 at_146 (by decide) ?_
    refine g_iload 151 rfl C X244 at_149 rfl ?_
    refine g_iload 153 rfl C X244 at_151 rfl ?_
    refine g_icmp_ne_f 156 rfl C X244 at_153 (by decide) ?_
    refine g_iload 158 rfl C X244 at_156 rfl ?_
    refine g_iload 160 rfl C X244 at_158 rfl ?_
    refine g_icmp_ne_f 163 rfl C X244 at_160 (by decide) ?_
    refine g_iload 165 rfl C X244 at_163 rfl ?_
    refine g_iload 167 rfl C X244 at_165 rfl ?_
    refine g_if_eq_t 176 C X244 at_167 (by decide) (by decide) (by decide) ?_
    refine g_iconst 177 rfl C X244 (0 : Int32) at_176 rfl ?_
    have hq252 : r246.toInt = (0 : Int32).toInt := by
      have fr253 := rng32 r246
      have fc254 : (0 : Int32).toInt = 0 := rfl
      omega
    refine g_icmp_ne_f 180 rfl C X244 at_177 hq252 ?_
    refine g_iconst 181 rfl C X244 (1 : Int32) at_180 rfl ?_
    refine g_goto 185 C X244 at_181 (by decide) (by decide) ?_
    exact w_retN C X244 S177 (by rw [eh249]; exact Ks216) (z' := (1 : Int32)) rfl (Or.inl rfl) at_185 eh249 (by decide) (by decide) rfl ⟨rfl, N250⟩
  · skip
    refine g_if_eq_f 6 rfl C X0 at_3 hb1 ?_
    refine g_iconst 7 rfl C X0 (1 : Int32) at_6 rfl ?_
    refine g_goto 11 C X0 at_7 (by decide) (by decide) ?_
    refine g_istore 13 rfl C X0 (1 : Int32) rfl #[.val (.int p0), .val (.int p1), .val (.int p2), .val (.long p3), .second, .val (.int p4), .val (.int (1 : Int32)), .unset, .unset, .unset, .unset, .unset, .unset, .unset, .unset, .unset, .unset] at_11 rfl ?_
    refine g_new 16 rfl C X0 (hw _ (List.mem_of_getElem? (i := 0) rfl)) (hw _ (List.mem_of_getElem? (i := 1) rfl)) (hw _ (List.mem_of_getElem? (i := 2) rfl)) e0 at_13 (by decide) (by decide) fun T255 h256 o257 g258 X259 e260 E261 A262 D263 => ?_
    have gn264 : n0 ≤ o257 := by rw [g258]; exact Z0
    have Zs265 := Nat.le_trans Z0 E261.1
    have Ks266 := Nat.le_trans (Nat.zero_le _) E261.1
    have F267 : Fld Z h256 o257 "com/example/vaglio/vaglio/filter/FilterShape" "hashes" "I" (.int (0 : Int32)) := D263 (Or.inr (hw _ (List.mem_of_getElem? (i := 16) rfl))) (ty := .int) (by decide)
    have F268 : Fld Z h256 o257 "com/example/vaglio/vaglio/filter/FilterShape" "rows" "I" (.int (0 : Int32)) := D263 (Or.inr (hw _ (List.mem_of_getElem? (i := 18) rfl))) (ty := .int) (by decide)
    refine g_dup 17 rfl C X259 at_16 rfl ?_
    refine g_iconst 18 rfl C X259 (1 : Int32) at_17 rfl ?_
    refine g_iloadN 19 rfl C X259 at_18 rfl ?_
    refine g_bipush 21 rfl C X259 (7 : Int32) at_19 rfl ?_
    refine g_iand 22 rfl C X259 at_21 ?_
    refine g_iadd 23 rfl C X259 at_22 ?_
    refine g_iconst 24 rfl C X259 (1 : Int32) at_23 rfl ?_
    refine g_iloadN 25 rfl C X259 at_24 rfl ?_
    refine g_sipush 28 rfl C X259 (1023 : Int32) at_25 rfl ?_
    refine g_iand 29 rfl C X259 at_28 ?_
    refine g_iadd 30 rfl C X259 at_29 ?_
    have hq269 : 1 ≤ ((1 : Int32) + (p1 &&& (7 : Int32))).toInt ∧ ((1 : Int32) + (p1 &&& (7 : Int32))).toInt ≤ 8 := by
      have fc270 : (1 : Int32).toInt = 1 := rfl
      have fr271 := rng32 p1
      have fc272 : (7 : Int32).toInt = 7 := rfl
      have fo273 : (p1 &&& (7 : Int32)).toInt = p1.toInt % 8 := c_mask p1 (7 : Int32) 3 (by decide) (by decide)
      have fo274 := c_iadd (1 : Int32) (p1 &&& (7 : Int32))
      have fr275 := rng32 ((1 : Int32) + (p1 &&& (7 : Int32)))
      omega
    have hq276 : 1 ≤ ((1 : Int32) + (p2 &&& (1023 : Int32))).toInt ∧ ((1 : Int32) + (p2 &&& (1023 : Int32))).toInt ≤ 1024 := by
      have fc277 : (1 : Int32).toInt = 1 := rfl
      have fr278 := rng32 p2
      have fc279 : (1023 : Int32).toInt = 1023 := rfl
      have fo280 : (p2 &&& (1023 : Int32)).toInt = p2.toInt % 1024 := c_mask p2 (1023 : Int32) 10 (by decide) (by decide)
      have fo281 := c_iadd (1 : Int32) (p2 &&& (1023 : Int32))
      have fr282 := rng32 ((1 : Int32) + (p2 &&& (1023 : Int32)))
      omega
    refine g_callN 33 rfl C X259 (argsL := [(.int ((1 : Int32) + (p1 &&& (7 : Int32)))), (.int ((1 : Int32) + (p2 &&& (1023 : Int32))))]) rfl rfl (hw _ (List.mem_of_getElem? (i := 3) rfl)) (hw _ (List.mem_of_getElem? (i := 4) rfl)) (hw _ (List.mem_of_getElem? (i := 5) rfl)) (hw _ (List.mem_of_getElem? (i := 2) rfl)) e260 (rm1 l Z a0 hw [] o257 ((1 : Int32) + (p1 &&& (7 : Int32))) ((1 : Int32) + (p2 &&& (1023 : Int32))) h256 n0 Zs265 A262 F267 F268 gn264 hq269 hq276) (lenOf pd_1793250 rfl) (by decide) (by decide) (by decide) (by decide) rfl (W := 1) (Nat.le_of_eq rfl) (by decide) at_30 rfl fun r283 T284 Lc285 X286 hQ287 => ?_
    obtain ⟨rfl, Nq288, Kc289, F290, F291, F292⟩ := hQ287
    have F293 := A262.keep Kc289
    have Zs294 := Nat.le_trans Zs265 Kc289.1
    have Ks295 := Nat.le_trans Ks266 Kc289.1
    have N296 := Fr.app N0 Nq288
    show Goes _ _ _ _ _ _ 33 _ [(.ref o257)]
    refine g_astore 35 rfl C X286 #[.val (.int p0), .val (.int p1), .val (.int p2), .val (.long p3), .second, .val (.int p4), .val (.int (1 : Int32)), .val (.ref o257), .unset, .unset, .unset, .unset, .unset, .unset, .unset, .unset, .unset] at_33 rfl rfl ?_
    refine g_new 38 rfl C X286 (hw _ (List.mem_of_getElem? (i := 19) rfl)) (hw _ (List.mem_of_getElem? (i := 20) rfl)) (hw _ (List.mem_of_getElem? (i := 21) rfl)) rfl at_35 (by decide) (by decide) fun T297 h298 o299 g300 X301 e302 E303 A304 D305 => ?_
    have ne306 : o257 ≠ o299 := by rw [g300]; exact Nat.ne_of_lt F290.lt
    have gn307 : n0 ≤ o299 := by rw [g300]; exact Zs294
    have F308 := F290.ext E303
    have F309 := F291.ext E303
    have F310 := F292.ext E303
    have Zs311 := Nat.le_trans Zs294 E303.1
    have Ks312 := Nat.le_trans Ks295 E303.1
    have F313 : Fld Z h298 o299 "com/example/vaglio/vaglio/filter/Filter" "shape" "Lcom/example/vaglio/vaglio/filter/FilterShape;" .null := D305 (Or.inr (hw _ (List.mem_of_getElem? (i := 49) rfl))) (ty := (.object "com/example/vaglio/vaglio/filter/FilterShape")) (by decide)
    have F314 : Fld Z h298 o299 "com/example/vaglio/vaglio/filter/Filter" "bits" "[B" .null := D305 (Or.inr (hw _ (List.mem_of_getElem? (i := 51) rfl))) (ty := (.array .byte)) (by decide)
    refine g_dup 39 rfl C X301 at_38 rfl ?_
    refine g_aload 41 rfl C X301 at_39 rfl rfl ?_
    have hq315 : 1 ≤ ((1 : Int32) + (p2 &&& (1023 : Int32))).toInt ∧ ((1 : Int32) + (p2 &&& (1023 : Int32))).toInt ≤ 1024 := by
      have fc316 : (1 : Int32).toInt = 1 := rfl
      have fr317 := rng32 p2
      have fc318 : (1023 : Int32).toInt = 1023 := rfl
      have fo319 : (p2 &&& (1023 : Int32)).toInt = p2.toInt % 1024 := c_mask p2 (1023 : Int32) 10 (by decide) (by decide)
      have fo320 := c_iadd (1 : Int32) (p2 &&& (1023 : Int32))
      have fr321 := rng32 ((1 : Int32) + (p2 &&& (1023 : Int32)))
      omega
    refine w_callN 44 rfl C X301 hS0 (by rw [e302]; exact Ks312) (argsL := [(.ref o257)]) rfl rfl (hw _ (List.mem_of_getElem? (i := 22) rfl)) (hw _ (List.mem_of_getElem? (i := 23) rfl)) (hw _ (List.mem_of_getElem? (i := 24) rfl)) (hw _ (List.mem_of_getElem? (i := 21) rfl)) e302 (rm4 l Z a0 hw [] o299 o257 ((1 : Int32) + (p2 &&& (1023 : Int32))) h298 n0 Zs311 A304 F313 F314 gn307 F308 F310 hq315 ne306) (lenOf pd_28114320 rfl) (by decide) (by decide) (by decide) (by decide) rfl (W := 1) (Nat.le_of_eq rfl) (by decide) at_41 rfl fun r322 T323 Lc324 k327 C X325 S328 hk329 hQ326 => ?_
    obtain ⟨rfl, Nq330, Kc331, F332, F333⟩ := hQ326
    have F334 := F308.keep Kc331
    have F335 := F309.keep Kc331 (ninS ne306 nin0)
    have F336 := F310.keep Kc331 (ninS ne306 nin0)
    have F337 := A304.keep Kc331
    have Zs338 := Nat.le_trans Zs311 Kc331.1
    have Ks339 := Nat.le_trans Ks312 Kc331.1
    have N340 := Fr.app N296 Nq330
    show Goes _ _ _ _ _ _ 44 _ [(.ref o299)]
    refine g_astore 46 rfl C X325 #[.val (.int p0), .val (.int p1), .val (.int p2), .val (.long p3), .second, .val (.int p4), .val (.int (1 : Int32)), .val (.ref o257), .val (.ref o299), .unset, .unset, .unset, .unset, .unset, .unset, .unset, .unset] at_44 rfl rfl ?_
    refine g_bipush 48 rfl C X325 (32 : Int32) at_46 rfl ?_
    refine g_newPE 50 rfl C X325 32 (by decide) 32 (by decide) (by decide) rfl (hw _ (List.mem_of_getElem? (i := 28) rfl)) rfl at_48 (by decide) (by decide) (ad := "[B") (by decide) fun T341 h342 o343 g344 X345 e346 E347 B348 AB348 => ?_
    have ne349 : o257 ≠ o343 := by rw [g344]; exact Nat.ne_of_lt F334.lt
    have ne350 : o299 ≠ o343 := by rw [g344]; exact Nat.ne_of_lt F332.lt
    have gn351 : n0 ≤ o343 := by rw [g344]; exact Zs338
    have F352 := F334.ext E347
    have F353 := F335.ext E347
    have F354 := F336.ext E347
    have F355 := F332.ext E347
    have F356 := F333.ext E347
    have Zs357 := Nat.le_trans Zs338 E347.1
    have Ks358 := Nat.le_trans hk329 E347.1
    refine g_astore 52 rfl C X345 #[.val (.int p0), .val (.int p1), .val (.int p2), .val (.long p3), .second, .val (.int p4), .val (.int (1 : Int32)), .val (.ref o257), .val (.ref o299), .val (.ref o343), .unset, .unset, .unset, .unset, .unset, .unset, .unset] at_50 rfl rfl ?_
    refine g_aload 54 rfl C X345 at_52 rfl rfl ?_
    refine g_iload 56 rfl C X345 at_54 rfl ?_
    refine g_bipush 58 rfl C X345 (8 : Int32) at_56 rfl ?_
    refine g_iushr 59 rfl C X345 at_58 ?_
    refine g_bipush 61 rfl C X345 (31 : Int32) at_59 rfl ?_
    refine g_iand 62 rfl C X345 at_61 ?_
    refine g_iload 64 rfl C X345 at_62 rfl ?_
    refine g_i2b 65 rfl C X345 at_64 ?_
    have hq360 : 0 ≤ ((((p4).toUInt32 >>> ((8 : Int32) &&& 31).toUInt32).toInt32) &&& (31 : Int32)).toInt ∧ ((((p4).toUInt32 >>> ((8 : Int32) &&& 31).toUInt32).toInt32) &&& (31 : Int32)).toInt ≤ 31 := by
      have fr361 := rng32 p4
      have fc362 : (8 : Int32).toInt = 8 := rfl
      have fo363 : ((((p4).toUInt32 >>> ((8 : Int32) &&& 31).toUInt32).toInt32)).toInt = (p4.toInt % 4294967296) / 256 := c_iushr p4 (8 : Int32) 8 (by decide) (by decide)
      have fc364 : (31 : Int32).toInt = 31 := rfl
      have fo365 : ((((p4).toUInt32 >>> ((8 : Int32) &&& 31).toUInt32).toInt32) &&& (31 : Int32)).toInt = (((p4).toUInt32 >>> ((8 : Int32) &&& 31).toUInt32).toInt32).toInt % 32 := c_mask (((p4).toUInt32 >>> ((8 : Int32) &&& 31).toUInt32).toInt32) (31 : Int32) 5 (by decide) (by decide)
      omega
    obtain ⟨n359, hn359⟩ : ∃ n : Nat, ((((p4).toUInt32 >>> ((8 : Int32) &&& 31).toUInt32).toInt32) &&& (31 : Int32)).toInt = n := ⟨((((p4).toUInt32 >>> ((8 : Int32) &&& 31).toUInt32).toInt32) &&& (31 : Int32)).toInt.toNat, by omega⟩
    have hn359m : n359 ≤ 31 := by omega
    obtain ⟨w366, hw366⟩ : ∃ z : Int32, ((((p4).toInt8.toInt32)).toInt8.toInt32) = z := ⟨_, rfl⟩
    refine g_bastore 66 rfl C X345 e346 B348 (n359) hn359 (by omega) w366 hw366 at_65 N340 gn351 fun T367 h368 ls369 X370 e371 W372 B373 N374 => ?_
    have F375 := F352.wr W372
    have F376 := F353.other W372 (Or.inl ne349)
    have F377 := F354.other W372 (Or.inl ne349)
    have F378 := F355.wr W372
    have F379 := F356.other W372 (Or.inl ne350)
    have F380 := AB348.wr W372
    have Zs381 := Nat.le_trans Zs357 (Nat.le_of_eq W372.size.symm)
    have Ks382 := Nat.le_trans Ks358 (Nat.le_of_eq W372.size.symm)
    have hq386 : -128 ≤ w366.toInt ∧ w366.toInt < 128 := by
      have fr387 := rng32 w366
      have fr388 := rng32 p4
      have fo389 := c_i2b p4
      have fo390 := c_i2b ((p4).toInt8.toInt32)
      have fe391 : ((((p4).toInt8.toInt32)).toInt8.toInt32).toInt = w366.toInt := congrArg Int32.toInt hw366
      omega
    obtain ⟨f383, B384, hfit385⟩ : ∃ f : Nat → Int32, Ba Z h368 o343 .byte 32 f ∧ ∀ k, k < 32 → fits .byte (.int (f k)) = true := ⟨_, B373, fun k hk => by
        simp only [upd_eq]; (repeat' split) <;> first | rfl | exact own_fitB (by omega) (by omega)⟩
    refine g_lloadN 67 rfl C X370 at_66 rfl ?_
    refine g_ldc2 70 rfl C X370 (hw _ (List.mem_of_getElem? (i := 52) rfl)) at_67 ?_
    refine g_land 71 rfl C X370 at_70 ?_
    obtain ⟨v392, hv392⟩ : ∃ z : Int64, (p3 &&& (4294967295 : Int64)) = z := ⟨_, rfl⟩
    refine g_lstore 73 rfl C X370 v392 hv392 #[.val (.int p0), .val (.int p1), .val (.int p2), .val (.long p3), .second, .val (.int p4), .val (.int (1 : Int32)), .val (.ref o257), .val (.ref o299), .val (.ref o343), .val (.long v392), .second, .unset, .unset, .unset, .unset, .unset] at_71 rfl ?_
    refine g_new 76 rfl C X370 (hw _ (List.mem_of_getElem? (i := 53) rfl)) (hw _ (List.mem_of_getElem? (i := 54) rfl)) (hw _ (List.mem_of_getElem? (i := 55) rfl)) e371 at_73 (by decide) (by decide) fun T393 h394 o395 g396 X397 e398 E399 A400 D401 => ?_
    have ne402 : o257 ≠ o395 := by rw [g396]; exact Nat.ne_of_lt F375.lt
    have ne403 : o299 ≠ o395 := by rw [g396]; exact Nat.ne_of_lt F378.lt
    have ne404 : o343 ≠ o395 := by rw [g396]; exact Nat.ne_of_lt B384.lt
    have gn405 : n0 ≤ o395 := by rw [g396]; exact Zs381
    have F406 := F375.ext E399
    have F407 := F376.ext E399
    have F408 := F377.ext E399
    have F409 := F378.ext E399
    have F410 := F379.ext E399
    have F411 := B384.ext E399
    have F412 := F380.ext E399
    have Zs413 := Nat.le_trans Zs381 E399.1
    have Ks414 := Nat.le_trans Ks382 E399.1
    have F415 : Fld Z h394 o395 "com/example/vaglio/vaglio/filter/FilterSnapshot" "filter" "Lcom/example/vaglio/vaglio/filter/Filter;" .null := D401 (Or.inr (hw _ (List.mem_of_getElem? (i := 64) rfl))) (ty := (.object "com/example/vaglio/vaglio/filter/Filter")) (by decide)
    have F416 : Fld Z h394 o395 "com/example/vaglio/vaglio/filter/FilterSnapshot" "height" "J" (.long (0 : Int64)) := D401 (Or.inr (hw _ (List.mem_of_getElem? (i := 66) rfl))) (ty := .long) (by decide)
    have F417 : Fld Z h394 o395 "com/example/vaglio/vaglio/filter/FilterSnapshot" "maskSeed" "[B" .null := D401 (Or.inr (hw _ (List.mem_of_getElem? (i := 68) rfl))) (ty := (.array .byte)) (by decide)
    refine g_dup 77 rfl C X397 at_76 rfl ?_
    refine g_aload 79 rfl C X397 at_77 rfl rfl ?_
    refine g_lload 81 rfl C X397 at_79 rfl ?_
    refine g_iload 83 rfl C X397 at_81 rfl ?_
    refine g_if_eq_f 86 rfl C X397 at_83 (by decide) ?_
    refine g_aload 88 rfl C X397 at_86 rfl rfl ?_
    refine g_goto 92 C X397 at_88 (by decide) (by decide) ?_
    have hq418 : 0 ≤ v392.toInt ∧ v392.toInt ≤ 4294967295 := by
      have fr419 := rng64 v392
      have fr420 := rng64 p3
      have fc421 : (4294967295 : Int64).toInt = 4294967295 := rfl
      have fo422 : (p3 &&& (4294967295 : Int64)).toInt = p3.toInt % 4294967296 := c_maskL p3 (4294967295 : Int64) 32 (by decide) (by decide)
      have fe423 : (p3 &&& (4294967295 : Int64)).toInt = v392.toInt := congrArg Int64.toInt hv392
      omega
    refine w_callN 95 rfl C X397 S328 (by rw [e398]; exact Ks414) (argsL := [(.ref o299), (.long v392), (.ref o343)]) rfl rfl (hw _ (List.mem_of_getElem? (i := 56) rfl)) (hw _ (List.mem_of_getElem? (i := 57) rfl)) (hw _ (List.mem_of_getElem? (i := 58) rfl)) (hw _ (List.mem_of_getElem? (i := 55) rfl)) e398 (rm8_1 l Z a0 hw [] o395 o299 v392 o343 f383 h394 n0 Zs413 A400 F415 F416 F417 gn405 hq418 F411 F412 hfit385 ne404) (lenOf pd_11076584 rfl) (by decide) (by decide) (by decide) (by decide) rfl (W := 1) (Nat.le_of_eq rfl) (by decide) at_92 rfl fun r424 T425 Lc426 k429 C X427 S430 hk431 hQ428 => ?_
    obtain ⟨o432, rfl, Nq433, Kc434, F435, F436, F437, F438, sz439, B440, A441⟩ := hQ428
    have ne442 : o257 ≠ o432 := Nat.ne_of_lt (Nat.lt_of_lt_of_le F406.lt sz439)
    have ne443 : o299 ≠ o432 := Nat.ne_of_lt (Nat.lt_of_lt_of_le F409.lt sz439)
    have ne444 : o343 ≠ o432 := Nat.ne_of_lt (Nat.lt_of_lt_of_le F411.lt sz439)
    have ne445 : o395 ≠ o432 := Nat.ne_of_lt (Nat.lt_of_lt_of_le A400.lt sz439)
    have gn446 : n0 ≤ o432 := Nat.le_trans Zs413 sz439
    have F447 := F406.keep Kc434
    have F448 := F407.keep Kc434 (ninS ne402 nin0)
    have F449 := F408.keep Kc434 (ninS ne402 nin0)
    have F450 := F409.keep Kc434
    have F451 := F410.keep Kc434 (ninS ne403 nin0)
    have F452 := F411.keep Kc434 (ninS ne404 nin0)
    have F453 := F412.keep Kc434
    have F454 := A400.keep Kc434
    have Zs455 := Nat.le_trans Zs413 Kc434.1
    have Ks456 := Nat.le_trans Ks414 Kc434.1
    have N457 := Fr.app N374 Nq433
    show Goes _ _ _ _ _ _ 95 _ [(.ref o395)]
    refine g_astore 97 rfl C X427 #[.val (.int p0), .val (.int p1), .val (.int p2), .val (.long p3), .second, .val (.int p4), .val (.int (1 : Int32)), .val (.ref o257), .val (.ref o299), .val (.ref o343), .val (.long v392), .second, .val (.ref o395), .unset, .unset, .unset, .unset] at_95 rfl rfl ?_
    refine g_aload 99 rfl C X427 at_97 rfl rfl ?_
    refine g_iconst 100 rfl C X427 (0 : Int32) at_99 rfl ?_
    refine g_dup2 101 rfl C X427 at_100 rfl rfl ?_
    refine g_baload 102 rfl C X427 rfl F452 0 (by decide) (by decide) (f383 0) rfl at_101 ?_
    refine g_iconst 103 rfl C X427 (1 : Int32) at_102 rfl ?_
    refine g_ixor 104 rfl C X427 at_103 ?_
    refine g_i2b 105 rfl C X427 at_104 ?_
    obtain ⟨w458, hw458⟩ : ∃ z : Int32, ((((((f383 0) ^^^ (1 : Int32))).toInt8.toInt32)).toInt8.toInt32) = z := ⟨_, rfl⟩
    refine g_bastore 106 rfl C X427 rfl F452 0 (by decide) (by decide) w458 hw458 at_105 N457 gn351 fun T459 h460 ls461 X462 e463 W464 B465 N466 => ?_
    have F467 := F447.wr W464
    have F468 := F448.other W464 (Or.inl ne349)
    have F469 := F449.other W464 (Or.inl ne349)
    have F470 := F450.wr W464
    have F471 := F451.other W464 (Or.inl ne350)
    have F472 := F453.wr W464
    have F473 := F435.wr W464
    have F474 := F436.other W464 (Or.inl (Ne.symm ne404))
    have F475 := F437.other W464 (Or.inl (Ne.symm ne404))
    have F476 := F438.other W464 (Or.inl (Ne.symm ne404))
    have F477 := B440.other W464 (Ne.symm ne444)
    have F478 := A441.wr W464
    have Zs479 := Nat.le_trans Zs455 (Nat.le_of_eq W464.size.symm)
    have Ks480 := Nat.le_trans hk431 (Nat.le_of_eq W464.size.symm)
    refine g_aload 108 rfl C X462 at_106 rfl rfl ?_
    refine g_callV 111 rfl C X462 (argsL := []) (hw _ (List.mem_of_getElem? (i := 69) rfl)) (hw _ (List.mem_of_getElem? (i := 70) rfl)) (hw _ (List.mem_of_getElem? (i := 72) rfl)) (hw _ (List.mem_of_getElem? (i := 71) rfl)) (hw _ (List.mem_of_getElem? (i := 73) rfl)) (hw _ (List.mem_of_getElem? (i := 55) rfl)) e463 F473 (rm9_1 l Z a0 hw [] o395 o432 h460 n0 Zs479 F476) (lenOf pd_16428538 rfl) (by decide) (by decide) (by decide) (by decide) rfl (W := 0) (Nat.le_of_eq rfl) (by decide) at_108 rfl fun r481 T482 Lc483 X484 hQ485 => ?_
    obtain ⟨rfl, Nq486, eh487⟩ := hQ485
    have N488 := Fr.app N466 Nq486
    show Goes _ _ _ _ _ _ 111 _ [(.int (1 : Int32))]
    refine g_istore 113 rfl C X484 (1 : Int32) rfl #[.val (.int p0), .val (.int p1), .val (.int p2), .val (.long p3), .second, .val (.int p4), .val (.int (1 : Int32)), .val (.ref o257), .val (.ref o299), .val (.ref o343), .val (.long v392), .second, .val (.ref o395), .val (.int (1 : Int32)), .unset, .unset, .unset] at_111 rfl ?_
    refine g_aload 115 rfl C X484 at_113 rfl rfl ?_
    refine g_callV 118 rfl C X484 (argsL := []) (hw _ (List.mem_of_getElem? (i := 69) rfl)) (hw _ (List.mem_of_getElem? (i := 70) rfl)) (hw _ (List.mem_of_getElem? (i := 72) rfl)) (hw _ (List.mem_of_getElem? (i := 71) rfl)) (hw _ (List.mem_of_getElem? (i := 73) rfl)) (hw _ (List.mem_of_getElem? (i := 55) rfl)) eh487 F473 (rm9_1 l Z a0 hw [] o395 o432 h460 n0 Zs479 F476) (lenOf pd_16428538 rfl) (by decide) (by decide) (by decide) (by decide) rfl (W := 0) (Nat.le_of_eq rfl) (by decide) at_115 rfl fun r489 T490 Lc491 X492 hQ493 => ?_
    obtain ⟨rfl, Nq494, eh495⟩ := hQ493
    have N496 := Fr.app N488 Nq494
    show Goes _ _ _ _ _ _ 118 _ [(.int (1 : Int32))]
    refine g_istore 120 rfl C X492 (1 : Int32) rfl #[.val (.int p0), .val (.int p1), .val (.int p2), .val (.long p3), .second, .val (.int p4), .val (.int (1 : Int32)), .val (.ref o257), .val (.ref o299), .val (.ref o343), .val (.long v392), .second, .val (.ref o395), .val (.int (1 : Int32)), .val (.int (1 : Int32)), .unset, .unset] at_118 rfl ?_
    refine g_aload 122 rfl C X492 at_120 rfl rfl ?_
    refine g_callV 125 rfl C X492 (argsL := []) (hw _ (List.mem_of_getElem? (i := 74) rfl)) (hw _ (List.mem_of_getElem? (i := 75) rfl)) (hw _ (List.mem_of_getElem? (i := 77) rfl)) (hw _ (List.mem_of_getElem? (i := 76) rfl)) (hw _ (List.mem_of_getElem? (i := 78) rfl)) (hw _ (List.mem_of_getElem? (i := 55) rfl)) eh495 F473 (rm10_1 l Z a0 hw [] o395 o432 f383 h460 n0 Zs479 F476 F477 F478 hfit385) (lenOf pd_52138675 rfl) (by decide) (by decide) (by decide) (by decide) rfl (W := 0) (Nat.le_of_eq rfl) (by decide) at_122 rfl fun r497 T498 Lc499 X500 hQ501 => ?_
    obtain ⟨o502, rfl, Nq503, Kc504, sz505, B506⟩ := hQ501
    have ne507 : o257 ≠ o502 := Nat.ne_of_lt (Nat.lt_of_lt_of_le F467.lt sz505)
    have ne508 : o299 ≠ o502 := Nat.ne_of_lt (Nat.lt_of_lt_of_le F470.lt sz505)
    have ne509 : o343 ≠ o502 := Nat.ne_of_lt (Nat.lt_of_lt_of_le B465.lt sz505)
    have ne510 : o395 ≠ o502 := Nat.ne_of_lt (Nat.lt_of_lt_of_le F473.lt sz505)
    have ne511 : o432 ≠ o502 := Nat.ne_of_lt (Nat.lt_of_lt_of_le F477.lt sz505)
    have gn512 : n0 ≤ o502 := Nat.le_trans Zs479 sz505
    have F513 := F467.keep Kc504
    have F514 := F468.keep Kc504 nin0
    have F515 := F469.keep Kc504 nin0
    have F516 := F470.keep Kc504
    have F517 := F471.keep Kc504 nin0
    have F518 := B465.keep Kc504 nin0
    have F519 := F472.keep Kc504
    have F520 := F473.keep Kc504
    have F521 := F474.keep Kc504 nin0
    have F522 := F475.keep Kc504 nin0
    have F523 := F476.keep Kc504 nin0
    have F524 := F477.keep Kc504 nin0
    have F525 := F478.keep Kc504
    have Zs526 := Nat.le_trans Zs479 Kc504.1
    have Ks527 := Nat.le_trans Ks480 Kc504.1
    have N528 := Fr.app N496 Nq503
    show Goes _ _ _ _ _ _ 125 _ [(.ref o502)]
    refine g_ifnull_f 128 rfl C X500 at_125 ?_
    refine g_iconst 129 rfl C X500 (1 : Int32) at_128 rfl ?_
    refine g_goto 133 C X500 at_129 (by decide) (by decide) ?_
    refine g_istore 135 rfl C X500 (1 : Int32) rfl #[.val (.int p0), .val (.int p1), .val (.int p2), .val (.long p3), .second, .val (.int p4), .val (.int (1 : Int32)), .val (.ref o257), .val (.ref o299), .val (.ref o343), .val (.long v392), .second, .val (.ref o395), .val (.int (1 : Int32)), .val (.int (1 : Int32)), .val (.int (1 : Int32)), .unset] at_133 rfl ?_
    refine g_aload 137 rfl C X500 at_135 rfl rfl ?_
    have hq529 : 1 ≤ ((1 : Int32) + (p2 &&& (1023 : Int32))).toInt ∧ ((1 : Int32) + (p2 &&& (1023 : Int32))).toInt ≤ 1024 := by
      have fc530 : (1 : Int32).toInt = 1 := rfl
      have fr531 := rng32 p2
      have fc532 : (1023 : Int32).toInt = 1023 := rfl
      have fo533 : (p2 &&& (1023 : Int32)).toInt = p2.toInt % 1024 := c_mask p2 (1023 : Int32) 10 (by decide) (by decide)
      have fo534 := c_iadd (1 : Int32) (p2 &&& (1023 : Int32))
      have fr535 := rng32 ((1 : Int32) + (p2 &&& (1023 : Int32)))
      omega
    refine g_callV 140 rfl C X500 (argsL := []) (hw _ (List.mem_of_getElem? (i := 79) rfl)) (hw _ (List.mem_of_getElem? (i := 80) rfl)) (hw _ (List.mem_of_getElem? (i := 82) rfl)) (hw _ (List.mem_of_getElem? (i := 81) rfl)) (hw _ (List.mem_of_getElem? (i := 83) rfl)) (hw _ (List.mem_of_getElem? (i := 55) rfl)) rfl F520 (rm11_1 l Z a0 hw [] o395 o432 o299 o257 ((1 : Int32) + (p2 &&& (1023 : Int32))) (T498.heap) n0 Zs526 F520 F521 F523 F516 F517 F513 F515 hq529) (lenOf pd_16428521 rfl) (by decide) (by decide) (by decide) (by decide) rfl (W := 0) (Nat.le_of_eq rfl) (by decide) at_137 rfl fun r536 T537 Lc538 X539 hQ540 => ?_
    obtain ⟨r541, rfl, hs542, Nq543, eh544⟩ := hQ540
    have N545 := Fr.app N528 Nq543
    show Goes _ _ _ _ _ _ 140 _ [(.int r541)]
    refine g_istore 142 rfl C X539 r541 rfl #[.val (.int p0), .val (.int p1), .val (.int p2), .val (.long p3), .second, .val (.int p4), .val (.int (1 : Int32)), .val (.ref o257), .val (.ref o299), .val (.ref o343), .val (.long v392), .second, .val (.ref o395), .val (.int (1 : Int32)), .val (.int (1 : Int32)), .val (.int (1 : Int32)), .val (.int r541)] at_140 rfl ?_
    refine g_iload 144 rfl C X539 at_142 rfl ?_
    refine g_iload 146 rfl C X539 at_144 rfl ?_
    refine g_icmp_ne_f 149 rfl C X539 at_146 (by decide) ?_
    refine g_iload 151 rfl C X539 at_149 rfl ?_
    refine g_iload 153 rfl C X539 at_151 rfl ?_
    refine g_icmp_ne_f 156 rfl C X539 at_153 (by decide) ?_
    refine g_iload 158 rfl C X539 at_156 rfl ?_
    refine g_iload 160 rfl C X539 at_158 rfl ?_
    refine g_icmp_ne_f 163 rfl C X539 at_160 (by decide) ?_
    refine g_iload 165 rfl C X539 at_163 rfl ?_
    refine g_iload 167 rfl C X539 at_165 rfl ?_
    refine g_if_eq_f 170 rfl C X539 at_167 (by decide) ?_
    refine g_sipush 173 rfl C X539 (1024 : Int32) at_170 rfl ?_
    refine g_goto 177 C X539 at_173 (by decide) (by decide) ?_
    have hq547 : r541.toInt = (1024 : Int32).toInt := by
      have fr548 := rng32 r541
      have fc549 : (1024 : Int32).toInt = 1024 := rfl
      omega
    refine g_icmp_ne_f 180 rfl C X539 at_177 hq547 ?_
    refine g_iconst 181 rfl C X539 (1 : Int32) at_180 rfl ?_
    refine g_goto 185 C X539 at_181 (by decide) (by decide) ?_
    exact w_retN C X539 S430 (by rw [eh544]; exact Ks527) (z' := (1 : Int32)) rfl (Or.inl rfl) at_185 eh544 (by decide) (by decide) rfl ⟨rfl, N545⟩
set_option maxRecDepth 65536 in
set_option maxHeartbeats 40000000 in
theorem comes_1 {Post : Tables → Env → Array Value → State → Outcome → State → Prop} (hpost : ∀ tb e args s v u, (limb_1_1.after args s (.returned v) u = true ∧ limb_1_2.after args s (.returned v) u = true ∧ True) → ReturnedEndW s (.returned v) u (Jvm.fieldLocs frame_1_writes args s ++ Jvm.arrayLocs frame_1_arrays args s ++ Jvm.staticLocs frame_1_statics s) 32 160512 → Post tb e args s (.returned v) u) :
    ArmFor flags0 classFile x code maxLocals ret World_1 tables_1 room_1 Calls_1 rest_1 Pre_1 Post := by
  intro l hfl _ _ p e ha hc hk s m args below hf hA hF happ hP
  obtain ⟨hcalls, hrest, hpre⟩ := hP
  obtain ⟨-, -, -, hnamed, -, -, -, hat⟩ := (Spec.applies_iff hf).mp happ
  obtain ⟨hg, hn⟩ := and_e (Cond.before_iff.mp (show (Jvm.Cond.and given_1 narrow_1).before args s = true from hpre))
  obtain ⟨g1, g2⟩ := and_e hg
  obtain ⟨g3, g4⟩ := and_e g2
  obtain ⟨g5, g6⟩ := and_e g4
  obtain ⟨g7, g8⟩ := and_e g6
  obtain ⟨g9, g10⟩ := and_e g8
  obtain ⟨w0, w1, w2, w3, w4, rfl⟩ : ∃ w0 w1 w2 w3 w4 : Value, args = #[w0, w1, w2, w3, w4] := by
    have hs : args.size = 5 := by simpa [Cond.value, given_1] using g1
    obtain ⟨L⟩ := args
    match L, hs with
    | [w0, w1, w2, w3, w4], _ => exact ⟨w0, w1, w2, w3, w4, rfl⟩
  have hw := fun d (hd : d ∈ tables_1) => atoms_spec (ws := Jvm.Cond.code x code maxLocals ret :: tables_1) hat d (List.mem_cons_of_mem _ hd)
  obtain ⟨i0, ei0⟩ := is_v g3
  obtain rfl : w0 = (.int i0) := Option.some.inj ei0
  obtain ⟨i1, ei1⟩ := is_v g5
  obtain rfl : w1 = (.int i1) := Option.some.inj ei1
  obtain ⟨i2, ei2⟩ := is_v g7
  obtain rfl : w2 = (.int i2) := Option.some.inj ei2
  obtain ⟨i3, ei3⟩ := isL_v g9
  obtain rfl : w3 = (.long i3) := Option.some.inj ei3
  obtain ⟨i4, ei4⟩ := is_v g10
  obtain rfl : w4 = (.int i4) := Option.some.inj ei4
  obtain ⟨n, o, h1, h2, h3, _, L, rfl, ⟨rfl, N⟩, hq⟩ := rm0 l s _ hw tables_1 i0 i1 i2 i3 i4 s.heap s.heap.size (Nat.le_refl _) p e ha hc hk s m _ below hf ((Spec.applies_iff_loose hf).mp happ).1 ⟨rfl, State.Warmed39.refl s, rfl⟩ trivial
  refine ⟨n, _, h1, h2, h3, hpost _ _ _ _ _ _ ⟨Cond.after_iff.mpr rfl, Cond.after_iff.mpr (eq_i res_at (Term.int_eval (1)) rfl), trivial⟩ ⟨hq.1, hq.2.1, hq.2.2.1, (hq.2.2.2.sift fun y hy => Or.inr (N y hy)).mono (by decide) (by decide)⟩⟩
theorem main_1_1 : Claimed_1_1 := comes_1 fun _ _ _ _ _ _ h hF => ⟨h.1, hF⟩
theorem main_1_2 : Claimed_1_2 := comes_1 fun _ _ _ _ _ _ h hF => ⟨h.2.1, hF⟩
end Jvm.Pilot.@@N@@
namespace Jvm.Pilot.@@N@@
open Jvm Jvm.ClassFile Sem Op Lib Jvm.Free Jvm.Stand Jvm.Pilot.@@N@@.Jvm.D
/-! MADE BY PROGRAM (witnessworld.py) out of the Statement's table words and the real class files: 19 classes; the members and pool entries that the words name. The judged class is class 1, her method 1. -/
namespace start1
open Jvm.ClassFile
def u (s : String) : CpInfo := .utf8 (stringToUtf16 s)
/-- a pool by its gaps: so many unusable entries, then the entry; so many at the end -/
def gap : Nat → List CpInfo → List CpInfo
  | 0, r => r
  | n + 1, r => .unusable :: gap n r
def poolList (es : List (Nat × CpInfo)) (last : Nat) : List CpInfo := es.foldr (fun e r => gap e.1 (e.2 :: r)) (gap last [])
def pool (es : List (Nat × CpInfo)) (last : Nat) : Array CpInfo := ⟨poolList es last⟩
def fileOf (pool : Array CpInfo) (this : Nat) (attrs : Array Attribute := #[]) (ms : Array MethodInfo := #[]) (fl : Nat := 33) (sup : Nat := 0) (ifs : Array Nat := #[]) (fds : Array FieldInfo := #[]) : ClassFile where
  minorVersion := 0
  majorVersion := 65
  constantPool := pool
  accessFlags := fl
  thisClass := this
  superClass := sup
  interfaces := ifs
  fields := fds
  methods := ms
  attributes := attrs
def plain (name : String) (sup : Option ClassId) : Class where
  name := name
  kind := .ordinary
  loader := none
  accessFlags := 33
  super := sup
  interfaces := #[]
  cf := none
  fields := #[]
  methods := #[]
  instanceTypes := #[]
  staticTypes := #[]
  resolved := #[]
  callSites := []
  init := .initialized
  statics := none
  mirror := none

def pool0 : Array CpInfo := pool [(5, u "<init>"), (0, u "()V"), (1, .class_ 10), (1, u "java/lang/Object"), (85, u "clone"), (0, u "()Ljava/lang/Object;")] 26

def k0c0 : Code := { maxStack := 0, maxLocals := 1, code := object_method_1_code, exceptionTable := #[], attributes := #[] }
def k0m0 : Method := { name := "<init>", desc := "()V", sig := { parameters := [], returnType := none }, accessFlags := 1, code := some k0c0 }
def k0m1 : Method := { name := "clone", desc := "()Ljava/lang/Object;", sig := { parameters := [], returnType := some (.object "java/lang/Object") }, accessFlags := 260, code := none }
/-- java/lang/Object -/
def k0 : Class := { plain "java/lang/Object" none with
  accessFlags := 33
  interfaces := #[]
  cf := some (fileOf pool0 8 #[] #[{ accessFlags := 1, nameIndex := 5, descriptorIndex := 6, attributes := #[] }, { accessFlags := 260, nameIndex := 96, descriptorIndex := 97, attributes := #[] }] 33 0 #[] #[])
  fields := #[]
  methods := #[k0m0, k0m1]
  instanceTypes := #[]
  staticTypes := #[]
  resolved := Array.replicate 124 none
  statics := none }

def pool1 : Array CpInfo := pool [(2, .class_ 4), (1, u "java/lang/Object"), (0, u "<init>"), (0, u "()V"), (0, .class_ 8), (0, u "com/example/vaglio/vaglio/filter/FilterShape"), (0, .methodref 7 10), (0, .nameAndType 5 11), (0, u "(II)V"), (0, .class_ 13), (0, u "com/example/vaglio/vaglio/filter/Filter"), (0, .methodref 12 15), (0, .nameAndType 5 16), (0, u "(Lcom/example/vaglio/vaglio/filter/FilterShape;)V"), (0, .long 4294967295), (1, .class_ 20), (0, u "com/example/vaglio/vaglio/filter/FilterSnapshot"), (0, .methodref 19 22), (0, .nameAndType 5 23), (0, u "(Lcom/example/vaglio/vaglio/filter/Filter;J[B)V"), (0, .methodref 19 25), (0, .nameAndType 26 27), (0, u "masked"), (0, u "()Z"), (0, .methodref 19 29), (0, .nameAndType 30 31), (0, u "maskSeed"), (0, u "()[B"), (0, .methodref 19 33), (0, .nameAndType 34 35), (0, u "maskRows"), (0, u "()I"), (0, .class_ 37), (0, u "com/example/vaglio/vaglio/filter/FilterSnapshotMaskedPinLaw"), (2, u "law"), (0, u "(IIIJI)Z")] 5

def k1m0 : Method := { name := "<init>", desc := "()V", sig := { parameters := [], returnType := none }, accessFlags := 1, code := none }
def k1c1 : Code := { maxStack := 6, maxLocals := 17, code := code, exceptionTable := #[], attributes := #[] }
def k1m1 : Method := { name := "law", desc := "(IIIJI)Z", sig := { parameters := [.int, .int, .int, .long, .int], returnType := some .boolean }, accessFlags := 9, code := some k1c1 }
/-- com/example/vaglio/vaglio/filter/FilterSnapshotMaskedPinLaw -/
def k1 : Class := { plain "com/example/vaglio/vaglio/filter/FilterSnapshotMaskedPinLaw" (some 0) with
  accessFlags := 49
  interfaces := #[]
  cf := some (fileOf pool1 36 #[] #[{ accessFlags := 1, nameIndex := 5, descriptorIndex := 6, attributes := #[] }, { accessFlags := 9, nameIndex := 40, descriptorIndex := 41, attributes := #[] }] 49 2 #[] #[])
  fields := #[]
  methods := #[k1m0, k1m1]
  instanceTypes := #[]
  staticTypes := #[]
  resolved := Array.replicate 47 none
  statics := none }

def pool2 : Array CpInfo := pool [(1, .methodref 2 3), (0, .class_ 4), (0, .nameAndType 5 6), (0, u "java/lang/Object"), (0, u "<init>"), (0, u "()V"), (0, .class_ 8), (0, u "java/lang/Record")] 13

def k2c0 : Code := { maxStack := 1, maxLocals := 1, code := jdk_30_method_1_code, exceptionTable := #[], attributes := #[] }
def k2m0 : Method := { name := "<init>", desc := "()V", sig := { parameters := [], returnType := none }, accessFlags := 4, code := some k2c0 }
/-- java/lang/Record -/
def k2 : Class := { plain "java/lang/Record" (some 0) with
  accessFlags := 1057
  interfaces := #[]
  cf := some (fileOf pool2 7 #[] #[{ accessFlags := 4, nameIndex := 5, descriptorIndex := 6, attributes := #[] }] 1057 2 #[] #[])
  fields := #[]
  methods := #[k2m0]
  instanceTypes := #[]
  staticTypes := #[]
  resolved := Array.replicate 22 none
  statics := none }

def pool3 : Array CpInfo := pool [(1, .class_ 2), (0, u "com/example/vaglio/vaglio/filter/FilterShape"), (0, .methodref 4 5), (0, .class_ 6), (0, .nameAndType 7 8), (0, u "java/lang/Record"), (0, u "<init>"), (0, u "()V"), (9, .integer 4194304), (1, .fieldref 1 21), (0, .nameAndType 22 23), (0, u "hashes"), (0, u "I"), (0, .fieldref 1 25), (0, .nameAndType 26 23), (0, u "rows"), (13, u "(II)V"), (56, u "ROW_BITS"), (2, u "MAX_HASHES"), (1, u "MAX_ROWS"), (0, u "MAX_BITS"), (0, u "J"), (0, u "MAX_KEY_BYTES"), (15, u "()I")] 40

def k3c0 : Code := { maxStack := 3, maxLocals := 3, code := prog_19_method_1_code, exceptionTable := #[], attributes := #[] }
def k3m0 : Method := { name := "<init>", desc := "(II)V", sig := { parameters := [.int, .int], returnType := none }, accessFlags := 1, code := some k3c0 }
def k3c1 : Code := { maxStack := 1, maxLocals := 1, code := prog_19_method_12_code, exceptionTable := #[], attributes := #[] }
def k3m1 : Method := { name := "rows", desc := "()I", sig := { parameters := [], returnType := some .int }, accessFlags := 1, code := some k3c1 }
/-- com/example/vaglio/vaglio/filter/FilterShape -/
def k3 : Class := { plain "com/example/vaglio/vaglio/filter/FilterShape" (some 2) with
  accessFlags := 49
  interfaces := #[]
  cf := some (fileOf pool3 1 #[] #[{ accessFlags := 1, nameIndex := 7, descriptorIndex := 40, attributes := #[] }, { accessFlags := 1, nameIndex := 26, descriptorIndex := 121, attributes := #[] }] 49 4 #[] #[{ accessFlags := 18, nameIndex := 22, descriptorIndex := 23, attributes := #[] }, { accessFlags := 18, nameIndex := 26, descriptorIndex := 23, attributes := #[] }, { accessFlags := 25, nameIndex := 97, descriptorIndex := 23, attributes := #[] }, { accessFlags := 25, nameIndex := 100, descriptorIndex := 23, attributes := #[] }, { accessFlags := 25, nameIndex := 102, descriptorIndex := 23, attributes := #[] }, { accessFlags := 25, nameIndex := 103, descriptorIndex := 104, attributes := #[] }, { accessFlags := 25, nameIndex := 105, descriptorIndex := 23, attributes := #[] }])
  fields := #[{ name := "hashes", type := .int, accessFlags := 18, slot := 0, constantValue := 0 }, { name := "rows", type := .int, accessFlags := 18, slot := 1, constantValue := 0 }, { name := "ROW_BITS", type := .int, accessFlags := 25, slot := 0, constantValue := 0 }, { name := "MAX_HASHES", type := .int, accessFlags := 25, slot := 1, constantValue := 0 }, { name := "MAX_ROWS", type := .int, accessFlags := 25, slot := 2, constantValue := 0 }, { name := "MAX_BITS", type := .long, accessFlags := 25, slot := 3, constantValue := 0 }, { name := "MAX_KEY_BYTES", type := .int, accessFlags := 25, slot := 4, constantValue := 0 }]
  methods := #[k3m0, k3m1]
  instanceTypes := #[.int, .int]
  staticTypes := #[.int, .int, .int, .long, .int]
  resolved := Array.replicate 162 none
  statics := none }

def pool4 : Array CpInfo := pool [(1, .class_ 2), (0, u "com/example/vaglio/vaglio/filter/FilterShape"), (2, .string 6), (0, u "shape"), (0, .methodref 8 9), (0, .class_ 10), (0, .nameAndType 11 12), (0, u "java/util/Objects"), (0, u "requireNonNull"), (0, u "(Ljava/lang/Object;Ljava/lang/String;)Ljava/lang/Object;"), (0, .methodref 1 14), (0, .nameAndType 15 16), (0, u "rows"), (0, u "()I"), (0, .class_ 18), (0, u "com/example/vaglio/vaglio/filter/Filter"), (0, .methodref 17 20), (0, .nameAndType 21 22), (0, u "<init>"), (0, u "(Lcom/example/vaglio/vaglio/filter/FilterShape;[B)V"), (0, .methodref 24 25), (0, .class_ 26), (0, .nameAndType 21 27), (0, u "java/lang/Object"), (0, u "()V"), (9, .fieldref 17 38), (0, .nameAndType 6 39), (0, u "Lcom/example/vaglio/vaglio/filter/FilterShape;"), (0, .fieldref 17 41), (0, .nameAndType 42 43), (0, u "bits"), (0, u "[B"), (52, u "ROW_BYTES"), (0, u "I"), (2, u "(Lcom/example/vaglio/vaglio/filter/FilterShape;)V"), (4, u "()Lcom/example/vaglio/vaglio/filter/FilterShape;")] 35

def k4c0 : Code := { maxStack := 4, maxLocals := 2, code := prog_15_method_1_code, exceptionTable := #[], attributes := #[] }
def k4m0 : Method := { name := "<init>", desc := "(Lcom/example/vaglio/vaglio/filter/FilterShape;)V", sig := { parameters := [(.object "com/example/vaglio/vaglio/filter/FilterShape")], returnType := none }, accessFlags := 1, code := some k4c0 }
def k4c1 : Code := { maxStack := 5, maxLocals := 3, code := prog_15_method_2_code, exceptionTable := #[], attributes := #[] }
def k4m1 : Method := { name := "<init>", desc := "(Lcom/example/vaglio/vaglio/filter/FilterShape;[B)V", sig := { parameters := [(.object "com/example/vaglio/vaglio/filter/FilterShape"), (.array .byte)], returnType := none }, accessFlags := 0, code := some k4c1 }
def k4c2 : Code := { maxStack := 1, maxLocals := 1, code := prog_15_method_3_code, exceptionTable := #[], attributes := #[] }
def k4m2 : Method := { name := "shape", desc := "()Lcom/example/vaglio/vaglio/filter/FilterShape;", sig := { parameters := [], returnType := some (.object "com/example/vaglio/vaglio/filter/FilterShape") }, accessFlags := 1, code := some k4c2 }
/-- com/example/vaglio/vaglio/filter/Filter -/
def k4 : Class := { plain "com/example/vaglio/vaglio/filter/Filter" (some 0) with
  accessFlags := 49
  interfaces := #[]
  cf := some (fileOf pool4 17 #[] #[{ accessFlags := 1, nameIndex := 21, descriptorIndex := 100, attributes := #[] }, { accessFlags := 0, nameIndex := 21, descriptorIndex := 22, attributes := #[] }, { accessFlags := 1, nameIndex := 6, descriptorIndex := 105, attributes := #[] }] 49 24 #[] #[{ accessFlags := 25, nameIndex := 96, descriptorIndex := 97, attributes := #[] }, { accessFlags := 18, nameIndex := 6, descriptorIndex := 39, attributes := #[] }, { accessFlags := 18, nameIndex := 42, descriptorIndex := 43, attributes := #[] }])
  fields := #[{ name := "ROW_BYTES", type := .int, accessFlags := 25, slot := 0, constantValue := 0 }, { name := "shape", type := (.object "com/example/vaglio/vaglio/filter/FilterShape"), accessFlags := 18, slot := 0, constantValue := 0 }, { name := "bits", type := (.array .byte), accessFlags := 18, slot := 1, constantValue := 0 }]
  methods := #[k4m0, k4m1, k4m2]
  instanceTypes := #[(.object "com/example/vaglio/vaglio/filter/FilterShape"), (.array .byte)]
  staticTypes := #[.int]
  resolved := Array.replicate 141 none
  statics := none }

def pool5 : Array CpInfo := pool [(1, .class_ 2), (0, u "java/io/Serializable"), (0, .class_ 4), (0, u "java/lang/Object")] 2

/-- java/io/Serializable -/
def k5 : Class := { plain "java/io/Serializable" (some 0) with
  accessFlags := 1537
  interfaces := #[]
  cf := some (fileOf pool5 1 #[] #[] 1537 3 #[] #[])
  fields := #[]
  methods := #[]
  instanceTypes := #[]
  staticTypes := #[]
  resolved := Array.replicate 7 none
  statics := none }

def pool6 : Array CpInfo := pool [(1, .class_ 2), (0, u "java/lang/Comparable"), (0, .class_ 4), (0, u "java/lang/Object")] 7

/-- java/lang/Comparable -/
def k6 : Class := { plain "java/lang/Comparable" (some 0) with
  accessFlags := 1537
  interfaces := #[]
  cf := some (fileOf pool6 1 #[] #[] 1537 3 #[] #[])
  fields := #[]
  methods := #[]
  instanceTypes := #[]
  staticTypes := #[]
  resolved := Array.replicate 12 none
  statics := none }

def pool7 : Array CpInfo := pool [(2, .class_ 4), (1, u "java/lang/CharSequence"), (42, .class_ 48), (0, u "java/lang/CharSequence$1CodePointIterator"), (10, .class_ 60), (0, u "java/lang/CharSequence$1CharIterator"), (5, .class_ 67), (0, u "java/lang/Object")] 63

/-- java/lang/CharSequence -/
def k7 : Class := { plain "java/lang/CharSequence" (some 0) with
  accessFlags := 1537
  interfaces := #[]
  cf := some (fileOf pool7 2 #[.nestMembers #[47, 59]] #[] 1537 66 #[] #[])
  fields := #[]
  methods := #[]
  instanceTypes := #[]
  staticTypes := #[]
  resolved := Array.replicate 131 none
  statics := none }

def pool8 : Array CpInfo := pool [(1, .class_ 2), (0, u "java/lang/constant/Constable"), (0, .class_ 4), (0, u "java/lang/Object")] 6

/-- java/lang/constant/Constable -/
def k8 : Class := { plain "java/lang/constant/Constable" (some 0) with
  accessFlags := 1537
  interfaces := #[]
  cf := some (fileOf pool8 1 #[] #[] 1537 3 #[] #[])
  fields := #[]
  methods := #[]
  instanceTypes := #[]
  staticTypes := #[]
  resolved := Array.replicate 11 none
  statics := none }

def pool9 : Array CpInfo := pool [(1, .class_ 2), (0, u "java/lang/constant/ConstantDesc"), (0, .class_ 4), (0, u "java/lang/Object")] 32

/-- java/lang/constant/ConstantDesc -/
def k9 : Class := { plain "java/lang/constant/ConstantDesc" (some 0) with
  accessFlags := 1537
  interfaces := #[]
  cf := some (fileOf pool9 1 #[] #[] 1537 3 #[] #[])
  fields := #[]
  methods := #[]
  instanceTypes := #[]
  staticTypes := #[]
  resolved := Array.replicate 37 none
  statics := none }

def pool10 : Array CpInfo := pool [(2, .class_ 4), (1, u "java/lang/Object"), (0, u "<init>"), (0, u "()V"), (3, .class_ 12), (1, u "java/lang/String"), (0, u "value"), (0, u "[B"), (2, u "coder"), (0, u "B"), (2, u "hash"), (0, u "I"), (2, u "hashIsZero"), (0, u "Z"), (13, u "COMPACT_STRINGS"), (534, .class_ 576), (0, u "java/lang/CharSequence"), (22, u "CASE_INSENSITIVE_ORDER"), (0, u "Ljava/util/Comparator;"), (500, u "serialPersistentFields"), (0, u "[Ljava/io/ObjectStreamField;"), (0, .class_ 1104), (0, u "java/lang/String$CaseInsensitiveComparator"), (1, .class_ 1107), (0, u "java/io/Serializable"), (0, .class_ 1109), (0, u "java/lang/Comparable"), (0, .class_ 1111), (0, u "java/lang/constant/Constable"), (0, .class_ 1113), (0, u "java/lang/constant/ConstantDesc"), (2, u "serialVersionUID"), (0, u "J"), (3, u "REPL"), (0, u "C"), (2, u "LATIN1"), (1, u "UTF16")] 323

def k10m0 : Method := { name := "<init>", desc := "()V", sig := { parameters := [], returnType := none }, accessFlags := 1, code := none }
/-- java/lang/String -/
def k10 : Class := { plain "java/lang/String" (some 0) with
  accessFlags := 49
  interfaces := #[5, 6, 7, 8, 9]
  cf := some (fileOf pool10 10 #[.nestMembers #[1103]] #[{ accessFlags := 1, nameIndex := 5, descriptorIndex := 6, attributes := #[] }] 49 2 #[1106, 1108, 575, 1110, 1112] #[{ accessFlags := 18, nameIndex := 13, descriptorIndex := 14, attributes := #[] }, { accessFlags := 18, nameIndex := 17, descriptorIndex := 18, attributes := #[] }, { accessFlags := 2, nameIndex := 21, descriptorIndex := 22, attributes := #[] }, { accessFlags := 2, nameIndex := 25, descriptorIndex := 26, attributes := #[] }, { accessFlags := 26, nameIndex := 1116, descriptorIndex := 1117, attributes := #[] }, { accessFlags := 24, nameIndex := 40, descriptorIndex := 26, attributes := #[] }, { accessFlags := 26, nameIndex := 1101, descriptorIndex := 1102, attributes := #[] }, { accessFlags := 26, nameIndex := 1121, descriptorIndex := 1122, attributes := #[] }, { accessFlags := 25, nameIndex := 599, descriptorIndex := 600, attributes := #[] }, { accessFlags := 24, nameIndex := 1125, descriptorIndex := 18, attributes := #[] }, { accessFlags := 24, nameIndex := 1127, descriptorIndex := 18, attributes := #[] }])
  fields := #[{ name := "value", type := (.array .byte), accessFlags := 18, slot := 0, constantValue := 0 }, { name := "coder", type := .byte, accessFlags := 18, slot := 1, constantValue := 0 }, { name := "hash", type := .int, accessFlags := 2, slot := 2, constantValue := 0 }, { name := "hashIsZero", type := .boolean, accessFlags := 2, slot := 3, constantValue := 0 }, { name := "serialVersionUID", type := .long, accessFlags := 26, slot := 0, constantValue := 0 }, { name := "COMPACT_STRINGS", type := .boolean, accessFlags := 24, slot := 1, constantValue := 0 }, { name := "serialPersistentFields", type := (.array (.object "java/io/ObjectStreamField")), accessFlags := 26, slot := 2, constantValue := 0 }, { name := "REPL", type := .char, accessFlags := 26, slot := 3, constantValue := 0 }, { name := "CASE_INSENSITIVE_ORDER", type := (.object "java/util/Comparator"), accessFlags := 25, slot := 4, constantValue := 0 }, { name := "LATIN1", type := .byte, accessFlags := 24, slot := 5, constantValue := 0 }, { name := "UTF16", type := .byte, accessFlags := 24, slot := 6, constantValue := 0 }]
  methods := #[k10m0]
  instanceTypes := #[(.array .byte), .byte, .int, .boolean]
  staticTypes := #[.long, .boolean, (.array (.object "java/io/ObjectStreamField")), .char, (.object "java/util/Comparator"), .byte, .byte]
  resolved := Array.replicate 1451 none
  statics := none }

def pool11 : Array CpInfo := pool [(2, .class_ 4), (1, u "java/lang/Object"), (0, u "<init>"), (0, u "()V"), (35, .class_ 44), (1, u "java/util/Objects"), (0, u "requireNonNull"), (48, u "(Ljava/lang/Object;Ljava/lang/String;)Ljava/lang/Object;")] 89

def k11m0 : Method := { name := "<init>", desc := "()V", sig := { parameters := [], returnType := none }, accessFlags := 2, code := none }
def k11c1 : Code := { maxStack := 3, maxLocals := 2, code := jdk_31_method_11_code, exceptionTable := #[], attributes := #[] }
def k11m1 : Method := { name := "requireNonNull", desc := "(Ljava/lang/Object;Ljava/lang/String;)Ljava/lang/Object;", sig := { parameters := [(.object "java/lang/Object"), (.object "java/lang/String")], returnType := some (.object "java/lang/Object") }, accessFlags := 9, code := some k11c1 }
/-- java/util/Objects -/
def k11 : Class := { plain "java/util/Objects" (some 0) with
  accessFlags := 49
  interfaces := #[]
  cf := some (fileOf pool11 42 #[] #[{ accessFlags := 2, nameIndex := 5, descriptorIndex := 6, attributes := #[] }, { accessFlags := 9, nameIndex := 45, descriptorIndex := 94, attributes := #[] }] 49 2 #[] #[])
  fields := #[]
  methods := #[k11m0, k11m1]
  instanceTypes := #[]
  staticTypes := #[]
  resolved := Array.replicate 184 none
  statics := none }

def pool12 : Array CpInfo := pool [(1, .class_ 2), (0, u "com/example/vaglio/vaglio/filter/FilterMask"), (0, .methodref 4 5), (0, .class_ 6), (0, .nameAndType 7 8), (0, u "java/lang/Record"), (0, u "<init>"), (0, u "()V"), (0, .string 10), (0, u "filter"), (0, .methodref 12 13), (0, .class_ 14), (0, .nameAndType 15 16), (0, u "java/util/Objects"), (0, u "requireNonNull"), (0, u "(Ljava/lang/Object;Ljava/lang/String;)Ljava/lang/Object;"), (0, .class_ 18), (0, u "com/example/vaglio/vaglio/filter/FilterSnapshot"), (0, .long 4294967295), (10, .methodref 1 31), (0, .nameAndType 32 33), (0, u "checkSeed"), (0, u "([B)[B"), (0, .methodref 35 36), (0, .class_ 37), (0, .nameAndType 38 39), (0, u "[B"), (0, u "clone"), (0, u "()Ljava/lang/Object;"), (0, .fieldref 17 41), (0, .nameAndType 10 42), (0, u "Lcom/example/vaglio/vaglio/filter/Filter;"), (0, .fieldref 17 44), (0, .nameAndType 45 46), (0, u "height"), (0, u "J"), (0, .fieldref 17 48), (0, .nameAndType 49 37), (0, u "maskSeed"), (2, u "(Lcom/example/vaglio/vaglio/filter/Filter;J[B)V"), (0, .methodref 17 54), (0, .nameAndType 55 56), (0, u "masked"), (0, u "()Z"), (0, .methodref 58 59), (0, .class_ 60), (0, .nameAndType 61 62), (0, u "com/example/vaglio/vaglio/filter/Filter"), (0, u "shape"), (0, u "()Lcom/example/vaglio/vaglio/filter/FilterShape;"), (0, .methodref 1 64), (0, .nameAndType 65 66), (0, u "rowsFor"), (0, u "(Lcom/example/vaglio/vaglio/filter/FilterShape;)I"), (21, u "()[B"), (21, u "HEADER_BYTES"), (0, u "I"), (8, u "MASKED_TAG_BYTES"), (2, u "TAG_BYTES"), (9, u "()I"), (174, u "TAG"), (0, u "Ljava/lang/String;"), (1, u "MASKED_TAG"), (0, u "MASK_SEED_BYTES"), (1, u "MAX_HEIGHT"), (0, u "CHUNK_BYTES"), (0, u "PIECE_BYTES"), (0, u "CUT_SHORT"), (5, u "maskRows")] 44

def k12c0 : Code := { maxStack := 4, maxLocals := 5, code := prog_20_method_1_code, exceptionTable := #[], attributes := #[] }
def k12m0 : Method := { name := "<init>", desc := "(Lcom/example/vaglio/vaglio/filter/Filter;J[B)V", sig := { parameters := [(.object "com/example/vaglio/vaglio/filter/Filter"), .long, (.array .byte)], returnType := none }, accessFlags := 1, code := some k12c0 }
def k12c1 : Code := { maxStack := 1, maxLocals := 1, code := prog_20_method_3_code, exceptionTable := #[], attributes := #[] }
def k12m1 : Method := { name := "maskSeed", desc := "()[B", sig := { parameters := [], returnType := some (.array .byte) }, accessFlags := 1, code := some k12c1 }
def k12c2 : Code := { maxStack := 1, maxLocals := 1, code := prog_20_method_4_code, exceptionTable := #[], attributes := #[] }
def k12m2 : Method := { name := "masked", desc := "()Z", sig := { parameters := [], returnType := some .boolean }, accessFlags := 1, code := some k12c2 }
def k12c3 : Code := { maxStack := 1, maxLocals := 1, code := prog_20_method_5_code, exceptionTable := #[], attributes := #[] }
def k12m3 : Method := { name := "maskRows", desc := "()I", sig := { parameters := [], returnType := some .int }, accessFlags := 1, code := some k12c3 }
/-- com/example/vaglio/vaglio/filter/FilterSnapshot -/
def k12 : Class := { plain "com/example/vaglio/vaglio/filter/FilterSnapshot" (some 2) with
  accessFlags := 49
  interfaces := #[]
  cf := some (fileOf pool12 17 #[] #[{ accessFlags := 1, nameIndex := 7, descriptorIndex := 52, attributes := #[] }, { accessFlags := 1, nameIndex := 49, descriptorIndex := 88, attributes := #[] }, { accessFlags := 1, nameIndex := 55, descriptorIndex := 56, attributes := #[] }, { accessFlags := 1, nameIndex := 323, descriptorIndex := 133, attributes := #[] }] 49 4 #[] #[{ accessFlags := 18, nameIndex := 10, descriptorIndex := 42, attributes := #[] }, { accessFlags := 18, nameIndex := 45, descriptorIndex := 46, attributes := #[] }, { accessFlags := 18, nameIndex := 49, descriptorIndex := 37, attributes := #[] }, { accessFlags := 25, nameIndex := 308, descriptorIndex := 309, attributes := #[] }, { accessFlags := 25, nameIndex := 311, descriptorIndex := 309, attributes := #[] }, { accessFlags := 25, nameIndex := 312, descriptorIndex := 111, attributes := #[] }, { accessFlags := 25, nameIndex := 314, descriptorIndex := 46, attributes := #[] }, { accessFlags := 26, nameIndex := 123, descriptorIndex := 37, attributes := #[] }, { accessFlags := 26, nameIndex := 120, descriptorIndex := 37, attributes := #[] }, { accessFlags := 26, nameIndex := 110, descriptorIndex := 111, attributes := #[] }, { accessFlags := 26, nameIndex := 315, descriptorIndex := 111, attributes := #[] }, { accessFlags := 26, nameIndex := 316, descriptorIndex := 111, attributes := #[] }, { accessFlags := 26, nameIndex := 317, descriptorIndex := 309, attributes := #[] }])
  fields := #[{ name := "filter", type := (.object "com/example/vaglio/vaglio/filter/Filter"), accessFlags := 18, slot := 0, constantValue := 0 }, { name := "height", type := .long, accessFlags := 18, slot := 1, constantValue := 0 }, { name := "maskSeed", type := (.array .byte), accessFlags := 18, slot := 2, constantValue := 0 }, { name := "TAG", type := (.object "java/lang/String"), accessFlags := 25, slot := 0, constantValue := 0 }, { name := "MASKED_TAG", type := (.object "java/lang/String"), accessFlags := 25, slot := 1, constantValue := 0 }, { name := "MASK_SEED_BYTES", type := .int, accessFlags := 25, slot := 2, constantValue := 0 }, { name := "MAX_HEIGHT", type := .long, accessFlags := 25, slot := 3, constantValue := 0 }, { name := "TAG_BYTES", type := (.array .byte), accessFlags := 26, slot := 4, constantValue := 0 }, { name := "MASKED_TAG_BYTES", type := (.array .byte), accessFlags := 26, slot := 5, constantValue := 0 }, { name := "HEADER_BYTES", type := .int, accessFlags := 26, slot := 6, constantValue := 0 }, { name := "CHUNK_BYTES", type := .int, accessFlags := 26, slot := 7, constantValue := 0 }, { name := "PIECE_BYTES", type := .int, accessFlags := 26, slot := 8, constantValue := 0 }, { name := "CUT_SHORT", type := (.object "java/lang/String"), accessFlags := 26, slot := 9, constantValue := 0 }]
  methods := #[k12m0, k12m1, k12m2, k12m3]
  instanceTypes := #[(.object "com/example/vaglio/vaglio/filter/Filter"), .long, (.array .byte)]
  staticTypes := #[(.object "java/lang/String"), (.object "java/lang/String"), .int, .long, (.array .byte), (.array .byte), .int, .int, .int, (.object "java/lang/String")]
  resolved := Array.replicate 368 none
  statics := none }

def pool13 : Array CpInfo := pool [(3, .class_ 4), (0, u "com/example/vaglio/vaglio/filter/FilterShape"), (2, .class_ 8), (0, u "com/example/vaglio/vaglio/filter/FilterMask"), (1, .class_ 12), (1, u "java/lang/Object"), (4, u "checkSeed"), (0, u "([B)[B"), (2, u "rowsFor"), (0, u "(Lcom/example/vaglio/vaglio/filter/FilterShape;)I"), (4, u "bits"), (0, u "[B"), (39, .string 69), (0, u "seed"), (0, .methodref 71 72), (0, .class_ 73), (0, .nameAndType 74 75), (0, u "java/util/Objects"), (0, u "requireNonNull"), (0, u "(Ljava/lang/Object;Ljava/lang/String;)Ljava/lang/Object;"), (9, .methodref 3 86), (0, .nameAndType 87 88), (0, u "rows"), (0, u "()I"), (14, u "WORDS"), (0, u "Ljava/lang/invoke/VarHandle;"), (19, .class_ 125), (0, u "com/example/vaglio/vaglio/filter/FilterMask$1"), (37, u "SEED_BYTES"), (0, u "I"), (2, u "BLOCK_ROWS"), (1, u "WORD_BITS"), (1, u "WORDS_PER_ROW")] 31

def k13c0 : Code := { maxStack := 3, maxLocals := 1, code := prog_17_method_2_code, exceptionTable := #[], attributes := #[] }
def k13m0 : Method := { name := "checkSeed", desc := "([B)[B", sig := { parameters := [(.array .byte)], returnType := some (.array .byte) }, accessFlags := 8, code := some k13c0 }
def k13c1 : Code := { maxStack := 2, maxLocals := 2, code := prog_17_method_3_code, exceptionTable := #[], attributes := #[] }
def k13m1 : Method := { name := "rowsFor", desc := "(Lcom/example/vaglio/vaglio/filter/FilterShape;)I", sig := { parameters := [(.object "com/example/vaglio/vaglio/filter/FilterShape")], returnType := some .int }, accessFlags := 8, code := some k13c1 }
/-- com/example/vaglio/vaglio/filter/FilterMask -/
def k13 : Class := { plain "com/example/vaglio/vaglio/filter/FilterMask" (some 0) with
  accessFlags := 48
  interfaces := #[]
  cf := some (fileOf pool13 7 #[.nestMembers #[124]] #[{ accessFlags := 8, nameIndex := 17, descriptorIndex := 18, attributes := #[] }, { accessFlags := 8, nameIndex := 21, descriptorIndex := 22, attributes := #[] }] 48 10 #[] #[{ accessFlags := 24, nameIndex := 163, descriptorIndex := 164, attributes := #[] }, { accessFlags := 26, nameIndex := 167, descriptorIndex := 164, attributes := #[] }, { accessFlags := 26, nameIndex := 169, descriptorIndex := 164, attributes := #[] }, { accessFlags := 26, nameIndex := 171, descriptorIndex := 164, attributes := #[] }, { accessFlags := 26, nameIndex := 103, descriptorIndex := 104, attributes := #[] }, { accessFlags := 18, nameIndex := 27, descriptorIndex := 28, attributes := #[] }])
  fields := #[{ name := "SEED_BYTES", type := .int, accessFlags := 24, slot := 0, constantValue := 0 }, { name := "BLOCK_ROWS", type := .int, accessFlags := 26, slot := 1, constantValue := 0 }, { name := "WORD_BITS", type := .int, accessFlags := 26, slot := 2, constantValue := 0 }, { name := "WORDS_PER_ROW", type := .int, accessFlags := 26, slot := 3, constantValue := 0 }, { name := "WORDS", type := (.object "java/lang/invoke/VarHandle"), accessFlags := 26, slot := 4, constantValue := 0 }, { name := "bits", type := (.array .byte), accessFlags := 18, slot := 0, constantValue := 0 }]
  methods := #[k13m0, k13m1]
  instanceTypes := #[(.array .byte)]
  staticTypes := #[.int, .int, .int, .int, (.object "java/lang/invoke/VarHandle")]
  resolved := Array.replicate 203 none
  statics := none }

def pool14 : Array CpInfo := pool [(1, .class_ 2), (0, u "java/lang/Cloneable"), (0, .class_ 4), (0, u "java/lang/Object")] 2

/-- java/lang/Cloneable -/
def k14 : Class := { plain "java/lang/Cloneable" (some 0) with
  accessFlags := 1537
  interfaces := #[]
  cf := some (fileOf pool14 1 #[] #[] 1537 3 #[] #[])
  fields := #[]
  methods := #[]
  instanceTypes := #[]
  staticTypes := #[]
  resolved := Array.replicate 7 none
  statics := none }

/-- the primitive byte -/
def k15 : Class := { plain "byte" none with kind := .primitive 'B', accessFlags := 0x411 }
/-- [B -/
def k16 : Class := { plain "[B" (some 0) with kind := .array 15 .byte, interfaces := #[14, 5], accessFlags := 1041 }

/-- the primitive int -/
def k17 : Class := { plain "int" none with kind := .primitive 'I', accessFlags := 0x411 }
/-- [I -/
def k18 : Class := { plain "[I" (some 0) with kind := .array 17 .int, interfaces := #[14, 5], accessFlags := 1041 }

def heap : Heap := #[]
def classes : Array Class := #[k0, k1, k2, k3, k4, k5, k6, k7, k8, k9, k10, k11, k12, k13, k14, k15, k16, k17, k18]
def interned : List (Array UInt16 × Addr) := []
def slotsUsed : Nat := 0
def theMethod : MethodId := ⟨1, 1⟩
def args0 : Array Value := #[.int 5, .int 7, .int 9, .long 2, .int 3]
def aboutOver (below : List Frame) : State where
  vm := { classes := classes, interned := interned.toArray }
  heap := heap
  slotsUsed := slotsUsed
  threads := #[{ frames := .invoking theMethod args0 :: below }]
def below0 : List Frame := [.native { method := ⟨0, 0⟩, args := #[] }]
def about1 : State := aboutOver below0
def p0 : Program := .bare "" "" ""
def e0 : Env := launch0.env 0 0 0
theorem w_frames : about1.frames = Frame.invoking theMethod args0 :: below0 := rfl
set_option maxRecDepth 65536 in
theorem w_args : argsFit about1.vm theMethod args0 = true := by decide +kernel
set_option maxRecDepth 65536 in
theorem w_heap : heapFits about1 = true := by decide +kernel
set_option maxRecDepth 65536 in
theorem w_runnable : about1.curStatus? = some .runnable := by decide +kernel
set_option maxRecDepth 65536 in
theorem w_alone : about1.alone = true := by decide +kernel
set_option maxRecDepth 65536 in
theorem w_named : about1.methodNamed? x = some theMethod := by decide +kernel
set_option maxRecDepth 65536 in
theorem w_hears : about1.hears theMethod below0 = true := by decide +kernel
set_option maxRecDepth 65536 in
theorem w_ripe : about1.ripe theMethod args0 below0 = true := by decide +kernel
theorem w_running : about1.status = .running := rfl
set_option maxRecDepth 65536 in
theorem w_room : about1.hasRoom e0.platform room_1 = true :=
  launch0.hasRoom_least _ room_1 (by decide +kernel) (by decide +kernel) (by decide +kernel) (by decide +kernel) (by decide +kernel) (by decide +kernel)
theorem allAtoms_all (ts : List Jvm.Cond) (a : Array Jvm.Value) (st : Jvm.State) : (allAtoms ts).before a st = ts.all (fun c => c.before a st) := by
  induction ts with
  | nil => rfl
  | cons c t ih =>
    show (Jvm.Cond.and c (allAtoms t)).before a st = _
    rw [Jvm.Cond.before_and, ih, List.all_cons]
def words1 : List Jvm.Cond := Jvm.Cond.code x code maxLocals ret :: tables_1
/-- a 'code' word, met by the world's own term for the bytes: nothing is compared byte by byte -/
theorem code_word {y : MethodName} {bytes : ByteArray} {mx : Nat} {rt : Option FieldType} {a : Array Value} {s : State} {m : MethodId} {meth : Method} {c : Code} (h1 : s.methodNamed? y = some m) (h2 : s.vm.method? m = some meth) (h3 : meth.code = some c) (h4 : c.code = bytes)
    (h5 : (c.maxLocals == mx && c.exceptionTable.isEmpty && decide (c.maxStack ≤ mostOperands) && decide (meth.sig.returnType = rt) && !meth.locks && decide (parseMethodDescriptor y.desc = some meth.sig)) = true) : (Jvm.Cond.code y bytes mx rt).before a s = true := by
  simp only [Bool.and_eq_true, beq_iff_eq, Bool.not_eq_true', decide_eq_true_eq] at h5
  obtain ⟨⟨⟨⟨⟨g1, g2⟩, g3⟩, g4⟩, g5⟩, g6⟩ := h5
  simp [Cond.before, Cond.holds, Cond.value, h1, h2, h3, h4, g1, g2, g3, g4, g5, g6]
def isCode : Jvm.Cond → Bool
  | .code _ _ _ _ => true
  | _ => false
theorem all_split {L : List Jvm.Cond} {P : Jvm.Cond → Bool} (h1 : L.all (fun c => isCode c || P c) = true) (h2 : ∀ c ∈ L.filter isCode, P c = true) : L.all P = true := by
  refine List.all_eq_true.mpr fun c hc => ?_
  have h := List.all_eq_true.mp h1 c hc
  rcases Bool.eq_false_or_eq_true (isCode c) with hi | hi
  · exact h2 c (List.mem_filter.mpr ⟨hc, hi⟩)
  · simpa [hi] using h
set_option maxRecDepth 65536 in
theorem w_c0 : (Jvm.Cond.code x code maxLocals ret).before args0 about1 = true := code_word (m := ⟨1, 1⟩) (meth := k1m1) (c := k1c1) (by decide +kernel) rfl rfl rfl (by decide +kernel)
set_option maxRecDepth 65536 in
theorem w_c1 : (Jvm.Cond.code ({ cls := "com/example/vaglio/vaglio/filter/FilterShape", name := "<init>", desc := "(II)V" } : Jvm.MethodName) prog_19_method_1_code (3 : Nat) (Option.none : Option Jvm.ClassFile.FieldType)).before args0 about1 = true := code_word (m := ⟨3, 0⟩) (meth := k3m0) (c := k3c0) (by decide +kernel) rfl rfl rfl (by decide +kernel)
set_option maxRecDepth 65536 in
theorem w_c2 : (Jvm.Cond.code ({ cls := "java/lang/Record", name := "<init>", desc := "()V" } : Jvm.MethodName) jdk_30_method_1_code (1 : Nat) (Option.none : Option Jvm.ClassFile.FieldType)).before args0 about1 = true := code_word (m := ⟨2, 0⟩) (meth := k2m0) (c := k2c0) (by decide +kernel) rfl rfl rfl (by decide +kernel)
set_option maxRecDepth 65536 in
theorem w_c3 : (Jvm.Cond.code ({ cls := "java/lang/Object", name := "<init>", desc := "()V" } : Jvm.MethodName) object_method_1_code (1 : Nat) (Option.none : Option Jvm.ClassFile.FieldType)).before args0 about1 = true := code_word (m := ⟨0, 0⟩) (meth := k0m0) (c := k0c0) (by decide +kernel) rfl rfl rfl (by decide +kernel)
set_option maxRecDepth 65536 in
theorem w_c4 : (Jvm.Cond.code ({ cls := "com/example/vaglio/vaglio/filter/Filter", name := "<init>", desc := "(Lcom/example/vaglio/vaglio/filter/FilterShape;)V" } : Jvm.MethodName) prog_15_method_1_code (2 : Nat) (Option.none : Option Jvm.ClassFile.FieldType)).before args0 about1 = true := code_word (m := ⟨4, 0⟩) (meth := k4m0) (c := k4c0) (by decide +kernel) rfl rfl rfl (by decide +kernel)
set_option maxRecDepth 65536 in
theorem w_c5 : (Jvm.Cond.code ({ cls := "java/util/Objects", name := "requireNonNull", desc := "(Ljava/lang/Object;Ljava/lang/String;)Ljava/lang/Object;" } : Jvm.MethodName) jdk_31_method_11_code (2 : Nat) (Option.some (Jvm.ClassFile.FieldType.object "java/lang/Object"))).before args0 about1 = true := code_word (m := ⟨11, 1⟩) (meth := k11m1) (c := k11c1) (by decide +kernel) rfl rfl rfl (by decide +kernel)
set_option maxRecDepth 65536 in
theorem w_c6 : (Jvm.Cond.code ({ cls := "com/example/vaglio/vaglio/filter/FilterShape", name := "rows", desc := "()I" } : Jvm.MethodName) prog_19_method_12_code (1 : Nat) (Option.some Jvm.ClassFile.FieldType.int)).before args0 about1 = true := code_word (m := ⟨3, 1⟩) (meth := k3m1) (c := k3c1) (by decide +kernel) rfl rfl rfl (by decide +kernel)
set_option maxRecDepth 65536 in
theorem w_c7 : (Jvm.Cond.code ({ cls := "com/example/vaglio/vaglio/filter/Filter", name := "<init>", desc := "(Lcom/example/vaglio/vaglio/filter/FilterShape;[B)V" } : Jvm.MethodName) prog_15_method_2_code (3 : Nat) (Option.none : Option Jvm.ClassFile.FieldType)).before args0 about1 = true := code_word (m := ⟨4, 1⟩) (meth := k4m1) (c := k4c1) (by decide +kernel) rfl rfl rfl (by decide +kernel)
set_option maxRecDepth 65536 in
theorem w_c8 : (Jvm.Cond.code ({ cls := "com/example/vaglio/vaglio/filter/FilterSnapshot", name := "<init>", desc := "(Lcom/example/vaglio/vaglio/filter/Filter;J[B)V" } : Jvm.MethodName) prog_20_method_1_code (5 : Nat) (Option.none : Option Jvm.ClassFile.FieldType)).before args0 about1 = true := code_word (m := ⟨12, 0⟩) (meth := k12m0) (c := k12c0) (by decide +kernel) rfl rfl rfl (by decide +kernel)
set_option maxRecDepth 65536 in
theorem w_c9 : (Jvm.Cond.code ({ cls := "com/example/vaglio/vaglio/filter/FilterSnapshot", name := "masked", desc := "()Z" } : Jvm.MethodName) prog_20_method_4_code (1 : Nat) (Option.some Jvm.ClassFile.FieldType.boolean)).before args0 about1 = true := code_word (m := ⟨12, 2⟩) (meth := k12m2) (c := k12c2) (by decide +kernel) rfl rfl rfl (by decide +kernel)
set_option maxRecDepth 65536 in
theorem w_c10 : (Jvm.Cond.code ({ cls := "com/example/vaglio/vaglio/filter/FilterSnapshot", name := "maskSeed", desc := "()[B" } : Jvm.MethodName) prog_20_method_3_code (1 : Nat) (Option.some (Jvm.ClassFile.FieldType.array Jvm.ClassFile.FieldType.byte))).before args0 about1 = true := code_word (m := ⟨12, 1⟩) (meth := k12m1) (c := k12c1) (by decide +kernel) rfl rfl rfl (by decide +kernel)
set_option maxRecDepth 65536 in
theorem w_c11 : (Jvm.Cond.code ({ cls := "com/example/vaglio/vaglio/filter/FilterSnapshot", name := "maskRows", desc := "()I" } : Jvm.MethodName) prog_20_method_5_code (1 : Nat) (Option.some Jvm.ClassFile.FieldType.int)).before args0 about1 = true := code_word (m := ⟨12, 3⟩) (meth := k12m3) (c := k12c3) (by decide +kernel) rfl rfl rfl (by decide +kernel)
set_option maxRecDepth 65536 in
theorem w_c12 : (Jvm.Cond.code ({ cls := "com/example/vaglio/vaglio/filter/FilterMask", name := "checkSeed", desc := "([B)[B" } : Jvm.MethodName) prog_17_method_2_code (1 : Nat) (Option.some (Jvm.ClassFile.FieldType.array Jvm.ClassFile.FieldType.byte))).before args0 about1 = true := code_word (m := ⟨13, 0⟩) (meth := k13m0) (c := k13c0) (by decide +kernel) rfl rfl rfl (by decide +kernel)
set_option maxRecDepth 65536 in
theorem w_c13 : (Jvm.Cond.code ({ cls := "com/example/vaglio/vaglio/filter/Filter", name := "shape", desc := "()Lcom/example/vaglio/vaglio/filter/FilterShape;" } : Jvm.MethodName) prog_15_method_3_code (1 : Nat) (Option.some (Jvm.ClassFile.FieldType.object "com/example/vaglio/vaglio/filter/FilterShape"))).before args0 about1 = true := code_word (m := ⟨4, 2⟩) (meth := k4m2) (c := k4c2) (by decide +kernel) rfl rfl rfl (by decide +kernel)
set_option maxRecDepth 65536 in
theorem w_c14 : (Jvm.Cond.code ({ cls := "com/example/vaglio/vaglio/filter/FilterMask", name := "rowsFor", desc := "(Lcom/example/vaglio/vaglio/filter/FilterShape;)I" } : Jvm.MethodName) prog_17_method_3_code (2 : Nat) (Option.some Jvm.ClassFile.FieldType.int)).before args0 about1 = true := code_word (m := ⟨13, 1⟩) (meth := k13m1) (c := k13c1) (by decide +kernel) rfl rfl rfl (by decide +kernel)
def codes1 : List Jvm.Cond := [Jvm.Cond.code x code maxLocals ret, Jvm.Cond.code ({ cls := "com/example/vaglio/vaglio/filter/FilterShape", name := "<init>", desc := "(II)V" } : Jvm.MethodName) prog_19_method_1_code (3 : Nat) (Option.none : Option Jvm.ClassFile.FieldType), Jvm.Cond.code ({ cls := "java/lang/Record", name := "<init>", desc := "()V" } : Jvm.MethodName) jdk_30_method_1_code (1 : Nat) (Option.none : Option Jvm.ClassFile.FieldType), Jvm.Cond.code ({ cls := "java/lang/Object", name := "<init>", desc := "()V" } : Jvm.MethodName) object_method_1_code (1 : Nat) (Option.none : Option Jvm.ClassFile.FieldType), Jvm.Cond.code ({ cls := "com/example/vaglio/vaglio/filter/Filter", name := "<init>", desc := "(Lcom/example/vaglio/vaglio/filter/FilterShape;)V" } : Jvm.MethodName) prog_15_method_1_code (2 : Nat) (Option.none : Option Jvm.ClassFile.FieldType), Jvm.Cond.code ({ cls := "java/util/Objects", name := "requireNonNull", desc := "(Ljava/lang/Object;Ljava/lang/String;)Ljava/lang/Object;" } : Jvm.MethodName) jdk_31_method_11_code (2 : Nat) (Option.some (Jvm.ClassFile.FieldType.object "java/lang/Object")), Jvm.Cond.code ({ cls := "com/example/vaglio/vaglio/filter/FilterShape", name := "rows", desc := "()I" } : Jvm.MethodName) prog_19_method_12_code (1 : Nat) (Option.some Jvm.ClassFile.FieldType.int), Jvm.Cond.code ({ cls := "com/example/vaglio/vaglio/filter/Filter", name := "<init>", desc := "(Lcom/example/vaglio/vaglio/filter/FilterShape;[B)V" } : Jvm.MethodName) prog_15_method_2_code (3 : Nat) (Option.none : Option Jvm.ClassFile.FieldType), Jvm.Cond.code ({ cls := "com/example/vaglio/vaglio/filter/FilterSnapshot", name := "<init>", desc := "(Lcom/example/vaglio/vaglio/filter/Filter;J[B)V" } : Jvm.MethodName) prog_20_method_1_code (5 : Nat) (Option.none : Option Jvm.ClassFile.FieldType), Jvm.Cond.code ({ cls := "com/example/vaglio/vaglio/filter/FilterSnapshot", name := "masked", desc := "()Z" } : Jvm.MethodName) prog_20_method_4_code (1 : Nat) (Option.some Jvm.ClassFile.FieldType.boolean), Jvm.Cond.code ({ cls := "com/example/vaglio/vaglio/filter/FilterSnapshot", name := "maskSeed", desc := "()[B" } : Jvm.MethodName) prog_20_method_3_code (1 : Nat) (Option.some (Jvm.ClassFile.FieldType.array Jvm.ClassFile.FieldType.byte)), Jvm.Cond.code ({ cls := "com/example/vaglio/vaglio/filter/FilterSnapshot", name := "maskRows", desc := "()I" } : Jvm.MethodName) prog_20_method_5_code (1 : Nat) (Option.some Jvm.ClassFile.FieldType.int), Jvm.Cond.code ({ cls := "com/example/vaglio/vaglio/filter/FilterMask", name := "checkSeed", desc := "([B)[B" } : Jvm.MethodName) prog_17_method_2_code (1 : Nat) (Option.some (Jvm.ClassFile.FieldType.array Jvm.ClassFile.FieldType.byte)), Jvm.Cond.code ({ cls := "com/example/vaglio/vaglio/filter/Filter", name := "shape", desc := "()Lcom/example/vaglio/vaglio/filter/FilterShape;" } : Jvm.MethodName) prog_15_method_3_code (1 : Nat) (Option.some (Jvm.ClassFile.FieldType.object "com/example/vaglio/vaglio/filter/FilterShape")), Jvm.Cond.code ({ cls := "com/example/vaglio/vaglio/filter/FilterMask", name := "rowsFor", desc := "(Lcom/example/vaglio/vaglio/filter/FilterShape;)I" } : Jvm.MethodName) prog_17_method_3_code (2 : Nat) (Option.some Jvm.ClassFile.FieldType.int)]
set_option maxRecDepth 65536 in
theorem codes_eq : words1.filter isCode = codes1 := rfl
theorem w_codes : ∀ c ∈ words1.filter isCode, c.before args0 about1 = true := by
  rw [codes_eq]
  intro c hc
  simp only [codes1, List.mem_cons, List.not_mem_nil, or_false] at hc
  rcases hc with rfl | rfl | rfl | rfl | rfl | rfl | rfl | rfl | rfl | rfl | rfl | rfl | rfl | rfl | rfl
  · exact w_c0
  · exact w_c1
  · exact w_c2
  · exact w_c3
  · exact w_c4
  · exact w_c5
  · exact w_c6
  · exact w_c7
  · exact w_c8
  · exact w_c9
  · exact w_c10
  · exact w_c11
  · exact w_c12
  · exact w_c13
  · exact w_c14
set_option maxRecDepth 65536 in
theorem w_t1 : (words1.take 24).all (fun c => isCode c || c.before args0 about1) = true := by decide +kernel
set_option maxRecDepth 65536 in
theorem w_t2 : ((words1.drop 24).take 24).all (fun c => isCode c || c.before args0 about1) = true := by decide +kernel
set_option maxRecDepth 65536 in
theorem w_t3 : (((words1.drop 24).drop 24).take 24).all (fun c => isCode c || c.before args0 about1) = true := by decide +kernel
set_option maxRecDepth 65536 in
theorem w_t4 : ((((words1.drop 24).drop 24).drop 24).take 24).all (fun c => isCode c || c.before args0 about1) = true := by decide +kernel
set_option maxRecDepth 65536 in
theorem w_t5 : ((((words1.drop 24).drop 24).drop 24).drop 24).all (fun c => isCode c || c.before args0 about1) = true := by decide +kernel
theorem w_tables : (allAtoms (Jvm.Cond.code x code maxLocals ret :: tables_1)).before args0 about1 = true := by
  rw [allAtoms_all]
  show words1.all (fun c => c.before args0 about1) = true
  refine all_split ?_ w_codes
  rw [← List.take_append_drop 24 words1, List.all_append, w_t1, ← List.take_append_drop 24 (words1.drop 24), List.all_append, w_t2, ← List.take_append_drop 24 ((words1.drop 24).drop 24), List.all_append, w_t3, ← List.take_append_drop 24 (((words1.drop 24).drop 24).drop 24), List.all_append, w_t4, w_t5]
  rfl
set_option maxRecDepth 65536 in
theorem w_case : (Jvm.Cond.and given_1 narrow_1).before args0 about1 = true := by decide +kernel
theorem w_applies : (headSpec (Jvm.Cond.code x code maxLocals ret :: tables_1) room_1).applies x e0.platform about1 = true :=
  (Spec.applies_iff w_frames).mpr ⟨w_running, w_runnable, w_alone, w_named, w_hears, w_ripe, w_room, w_tables⟩
theorem atStart : AtStart classFile x code maxLocals ret World_1 tables_1 room_1 Calls_1 rest_1 Pre_1 launch0 p0 e0 about1 theMethod args0 below0 :=
  ⟨lists_1, trivial, launch0.admits_env _ _ _, launch0.least_env, fairChoices_fair.cas, fairChoices_fair.clock, w_frames, w_args, w_heap, w_applies, trivial, trivial, w_case⟩
end start1
theorem witness_1 : WitnessClaimed_1 := ⟨start1.p0, start1.e0, start1.about1, start1.theMethod, start1.args0, start1.below0, start1.atStart⟩
end Jvm.Pilot.@@N@@
