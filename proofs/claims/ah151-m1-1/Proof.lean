import JvmDerived
import JvmDerived.Pilot.@@N@@Statement
import JvmDerived.Pilot.@@N@@Code
set_option linter.unusedVariables false
set_option linter.unusedSimpArgs false
namespace Jvm.Pilot.@@N@@
open Jvm Jvm.ClassFile Sem Op Lib Jvm.Free Jvm.Stand Jvm.LawKit Jvm.RoadKit Bundle Jvm.Pilot.@@N@@.Jvm.D
section Own
set_option maxHeartbeats 4000000
variable {p : Program} {l : Launch} {e : Env} {R : Room} {s : State} {m : MethodId} {args : Array Value} {below : List Frame} {meth : Method} {c : Code} {T : State} {locs : List Loc} {cells slots : Nat} {Z : State} {a0 : Array Value} {h : Heap} {own nm : String} {bytes : ByteArray} {ml : Nat} {rt : Option FieldType} {Q : Option Value → Heap → List Loc → Prop} {CC SS : Nat} {E : Outcome → State → Prop} {pc : Nat} {Ls : Array Slot} {St : List Value}
def Ctx (p : Program) (s : State) (m : MethodId) (meth : Method) (c : Code) (Z : State) (own nm : String) (bytes : ByteArray) (ml : Nat) (rt : Option FieldType) : Prop :=
  p.tables.exec = Jvm.exec ∧ Z.Warmed39 s.vm ∧ c.code = bytes ∧ c.maxLocals = ml ∧ s.vm.findClass own = some m.cls ∧ meth.locks = false ∧ meth.sig.returnType = rt ∧ meth.name = nm
theorem Ctx.c_x (C : Ctx p s m meth c Z own nm bytes ml rt) : p.tables.exec = Jvm.exec := C.1
theorem Ctx.c_z (C : Ctx p s m meth c Z own nm bytes ml rt) : Z.Warmed39 s.vm := C.2.1
theorem Ctx.c_by (C : Ctx p s m meth c Z own nm bytes ml rt) : c.code = bytes := C.2.2.1
theorem Ctx.c_ml (C : Ctx p s m meth c Z own nm bytes ml rt) : c.maxLocals = ml := C.2.2.2.1
theorem Ctx.c_own (C : Ctx p s m meth c Z own nm bytes ml rt) : s.vm.findClass own = some m.cls := C.2.2.2.2.1
theorem Ctx.c_lk (C : Ctx p s m meth c Z own nm bytes ml rt) : meth.locks = false := C.2.2.2.2.2.1
theorem Ctx.c_rt (C : Ctx p s m meth c Z own nm bytes ml rt) : meth.sig.returnType = rt := C.2.2.2.2.2.2.1
theorem Ctx.c_nm (C : Ctx p s m meth c Z own nm bytes ml rt) : meth.name = nm := C.2.2.2.2.2.2.2
def EndN (s : State) (Q : Option Value → Heap → List Loc → Prop) (CC SS : Nat) (o : Outcome) (t : State) : Prop := ∃ v L, o = .returned v ∧ Q v t.heap L ∧ FrameEnd s o t L CC SS
def Goes (p : Program) (e : Env) (below : List Frame) (E : Outcome → State → Prop) (T : State) (m : MethodId) (pc : Nat) (Ls : Array Slot) (St : List Value) : Prop :=
  ∃ s₂ o, Steps p.tables e below (T.setTop (mkF m pc Ls St)) s₂ ∧ s₂.status = .running ∧ Ended s₂ below o ∧ E o s₂
theorem Goes.back {T' : State} {q : Nat} {Ls' : Array Slot} {St' : List Value} (k : Goes p e below E T' m q Ls' St') (f : ∀ t, Steps p.tables e below (T'.setTop (mkF m q Ls' St')) t → Steps p.tables e below (T.setTop (mkF m pc Ls St)) t) : Goes p e below E T m pc Ls St := by
  obtain ⟨s2, o, h1, h2⟩ := k
  exact ⟨s2, o, f _ h1, h2⟩
theorem Goes.enter {g : JFrame} (hg : g = mkF m 0 Ls []) (k : Goes p e below (EndN s Q CC SS) T m 0 Ls []) : ∃ s₂ o, Steps p.tables e below (T.setTop g) s₂ ∧ s₂.status = .running ∧ Ended s₂ below o ∧ ∃ v L, o = .returned v ∧ Q v s₂.heap L ∧ FrameEnd s o s₂ L CC SS := by
  subst hg
  exact k
theorem Ctx.of {x : MethodName} {S : Spec} {s₁ : State} (Bd : BodyLoose p l x S bytes ml rt e s m args below meth c s₁) (hml : c.maxLocals = ml) (hZ : Z.Warmed39 s.vm) : Ctx p s m meth c Z x.cls x.name bytes ml rt :=
  ⟨Bd.exec, hZ, Bd.bytes, hml, findClass_of_methodNamed Bd.named, Bd.notSynchronized, Bd.returns, (name_of_methodNamed Bd.named Bd.method).1⟩
theorem g_iadd (q : Nat) (hq : pc + 1 = q) (C : Ctx p s m meth c Z own nm bytes ml rt) (X : Stand p l e R s m args below meth c T locs cells slots) {x y : Int32} (hd : decode bytes pc = .ok (.iadd, 1)) (k : Goes p e below E T m q Ls (.int (x + y) :: St)) : Goes p e below E T m pc Ls (.int y :: .int x :: St) := by
  subst hq
  exact k.back fun t kt => XS.iadd (g := mkF m pc Ls (.int y :: .int x :: St)) X.here C.c_x rfl (hb C.c_by hd) rfl kt
theorem g_imul (q : Nat) (hq : pc + 1 = q) (C : Ctx p s m meth c Z own nm bytes ml rt) (X : Stand p l e R s m args below meth c T locs cells slots) {x y : Int32} (hd : decode bytes pc = .ok (.imul, 1)) (k : Goes p e below E T m q Ls (.int (x * y) :: St)) : Goes p e below E T m pc Ls (.int y :: .int x :: St) := by
  subst hq
  exact k.back fun t kt => XS.imul (g := mkF m pc Ls (.int y :: .int x :: St)) X.here C.c_x rfl (hb C.c_by hd) rfl kt
theorem g_iand (q : Nat) (hq : pc + 1 = q) (C : Ctx p s m meth c Z own nm bytes ml rt) (X : Stand p l e R s m args below meth c T locs cells slots) {x y : Int32} (hd : decode bytes pc = .ok (.iand, 1)) (k : Goes p e below E T m q Ls (.int (x &&& y) :: St)) : Goes p e below E T m pc Ls (.int y :: .int x :: St) := by
  subst hq
  exact k.back fun t kt => XS.iand (g := mkF m pc Ls (.int y :: .int x :: St)) X.here C.c_x rfl (hb C.c_by hd) rfl kt
theorem g_land (q : Nat) (hq : pc + 1 = q) (C : Ctx p s m meth c Z own nm bytes ml rt) (X : Stand p l e R s m args below meth c T locs cells slots) {x y : Int64} (hd : decode bytes pc = .ok (.land, 1)) (k : Goes p e below E T m q Ls (.long (x &&& y) :: St)) : Goes p e below E T m pc Ls (.long y :: .long x :: St) := by
  subst hq
  exact k.back fun t kt => XS.land (g := mkF m pc Ls (.long y :: .long x :: St)) X.here C.c_x rfl (hb C.c_by hd) rfl kt
theorem g_iushr (q : Nat) (hq : pc + 1 = q) (C : Ctx p s m meth c Z own nm bytes ml rt) (X : Stand p l e R s m args below meth c T locs cells slots) {x y : Int32} (hd : decode bytes pc = .ok (.iushr, 1)) (k : Goes p e below E T m q Ls (.int ((x.toUInt32 >>> (y &&& 31).toUInt32).toInt32) :: St)) : Goes p e below E T m pc Ls (.int y :: .int x :: St) := by
  subst hq
  exact k.back fun t kt => XS.iushr (g := mkF m pc Ls (.int y :: .int x :: St)) X.here C.c_x rfl (hb C.c_by hd) rfl kt
theorem g_lushr (q : Nat) (hq : pc + 1 = q) (C : Ctx p s m meth c Z own nm bytes ml rt) (X : Stand p l e R s m args below meth c T locs cells slots) {x : Int64} {y : Int32} (hd : decode bytes pc = .ok (.lushr, 1)) (k : Goes p e below E T m q Ls (.long ((x.toUInt64 >>> (y &&& 0x3f).toInt64.toUInt64).toInt64) :: St)) : Goes p e below E T m pc Ls (.int y :: .long x :: St) := by
  subst hq
  exact k.back fun t kt => XS.lushr (g := mkF m pc Ls (.int y :: .long x :: St)) X.here C.c_x rfl (hb C.c_by hd) rfl kt
theorem g_i2b (q : Nat) (hq : pc + 1 = q) (C : Ctx p s m meth c Z own nm bytes ml rt) (X : Stand p l e R s m args below meth c T locs cells slots) {x : Int32} (hd : decode bytes pc = .ok (.i2b, 1)) (k : Goes p e below E T m q Ls (.int (x.toInt8.toInt32) :: St)) : Goes p e below E T m pc Ls (.int x :: St) := by
  subst hq
  exact k.back fun t kt => XS.i2b (g := mkF m pc Ls (.int x :: St)) X.here C.c_x rfl (hb C.c_by hd) rfl kt
theorem g_i2l (q : Nat) (hq : pc + 1 = q) (C : Ctx p s m meth c Z own nm bytes ml rt) (X : Stand p l e R s m args below meth c T locs cells slots) {x : Int32} (hd : decode bytes pc = .ok (.i2l, 1)) (k : Goes p e below E T m q Ls (.long x.toInt64 :: St)) : Goes p e below E T m pc Ls (.int x :: St) := by
  subst hq
  exact k.back fun t kt => XS.i2l (g := mkF m pc Ls (.int x :: St)) X.here C.c_x rfl (hb C.c_by hd) rfl kt
theorem g_l2i (q : Nat) (hq : pc + 1 = q) (C : Ctx p s m meth c Z own nm bytes ml rt) (X : Stand p l e R s m args below meth c T locs cells slots) {x : Int64} (hd : decode bytes pc = .ok (.l2i, 1)) (k : Goes p e below E T m q Ls (.int x.toInt32 :: St)) : Goes p e below E T m pc Ls (.long x :: St) := by
  subst hq
  exact k.back fun t kt => XS.l2i (g := mkF m pc Ls (.long x :: St)) X.here C.c_x rfl (hb C.c_by hd) rfl kt
theorem g_lcmp (q : Nat) (hq : pc + 1 = q) (C : Ctx p s m meth c Z own nm bytes ml rt) (X : Stand p l e R s m args below meth c T locs cells slots) {x y : Int64} (hd : decode bytes pc = .ok (.lcmp, 1)) (k : Goes p e below E T m q Ls (.int (lcmpW x y) :: St)) : Goes p e below E T m pc Ls (.long y :: .long x :: St) := by
  subst hq
  exact k.back fun t kt => XS.lcmp (g := mkF m pc Ls (.long y :: .long x :: St)) X.here C.c_x rfl (hb C.c_by hd) rfl kt
theorem g_iconst (q : Nat) (hq : pc + 1 = q) (C : Ctx p s m meth c Z own nm bytes ml rt) (X : Stand p l e R s m args below meth c T locs cells slots) {i : Int} (v : Int32) (hd : decode bytes pc = .ok (.iconst i, 1)) (hv : Int32.ofInt i = v) (k : Goes p e below E T m q Ls (.int v :: St)) : Goes p e below E T m pc Ls St := by
  subst hq
  exact k.back fun t kt => XS.iconst (g := mkF m pc Ls St) X.here C.c_x rfl (hb C.c_by hd) (by subst hv; exact kt)
theorem g_bipush (q : Nat) (hq : pc + 2 = q) (C : Ctx p s m meth c Z own nm bytes ml rt) (X : Stand p l e R s m args below meth c T locs cells slots) {i : Int} (v : Int32) (hd : decode bytes pc = .ok (.bipush i, 2)) (hv : (Int8.ofInt i).toInt32 = v) (k : Goes p e below E T m q Ls (.int v :: St)) : Goes p e below E T m pc Ls St := by
  subst hq
  exact k.back fun t kt => XS.bipush (g := mkF m pc Ls St) X.here C.c_x rfl (hb C.c_by hd) (by subst hv; exact kt)
theorem g_sipush (q : Nat) (hq : pc + 3 = q) (C : Ctx p s m meth c Z own nm bytes ml rt) (X : Stand p l e R s m args below meth c T locs cells slots) {i : Int} (v : Int32) (hd : decode bytes pc = .ok (.sipush i, 3)) (hv : (Int16.ofInt i).toInt32 = v) (k : Goes p e below E T m q Ls (.int v :: St)) : Goes p e below E T m pc Ls St := by
  subst hq
  exact k.back fun t kt => XS.sipush (g := mkF m pc Ls St) X.here C.c_x rfl (hb C.c_by hd) (by subst hv; exact kt)
theorem g_lconst (q : Nat) (hq : pc + 1 = q) (C : Ctx p s m meth c Z own nm bytes ml rt) (X : Stand p l e R s m args below meth c T locs cells slots) {i : Fin 2} (v : Int64) (hd : decode bytes pc = .ok (.lconst i, 1)) (hv : Int64.ofNat i = v) (k : Goes p e below E T m q Ls (.long v :: St)) : Goes p e below E T m pc Ls St := by
  subst hq
  exact k.back fun t kt => XS.lconst (g := mkF m pc Ls St) X.here C.c_x rfl (hb C.c_by hd) (by subst hv; exact kt)
theorem g_null (q : Nat) (hq : pc + 1 = q) (C : Ctx p s m meth c Z own nm bytes ml rt) (X : Stand p l e R s m args below meth c T locs cells slots)  (hd : decode bytes pc = .ok (.aconst_null, 1)) (k : Goes p e below E T m q Ls (.null :: St)) : Goes p e below E T m pc Ls St := by
  subst hq
  exact k.back fun t kt => XS.aconstNull (g := mkF m pc Ls St) X.here C.c_x rfl (hb C.c_by hd) kt
theorem g_iloadN (q : Nat) (hq : pc + 1 = q) (C : Ctx p s m meth c Z own nm bytes ml rt) (X : Stand p l e R s m args below meth c T locs cells slots) {k0 : Fin 4} {v : Int32} (hd : decode bytes pc = .ok (.iload_n k0, 1)) (hl : Ls[k0.val]? = some (.val (.int v))) (k : Goes p e below E T m q Ls (.int v :: St)) : Goes p e below E T m pc Ls St := by
  subst hq
  exact k.back fun t kt => XS.iloadN (g := mkF m pc Ls St) X.here C.c_x rfl (hb C.c_by hd) hl kt
theorem g_iload (q : Nat) (hq : pc + 2 = q) (C : Ctx p s m meth c Z own nm bytes ml rt) (X : Stand p l e R s m args below meth c T locs cells slots) {k0 : Nat} {v : Int32} (hd : decode bytes pc = .ok (.iload k0, 2)) (hl : Ls[k0]? = some (.val (.int v))) (k : Goes p e below E T m q Ls (.int v :: St)) : Goes p e below E T m pc Ls St := by
  subst hq
  exact k.back fun t kt => XS.iload (g := mkF m pc Ls St) X.here C.c_x rfl (hb C.c_by hd) hl kt
theorem g_lloadN (q : Nat) (hq : pc + 1 = q) (C : Ctx p s m meth c Z own nm bytes ml rt) (X : Stand p l e R s m args below meth c T locs cells slots) {k0 : Fin 4} {v : Int64} (hd : decode bytes pc = .ok (.lload_n k0, 1)) (hl : Ls[k0.val]? = some (.val (.long v))) (k : Goes p e below E T m q Ls (.long v :: St)) : Goes p e below E T m pc Ls St := by
  subst hq
  exact k.back fun t kt => XS.lloadN (g := mkF m pc Ls St) X.here C.c_x rfl (hb C.c_by hd) hl kt
theorem g_lload (q : Nat) (hq : pc + 2 = q) (C : Ctx p s m meth c Z own nm bytes ml rt) (X : Stand p l e R s m args below meth c T locs cells slots) {k0 : Nat} {v : Int64} (hd : decode bytes pc = .ok (.lload k0, 2)) (hl : Ls[k0]? = some (.val (.long v))) (k : Goes p e below E T m q Ls (.long v :: St)) : Goes p e below E T m pc Ls St := by
  subst hq
  exact k.back fun t kt => XS.lload (g := mkF m pc Ls St) X.here C.c_x rfl (hb C.c_by hd) hl kt
theorem g_aloadN (q : Nat) (hq : pc + 1 = q) (C : Ctx p s m meth c Z own nm bytes ml rt) (X : Stand p l e R s m args below meth c T locs cells slots) {k0 : Fin 4} {v : Value} (hd : decode bytes pc = .ok (.aload_n k0, 1)) (hl : Ls[k0.val]? = some (.val v)) (hv : v.isRef = true) (k : Goes p e below E T m q Ls (v :: St)) : Goes p e below E T m pc Ls St := by
  subst hq
  exact k.back fun t kt => XS.aloadN (g := mkF m pc Ls St) X.here C.c_x rfl (hb C.c_by hd) hl hv kt
theorem g_aload (q : Nat) (hq : pc + 2 = q) (C : Ctx p s m meth c Z own nm bytes ml rt) (X : Stand p l e R s m args below meth c T locs cells slots) {k0 : Nat} {v : Value} (hd : decode bytes pc = .ok (.aload k0, 2)) (hl : Ls[k0]? = some (.val v)) (hv : v.isRef = true) (k : Goes p e below E T m q Ls (v :: St)) : Goes p e below E T m pc Ls St := by
  subst hq
  exact k.back fun t kt => XS.aload (g := mkF m pc Ls St) X.here C.c_x rfl (hb C.c_by hd) hl hv kt
theorem g_istore (q : Nat) (hq : pc + 2 = q) (C : Ctx p s m meth c Z own nm bytes ml rt) (X : Stand p l e R s m args below meth c T locs cells slots) {k0 : Nat} {x : Int32} (v : Int32) (hv : x = v) (Ls' : Array Slot) (hd : decode bytes pc = .ok (.istore k0, 2)) (hl : storeLocals Ls k0 (.int v) = some Ls') (k : Goes p e below E T m q Ls' St) : Goes p e below E T m pc Ls (.int x :: St) := by
  subst hq
  exact k.back fun t kt => XS.istore (g := mkF m pc Ls (.int x :: St)) X.here C.c_x rfl (hb C.c_by hd) rfl (by subst hv; exact hl) kt
theorem g_lstore (q : Nat) (hq : pc + 2 = q) (C : Ctx p s m meth c Z own nm bytes ml rt) (X : Stand p l e R s m args below meth c T locs cells slots) {k0 : Nat} {x : Int64} (v : Int64) (hv : x = v) (Ls' : Array Slot) (hd : decode bytes pc = .ok (.lstore k0, 2)) (hl : storeLocals Ls k0 (.long v) = some Ls') (k : Goes p e below E T m q Ls' St) : Goes p e below E T m pc Ls (.long x :: St) := by
  subst hq
  exact k.back fun t kt => XS.lstore (g := mkF m pc Ls (.long x :: St)) X.here C.c_x rfl (hb C.c_by hd) rfl (by subst hv; exact hl) kt
theorem g_astore (q : Nat) (hq : pc + 2 = q) (C : Ctx p s m meth c Z own nm bytes ml rt) (X : Stand p l e R s m args below meth c T locs cells slots) {k0 : Nat} {x : Value} (Ls' : Array Slot) (hd : decode bytes pc = .ok (.astore k0, 2)) (hv : x.isRef = true) (hl : storeLocals Ls k0 x = some Ls') (k : Goes p e below E T m q Ls' St) : Goes p e below E T m pc Ls (x :: St) := by
  subst hq
  exact k.back fun t kt => XS.astore (g := mkF m pc Ls (x :: St)) X.here C.c_x rfl (hb C.c_by hd) rfl hv hl kt
theorem g_dup (q : Nat) (hq : pc + 1 = q) (C : Ctx p s m meth c Z own nm bytes ml rt) (X : Stand p l e R s m args below meth c T locs cells slots) {v : Value} (hd : decode bytes pc = .ok (.dup, 1)) (hv : v.category = 1) (k : Goes p e below E T m q Ls (v :: v :: St)) : Goes p e below E T m pc Ls (v :: St) := by
  subst hq
  exact k.back fun t kt => XS.dup (g := mkF m pc Ls (v :: St)) X.here C.c_x rfl (hb C.c_by hd) rfl hv kt
theorem g_pop (q : Nat) (hq : pc + 1 = q) (C : Ctx p s m meth c Z own nm bytes ml rt) (X : Stand p l e R s m args below meth c T locs cells slots) {v : Value} (hd : decode bytes pc = .ok (.pop, 1)) (hv : v.category = 1) (k : Goes p e below E T m q Ls St) : Goes p e below E T m pc Ls (v :: St) := by
  subst hq
  exact k.back fun t kt => XS.pop (g := mkF m pc Ls (v :: St)) X.here C.c_x rfl (hb C.c_by hd) rfl hv kt
theorem g_goto (q : Nat) (C : Ctx p s m meth c Z own nm bytes ml rt) (X : Stand p l e R s m args below meth c T locs cells slots) {o : Int} (hd : decode bytes pc = .ok (.goto o, 3)) (ho : 0 ≤ (pc : Int) + o) (hp : ((pc : Int) + o).toNat = q) (k : Goes p e below E T m q Ls St) : Goes p e below E T m pc Ls St :=
  k.back fun t kt => XS.goto (g := mkF m pc Ls St) X.here C.c_x rfl (pc0 := pc) (pc' := q) rfl (hb C.c_by hd) ho hp kt
theorem own_z0 : (0 : Int32).toInt = 0 := rfl
theorem g_icmp_lt_f (q : Nat) (hq : pc + 3 = q) (C : Ctx p s m meth c Z own nm bytes ml rt) (X : Stand p l e R s m args below meth c T locs cells slots) {o : Int} {x y : Int32} (hd : decode bytes pc = .ok (.if_icmp .lt o, 3)) (h : ¬ x.toInt < y.toInt) (k : Goes p e below E T m q Ls St) : Goes p e below E T m pc Ls (.int y :: .int x :: St) := by
  subst hq
  exact k.back fun t kt => XS.icmpNo (g := mkF m pc Ls (.int y :: .int x :: St)) X.here C.c_x rfl (hb C.c_by hd) rfl (flt (fun r => h (Int32.lt_iff_toInt_lt.mp r))).1 kt
theorem g_il_lt_f (q : Nat) (hq : pc + 3 = q) (C : Ctx p s m meth c Z own nm bytes ml rt) (X : Stand p l e R s m args below meth c T locs cells slots) {o : Int} {x y : Int64} (hd : decode bytes pc = .ok (.ifCond .lt o, 3)) (h : ¬ x.toInt < y.toInt) (k : Goes p e below E T m q Ls St) : Goes p e below E T m pc Ls (.int (lcmpW x y) :: St) := by
  subst hq
  exact k.back fun t kt => XS.ifNo (g := mkF m pc Ls (.int (lcmpW x y) :: St)) X.here C.c_x rfl (hb C.c_by hd) rfl ((if0 _ _).trans (flt (fun r => h (Int64.lt_iff_toInt_lt.mp ((lw_lt x y).mp r)))).1) kt
theorem g_icmp_le_t (q : Nat) (C : Ctx p s m meth c Z own nm bytes ml rt) (X : Stand p l e R s m args below meth c T locs cells slots) {o : Int} {x y : Int32} (hd : decode bytes pc = .ok (.if_icmp .le o, 3)) (ho : 0 ≤ (pc : Int) + o) (hp : ((pc : Int) + o).toNat = q) (h : ¬ y.toInt < x.toInt) (k : Goes p e below E T m q Ls St) : Goes p e below E T m pc Ls (.int y :: .int x :: St) :=
  k.back fun t kt => XS.icmpYes (g := mkF m pc Ls (.int y :: .int x :: St)) X.here C.c_x rfl (pc0 := pc) (pc' := q) rfl (hb C.c_by hd) rfl (flt (fun r => h (Int32.lt_iff_toInt_lt.mp r))).2.2.2 ho hp kt
theorem g_il_le_t (q : Nat) (C : Ctx p s m meth c Z own nm bytes ml rt) (X : Stand p l e R s m args below meth c T locs cells slots) {o : Int} {x y : Int64} (hd : decode bytes pc = .ok (.ifCond .le o, 3)) (ho : 0 ≤ (pc : Int) + o) (hp : ((pc : Int) + o).toNat = q) (h : ¬ y.toInt < x.toInt) (k : Goes p e below E T m q Ls St) : Goes p e below E T m pc Ls (.int (lcmpW x y) :: St) :=
  k.back fun t kt => XS.ifYes (g := mkF m pc Ls (.int (lcmpW x y) :: St)) X.here C.c_x rfl (pc0 := pc) (pc' := q) rfl (hb C.c_by hd) rfl ((if0 _ _).trans (flt (fun r => h (Int64.lt_iff_toInt_lt.mp ((lw_gt x y).mp r)))).2.2.2) ho hp kt
theorem g_icmp_eq_t (q : Nat) (C : Ctx p s m meth c Z own nm bytes ml rt) (X : Stand p l e R s m args below meth c T locs cells slots) {o : Int} {x y : Int32} (hd : decode bytes pc = .ok (.if_icmp .eq o, 3)) (ho : 0 ≤ (pc : Int) + o) (hp : ((pc : Int) + o).toNat = q) (h : x.toInt = y.toInt) (k : Goes p e below E T m q Ls St) : Goes p e below E T m pc Ls (.int y :: .int x :: St) :=
  k.back fun t kt => XS.icmpYes (g := mkF m pc Ls (.int y :: .int x :: St)) X.here C.c_x rfl (pc0 := pc) (pc' := q) rfl (hb C.c_by hd) rfl (teq (Int32.toInt_inj.mp h)).1 ho hp kt
theorem g_if_eq_f (q : Nat) (hq : pc + 3 = q) (C : Ctx p s m meth c Z own nm bytes ml rt) (X : Stand p l e R s m args below meth c T locs cells slots) {o : Int} {x : Int32} (hd : decode bytes pc = .ok (.ifCond .eq o, 3)) (h : ¬ x.toInt = 0) (k : Goes p e below E T m q Ls St) : Goes p e below E T m pc Ls (.int x :: St) := by
  subst hq
  exact k.back fun t kt => XS.ifNo (g := mkF m pc Ls (.int x :: St)) X.here C.c_x rfl (hb C.c_by hd) rfl ((if0 _ _).trans (feq (fun r => h (congrArg Int32.toInt r))).1) kt
theorem g_if_ne_t (q : Nat) (C : Ctx p s m meth c Z own nm bytes ml rt) (X : Stand p l e R s m args below meth c T locs cells slots) {o : Int} {x : Int32} (hd : decode bytes pc = .ok (.ifCond .ne o, 3)) (ho : 0 ≤ (pc : Int) + o) (hp : ((pc : Int) + o).toNat = q) (h : ¬ x.toInt = 0) (k : Goes p e below E T m q Ls St) : Goes p e below E T m pc Ls (.int x :: St) :=
  k.back fun t kt => XS.ifYes (g := mkF m pc Ls (.int x :: St)) X.here C.c_x rfl (pc0 := pc) (pc' := q) rfl (hb C.c_by hd) rfl ((if0 _ _).trans (feq (fun r => h (congrArg Int32.toInt r))).2) ho hp kt
theorem g_icmp_ne_f (q : Nat) (hq : pc + 3 = q) (C : Ctx p s m meth c Z own nm bytes ml rt) (X : Stand p l e R s m args below meth c T locs cells slots) {o : Int} {x y : Int32} (hd : decode bytes pc = .ok (.if_icmp .ne o, 3)) (h : x.toInt = y.toInt) (k : Goes p e below E T m q Ls St) : Goes p e below E T m pc Ls (.int y :: .int x :: St) := by
  subst hq
  exact k.back fun t kt => XS.icmpNo (g := mkF m pc Ls (.int y :: .int x :: St)) X.here C.c_x rfl (hb C.c_by hd) rfl (teq (Int32.toInt_inj.mp h)).2 kt
theorem g_if_ne_f (q : Nat) (hq : pc + 3 = q) (C : Ctx p s m meth c Z own nm bytes ml rt) (X : Stand p l e R s m args below meth c T locs cells slots) {o : Int} {x : Int32} (hd : decode bytes pc = .ok (.ifCond .ne o, 3)) (h : x.toInt = 0) (k : Goes p e below E T m q Ls St) : Goes p e below E T m pc Ls (.int x :: St) := by
  subst hq
  exact k.back fun t kt => XS.ifNo (g := mkF m pc Ls (.int x :: St)) X.here C.c_x rfl (hb C.c_by hd) rfl ((if0 _ _).trans (teq (Int32.toInt_inj.mp h)).2) kt
theorem g_ifnull_f (q : Nat) (hq : pc + 3 = q) (C : Ctx p s m meth c Z own nm bytes ml rt) (X : Stand p l e R s m args below meth c T locs cells slots) {o : Int} {b : Addr} (hd : decode bytes pc = .ok (.ifnull o, 3)) (k : Goes p e below E T m q Ls St) : Goes p e below E T m pc Ls (.ref b :: St) := by
  subst hq
  exact k.back fun t kt => XS.ifnullNo (g := mkF m pc Ls (.ref b :: St)) X.here C.c_x rfl (hb C.c_by hd) rfl kt
theorem g_ifnonnull_t (q : Nat) (C : Ctx p s m meth c Z own nm bytes ml rt) (X : Stand p l e R s m args below meth c T locs cells slots) {o : Int} {b : Addr} (hd : decode bytes pc = .ok (.ifnonnull o, 3)) (ho : 0 ≤ (pc : Int) + o) (hp : ((pc : Int) + o).toNat = q) (k : Goes p e below E T m q Ls St) : Goes p e below E T m pc Ls (.ref b :: St) :=
  k.back fun t kt => XS.ifnonnullYes (g := mkF m pc Ls (.ref b :: St)) X.here C.c_x rfl (pc0 := pc) (pc' := q) rfl (hb C.c_by hd) rfl ho hp kt
theorem g_ifnonnull_f (q : Nat) (hq : pc + 3 = q) (C : Ctx p s m meth c Z own nm bytes ml rt) (X : Stand p l e R s m args below meth c T locs cells slots) {o : Int} (hd : decode bytes pc = .ok (.ifnonnull o, 3)) (k : Goes p e below E T m q Ls St) : Goes p e below E T m pc Ls (.null :: St) := by
  subst hq
  exact k.back fun t kt => XS.ifnonnullNo (g := mkF m pc Ls (.null :: St)) X.here C.c_x rfl (hb C.c_by hd) rfl kt
theorem g_acmp_eq_f (q : Nat) (hq : pc + 3 = q) (C : Ctx p s m meth c Z own nm bytes ml rt) (X : Stand p l e R s m args below meth c T locs cells slots) {o : Int} {a b : Addr} (hd : decode bytes pc = .ok (.if_acmp .eq o, 3)) (hne : a ≠ b) (k : Goes p e below E T m q Ls St) : Goes p e below E T m pc Ls (.ref b :: .ref a :: St) := by
  subst hq
  exact k.back fun t kt => XS.acmpNo (g := mkF m pc Ls (.ref b :: .ref a :: St)) X.here C.c_x rfl (hb C.c_by hd) rfl (by simp [if_acmp.holds, hne]) kt
theorem g_ldc (q : Nat) (hq : pc + 2 = q) (C : Ctx p s m meth c Z own nm bytes ml rt) (X : Stand p l e R s m args below meth c T locs cells slots) {i : Nat} {v : Int32} (w : (Cond.constant own i v).before a0 Z = true) (hd : decode bytes pc = .ok (.ldc i, 2)) (k : Goes p e below E T m q Ls (.int v :: St)) : Goes p e below E T m pc Ls St := by
  subst hq
  exact k.back fun t kt => X.ldcInt C.c_x C.c_own (mvT C.c_z w) (g := mkF m pc Ls St) rfl (hb C.c_by hd) _ kt
theorem g_ldc2 (q : Nat) (hq : pc + 3 = q) (C : Ctx p s m meth c Z own nm bytes ml rt) (X : Stand p l e R s m args below meth c T locs cells slots) {i : Nat} {v : Int64} (w : (Cond.constantLong own i v).before a0 Z = true) (hd : decode bytes pc = .ok (.ldc2_w i, 3)) (k : Goes p e below E T m q Ls (.long v :: St)) : Goes p e below E T m pc Ls St := by
  subst hq
  exact k.back fun t kt => X.ldc2Long C.c_x C.c_own (mvT C.c_z w) (g := mkF m pc Ls St) rfl (hb C.c_by hd) _ kt
theorem g_retW (C : Ctx p s m meth c Z own nm bytes ml rt) (X : Stand p l e R s m args below meth c T locs cells slots) {w : Value} {t : FieldType} {i : Instr} (hrt : rt = some t) (hn : narrow t w = w)
    (hi : (i = .ireturn ∧ (t = .int ∨ t = .boolean ∨ t = .byte ∨ t = .char ∨ t = .short) ∧ ∃ z, w = .int z) ∨ (i = .lreturn ∧ t = .long ∧ ∃ z, w = .long z) ∨ (i = .dreturn ∧ t = .double ∧ ∃ z, w = .double z) ∨ (i = .freturn ∧ t = .float ∧ ∃ z, w = .float z) ∨ (i = .areturn ∧ t.isReference = true ∧ w.isRef = true))
    (hd : decode bytes pc = .ok (i, 1)) (eT : T.heap = h) (hc : cells ≤ CC) (hs : slots ≤ SS) (hQ : Q (some w) h locs) : Goes p e below (EndN s Q CC SS) T m pc Ls (w :: St) := by
  obtain ⟨fs, hr, hrun, hended, hW, hsame⟩ := X.leave (v := some w) (fun r => by rw [C.c_rt, hrt] at r; cases r) C.c_lk
  subst eT
  exact ⟨_, _, retOut X C.c_x (C.c_rt.trans hrt) hn hi (hb C.c_by hd) hr, hrun, hended, _, _, rfl, hQ, ⟨_, rfl⟩, hW, hsame.mono hc hs⟩
theorem g_retI (C : Ctx p s m meth c Z own nm bytes ml rt) (X : Stand p l e R s m args below meth c T locs cells slots) {z : Int32} (hrt : rt = some .int) (hd : decode bytes pc = .ok (.ireturn, 1)) (eT : T.heap = h) (hc : cells ≤ CC) (hs : slots ≤ SS) (hQ : Q (some (.int z)) h locs) : Goes p e below (EndN s Q CC SS) T m pc Ls (.int z :: St) :=
  g_retW C X hrt rfl (Or.inl ⟨rfl, Or.inl rfl, z, rfl⟩) hd eT hc hs hQ
theorem g_retA (C : Ctx p s m meth c Z own nm bytes ml rt) (X : Stand p l e R s m args below meth c T locs cells slots) {w : Value} {t : FieldType} (hrt : rt = some t) (ht : t.isReference = true) (hw : w.isRef = true) (hn : narrow t w = w) (hd : decode bytes pc = .ok (.areturn, 1)) (eT : T.heap = h) (hc : cells ≤ CC) (hs : slots ≤ SS) (hQ : Q (some w) h locs) : Goes p e below (EndN s Q CC SS) T m pc Ls (w :: St) :=
  g_retW C X hrt hn (Or.inr (Or.inr (Or.inr (Or.inr ⟨rfl, ht, hw⟩)))) hd eT hc hs hQ
theorem g_retN (C : Ctx p s m meth c Z own nm bytes ml rt) (X : Stand p l e R s m args below meth c T locs cells slots) {z z' : Int32} {t : FieldType} (hrt : rt = some t) (ht : t = .boolean ∨ t = .byte ∨ t = .char ∨ t = .short) (hd : decode bytes pc = .ok (.ireturn, 1)) (eT : T.heap = h) (hc : cells ≤ CC) (hs : slots ≤ SS) (hz : nar t z = z') (hQ : Q (some (.int z')) h locs) : Goes p e below (EndN s Q CC SS) T m pc Ls (.int z :: St) := by
  obtain ⟨fs, hr, hrun, hended, hW, hsame⟩ := X.leave (v := some (.int (nar t z))) (fun r => by rw [C.c_rt, hrt] at r; cases r) C.c_lk
  subst eT
  subst hz
  exact ⟨_, _, retN X C.c_x (C.c_rt.trans hrt) ht (hb C.c_by hd) hr, hrun, hended, _, _, rfl, hQ, ⟨_, rfl⟩, hW, hsame.mono hc hs⟩
theorem g_retV (C : Ctx p s m meth c Z own nm bytes ml rt) (X : Stand p l e R s m args below meth c T locs cells slots) (hrt : rt = none) (hd : decode bytes pc = .ok (.return_, 1)) (eT : T.heap = h) (hc : cells ≤ CC) (hs : slots ≤ SS) (hQ : Q none h locs) : Goes p e below (EndN s Q CC SS) T m pc Ls [] := by
  obtain ⟨fs, hr, hrun, hended, hW, hsame⟩ := X.leave (v := none) (fun _ => rfl) C.c_lk
  subst eT
  exact ⟨_, _, X.returnOut C.c_x (C.c_rt.trans hrt) (hb C.c_by hd) hr, hrun, hended, _, _, rfl, hQ, ⟨_, rfl⟩, hW, hsame.mono hc hs⟩
theorem g_getF (q : Nat) (hq : pc + 3 = q) (C : Ctx p s m meth c Z own nm bytes ml rt) (X : Stand p l e R s m args below meth c T locs cells slots) {R0 O n d host : String} {i : Nat} {a : Addr} {v : Value} (w : (Cond.fieldLink own i R0 n d).before a0 Z = true ∨ (Cond.fieldLinkNest own i R0 n d host).before a0 Z = true) (via : Via Z R0 O n d) (eT : T.heap = h) (F : Fld Z h a O n d v) (hd : decode bytes pc = .ok (.getfield i, 3))
    (k : ∀ T', Stand p l e R s m args below meth c T' locs cells slots → T'.heap = h → Goes p e below E T' m q Ls (v :: St)) : Goes p e below E T m pc Ls (.ref a :: St) := by
  subst hq
  obtain ⟨T', X', e', st⟩ := getF X C.c_x C.c_z C.c_own w via eT F (g := mkF m pc Ls (.ref a :: St)) rfl rfl (hb C.c_by hd)
  exact (k T' X' e').back fun t kt => st t kt
theorem g_putF (q : Nat) (hq : pc + 3 = q) (C : Ctx p s m meth c Z own nm bytes ml rt) (X : Stand p l e R s m args below meth c T locs cells slots) {R0 O n d host K : String} {i kk : Nat} {ty : FieldType} {a : Addr} {v old : Value} (w : (Cond.fieldLink own i R0 n d).before a0 Z = true ∨ (Cond.fieldLinkNest own i R0 n d host).before a0 Z = true) (via : Via Z R0 O n d) (eT : T.heap = h) (F : Fld Z h a O n d old) (EX : Exa Z h a K)
    (L : (Cond.lays K O n d).before a0 Z = true ∨ ((Cond.laysFinal K O n d).before a0 Z = true ∧ own = O ∧ nm = "<init>")) (wi : (Cond.instantiable K kk).before a0 Z = true) (hty : parseFieldDescriptor d = some ty) (hn : narrow ty v = v) (hf : fits ty v = true) (hd : decode bytes pc = .ok (.putfield i, 3)) {n0 : Nat} (N : Fr n0 locs) (hn0 : n0 ≤ a)
    (k : ∀ T' h' locs', Stand p l e R s m args below meth c T' locs' cells slots → T'.heap = h' → Wr h h' a (Jvm.RoadKit.slotOf Z O n d) v → Fr n0 locs' → Goes p e below E T' m q Ls St) : Goes p e below E T m pc Ls (v :: .ref a :: St) := by
  subst hq
  obtain ⟨T', h', X', e', W', st⟩ := putF X C.c_x C.c_z C.c_own w via eT F EX (L.imp id fun r => ⟨r.1, r.2.1, C.c_nm.trans r.2.2⟩) wi hty hn hf (g := mkF m pc Ls (v :: .ref a :: St)) rfl rfl (hb C.c_by hd)
  exact (k T' h' _ X' e' W' (Fr.snoc X' N hn0)).back fun t kt => st t kt
theorem g_new (q : Nat) (hq : pc + 3 = q) (C : Ctx p s m meth c Z own nm bytes ml rt) (X : Stand p l e R s m args below meth c T locs cells slots) {K : String} {i n : Nat} (w : (Cond.classLink own i K).before a0 Z = true) (wi : (Cond.instantiable K n).before a0 Z = true) (wz : (Cond.initialized K).before a0 Z = true) (eT : T.heap = h) (hd : decode bytes pc = .ok (.new i, 3)) (hc : cells + 1 ≤ R.cells) (hl : slots + n ≤ R.slots)
    (k : ∀ T' h' a, a = h.size → Stand p l e R s m args below meth c T' locs (cells + 1) (slots + n) → T'.heap = h' → Ext h h' → Exa Z h' a K → (∀ {O nm d : String} {ty : FieldType}, Laid Z a0 K O nm d → parseFieldDescriptor d = some ty → Fld Z h' a O nm d (defaultValue ty)) → Goes p e below E T' m q Ls (.ref a :: St)) : Goes p e below E T m pc Ls St := by
  subst hq
  obtain ⟨T', h', X', e', E', A', D', -, st⟩ := newO X C.c_x C.c_z C.c_own w wi wz eT (g := mkF m pc Ls St) rfl (hb C.c_by hd) hc hl
  exact (k T' h' _ rfl X' e' E' A' D').back fun t kt => st t kt
theorem g_initO (q : Nat) (hq : pc + 3 = q) (C : Ctx p s m meth c Z own nm bytes ml rt) (X : Stand p l e R s m args below meth c T locs cells slots) {i : Nat} {a : Addr} (w1 : (Cond.methodLink own i Lib.objectInit).before a0 Z = true) (w2 : (Cond.instanceMethod Lib.objectInit).before a0 Z = true) (w3 : (Cond.code Lib.objectInit ⟨#[0xb1]⟩ 1 none).before a0 Z = true) (eT : T.heap = h) (hd : decode bytes pc = .ok (.invokespecial i, 3)) (hsz : Ls.size = ml) (hf : 1 ≤ R.frames) {W : Nat} (hW : (St.map fun v => v.category).sum ≤ W) (hl : W + 12 ≤ R.locals)
    (k : ∀ T', Stand p l e R s m args below meth c T' locs cells slots → T'.heap = h → Goes p e below E T' m q Ls St) : Goes p e below E T m pc Ls (.ref a :: St) := by
  subst hq
  obtain ⟨T', X', e', st⟩ := initO X C.c_x C.c_z C.c_own w1 w2 w3 eT (g := mkF m pc Ls (.ref a :: St)) rfl (hsz.trans C.c_ml.symm) rfl (hb C.c_by hd) hf (W := W) (by show 2 * 0 + _ ≤ _; omega) hl
  exact (k T' X' e').back fun t kt => st t kt
def Ba (Z : State) (h : Heap) (a : Addr) (ty : FieldType) (n : Nat) (f : Nat → Int32) : Prop := ∃ c : Cell, Arr Z h a c ty ∧ c.slots.size = n ∧ n < 2 ^ 31 ∧ (∀ k, k < n → c.slots[k]? = some (.int (f k)))
def upd (f : Nat → Int32) (j : Nat) (v : Int32) : Nat → Int32 := fun k => bif Nat.beq k j then v else f k
theorem upd_same {f : Nat → Int32} {j k : Nat} {v : Int32} (q : k = j) : upd f j v k = v := by subst q; simp [upd]
theorem upd_ne {f : Nat → Int32} {j k : Nat} {v : Int32} (q : k ≠ j) : upd f j v k = f k := by
  have : Nat.beq k j = false := by
    cases hb : Nat.beq k j with
    | false => rfl
    | true => exact absurd (Nat.eq_of_beq_eq_true hb) q
  show (bif Nat.beq k j then v else f k) = f k
  rw [this]; rfl
theorem upd_eq (f : Nat → Int32) (j k : Nat) (v : Int32) : upd f j v k = if k = j then v else f k := by
  split
  · rename_i q; exact upd_same q
  · rename_i q; exact upd_ne q
theorem Ba.lt {a : Addr} {ty : FieldType} {n : Nat} {f : Nat → Int32} (F : Ba Z h a ty n f) : a < h.size := by obtain ⟨c, A, -⟩ := F; exact A.lt
theorem Ba.ext {h' : Heap} {a : Addr} {ty : FieldType} {n : Nat} {f : Nat → Int32} (F : Ba Z h a ty n f) (E : Ext h h') : Ba Z h' a ty n f := by obtain ⟨c, A, r⟩ := F; exact ⟨c, A.ext E, r⟩
theorem Ba.other {h' : Heap} {a b : Addr} {ty : FieldType} {n sl : Nat} {v : Value} {f : Nat → Int32} (F : Ba Z h a ty n f) (W : Wr h h' b sl v) (q : a ≠ b) : Ba Z h' a ty n f := by obtain ⟨c, A, r⟩ := F; exact ⟨c, A.other W q, r⟩
theorem Ba.keep {h' : Heap} {a : Addr} {ty : FieldType} {n : Nat} {ws : List Addr} {f : Nat → Int32} (F : Ba Z h a ty n f) (K : Keep h h' ws) (q : a ∉ ws) : Ba Z h' a ty n f := by obtain ⟨c, A, r⟩ := F; exact ⟨c, ⟨K.2.1 a c A.1 q, A.2⟩, r⟩
theorem Ba.same {h' : Heap} {a : Addr} {ty : FieldType} {n j : Nat} {v : Int32} {f : Nat → Int32} (F : Ba Z h a ty n f) (W : Wr h h' a j (.int v)) : Ba Z h' a ty n (upd f j v) := by
  obtain ⟨c, A, hs, hn, hf⟩ := F
  refine ⟨_, A.same W, by simp [Cell.setSlot, hs], hn, fun k hk => ?_⟩
  rw [upd_eq]
  by_cases q : k = j
  · subst q; simp [Cell.setSlot, hs, hk]
  · rw [if_neg q]; simp only [Cell.setSlot]; rw [Array.getElem?_setIfInBounds_ne (Ne.symm q)]; exact hf k hk
theorem Ba.cong {a : Addr} {ty : FieldType} {n : Nat} {f f' : Nat → Int32} (F : Ba Z h a ty n f) (q : ∀ k, k < n → f k = f' k) : Ba Z h a ty n f' := by
  obtain ⟨c, A, hs, hn, hf⟩ := F
  exact ⟨c, A, hs, hn, fun k hk => by rw [← q k hk]; exact hf k hk⟩
theorem Ba.new {a : Addr} {cA : ClassId} {ty : FieldType} {z : Int32} {n : Nat} (A : Arr Z h a (newA cA ty z) ty) (hz : z.toInt = n) (hd : defaultValue ty = .int 0) : Ba Z h a ty n (fun _ => 0) := by
  have hr := rng32 z
  have hn : z.toNatClampNeg = n := by simp only [Int32.toNatClampNeg, hz]; rfl
  exact ⟨_, A, by rw [sz_new, hn], by omega, fun k hk => by simp [newA, hn, hk, hd]⟩
theorem own_clamp {j : Int32} {k : Nat} (hj : j.toInt = k) : j.toNatClampNeg = k ∧ ¬ j < 0 := by
  refine ⟨by simp only [Int32.toNatClampNeg, hj]; rfl, fun r => ?_⟩
  have := Int32.lt_iff_toInt_lt.mp r
  rw [hj, own_z0] at this; omega
theorem own_in {j : Int32} {k n : Nat} {c : Cell} (hs : c.slots.size = n) (hj : j.toInt = k) (hk : k < n) : ¬ (j < 0 ∨ c.slots.size ≤ j.toNatClampNeg) := by
  obtain ⟨h1, h2⟩ := own_clamp hj
  rw [h1, hs]; intro r; rcases r with r | r
  · exact h2 r
  · omega
theorem own_lenI {n : Nat} (hn : n < 2 ^ 31) : (n.toInt32).toInt = n := by
  have := len_toInt hn
  exact this
theorem g_newP (q : Nat) (hq : pc + 2 = q) (C : Ctx p s m meth c Z own nm bytes ml rt) (X : Stand p l e R s m args below meth c T locs cells slots) {aty : ArrayType} {z : Int32} (n : Nat) (hz : z.toInt = n) (cap : Nat) (hcap : n ≤ cap) (hb' : cap * 8 ≤ 536870912) (hdf : defaultValue (newarray.typeOf aty) = .int 0) (w : (Cond.arrayClass (newarray.typeOf aty)).before a0 Z = true) (eT : T.heap = h) (hd : decode bytes pc = .ok (.newarray aty, 2)) (hc : cells + 1 ≤ R.cells) (hl : slots + cap ≤ R.slots)
    (k : ∀ T' h' a, a = h.size → Stand p l e R s m args below meth c T' locs (cells + 1) (slots + cap) → T'.heap = h' → Ext h h' → Ba Z h' a (newarray.typeOf aty) n (fun _ => 0) → Goes p e below E T' m q Ls (.ref a :: St)) : Goes p e below E T m pc Ls (.int z :: St) := by
  subst hq
  obtain ⟨h1, h2⟩ := own_clamp hz
  obtain ⟨T', h', cA, X', e', E', A', st⟩ := newP X C.c_x C.c_z w eT (g := mkF m pc Ls (.int z :: St)) rfl (hb C.c_by hd) rfl h2 (cap := cap) (by rw [h1]; exact hcap) hb' hc hl
  exact (k T' h' _ rfl X' e' E' (Ba.new A' hz hdf)).back fun t kt => st t kt
theorem g_len (q : Nat) (hq : pc + 1 = q) (C : Ctx p s m meth c Z own nm bytes ml rt) (X : Stand p l e R s m args below meth c T locs cells slots) {a : Addr} {ty : FieldType} {n : Nat} {f : Nat → Int32} (eT : T.heap = h) (F : Ba Z h a ty n f) (z : Int32) (hz : z.toInt = n) (hd : decode bytes pc = .ok (.arraylength, 1)) (k : Goes p e below E T m q Ls (.int z :: St)) : Goes p e below E T m pc Ls (.ref a :: St) := by
  subst hq
  obtain ⟨c0, A, hs, hn, hf⟩ := F
  have ez : c0.slots.size.toInt32 = z := Int32.toInt_inj.mp (by rw [hs, own_lenI hn, hz])
  exact k.back fun t kt => X.arraylength C.c_x (by rw [eT]; exact A.1) (State.isArrayOf_alike C.c_z.alike A.2.1) (g := mkF m pc Ls (.ref a :: St)) rfl rfl (hb C.c_by hd) t (by rw [ez]; exact kt)
theorem g_baload (q : Nat) (hq : pc + 1 = q) (C : Ctx p s m meth c Z own nm bytes ml rt) (X : Stand p l e R s m args below meth c T locs cells slots) {a : Addr} {n : Nat} {f : Nat → Int32} {j : Int32} (eT : T.heap = h) (F : Ba Z h a .byte n f) (i : Nat) (hj : j.toInt = i) (hi : i < n) (v : Int32) (hv : f i = v) (hd : decode bytes pc = .ok (.baload, 1)) (k : Goes p e below E T m q Ls (.int v :: St)) : Goes p e below E T m pc Ls (.int j :: .ref a :: St) := by
  subst hq
  obtain ⟨c0, A, hs, hn, hf⟩ := F
  exact k.back fun t kt => X.baloadBytes C.c_x (j := j) (v := .int v) (by rw [eT]; exact A.1) (State.isArrayOf_alike C.c_z.alike A.2.1) A.2.2 (own_in hs hj hi) (by rw [(own_clamp hj).1, ← hv]; exact hf i hi) (g := mkF m pc Ls (.int j :: .ref a :: St)) rfl rfl (hb C.c_by hd) t kt
theorem g_bastore (q : Nat) (hq : pc + 1 = q) (C : Ctx p s m meth c Z own nm bytes ml rt) (X : Stand p l e R s m args below meth c T locs cells slots) {a : Addr} {n : Nat} {f : Nat → Int32} {j x : Int32} (eT : T.heap = h) (F : Ba Z h a .byte n f) (i : Nat) (hj : j.toInt = i) (hi : i < n) (v : Int32) (hv : x.toInt8.toInt32 = v) (hd : decode bytes pc = .ok (.bastore, 1)) {n0 : Nat} (N : Fr n0 locs) (hn0 : n0 ≤ a)
    (k : ∀ T' h' locs', Stand p l e R s m args below meth c T' locs' cells slots → T'.heap = h' → Wr h h' a i (.int v) → Ba Z h' a .byte n (upd f i v) → Fr n0 locs' → Goes p e below E T' m q Ls St) : Goes p e below E T m pc Ls (.int x :: .int j :: .ref a :: St) := by
  subst hq hv
  have F0 := F
  obtain ⟨c0, A, hs, hn, hf⟩ := F
  obtain ⟨T', h', X', e', W', st⟩ := stB X C.c_x C.c_z eT A (j := j) (own_in hs hj hi) (g := mkF m pc Ls (.int x :: .int j :: .ref a :: St)) rfl rfl (hb C.c_by hd)
  rw [(own_clamp hj).1] at W' X'
  exact (k T' h' _ X' e' W' (F0.same W') (Fr.snoc X' N hn0)).back fun t kt => st t kt
theorem own_narByte {b : Int32} (h0 : -128 ≤ b.toInt) (h1 : b.toInt < 128) : b.toInt8.toInt32 = b := by
  have := c_i2b b
  exact Int32.toInt_inj.mp (by omega)
theorem g_newPE (q : Nat) (hq : pc + 2 = q) (C : Ctx p s m meth c Z own nm bytes ml rt) (X : Stand p l e R s m args below meth c T locs cells slots) {aty : ArrayType} {z : Int32} (n : Nat) (hz : z.toInt = n) (cap : Nat) (hcap : n ≤ cap) (hb' : cap * 8 ≤ 536870912) (hdf : defaultValue (newarray.typeOf aty) = .int 0) (w : (Cond.arrayClass (newarray.typeOf aty)).before a0 Z = true) (eT : T.heap = h) (hd : decode bytes pc = .ok (.newarray aty, 2)) (hc : cells + 1 ≤ R.cells) (hl : slots + cap ≤ R.slots) {ad : String} (had : "[" ++ (newarray.typeOf aty).toString = ad)
    (k : ∀ T' h' a, a = h.size → Stand p l e R s m args below meth c T' locs (cells + 1) (slots + cap) → T'.heap = h' → Ext h h' → Ba Z h' a (newarray.typeOf aty) n (fun _ => 0) → Exa Z h' a ad → Goes p e below E T' m q Ls (.ref a :: St)) : Goes p e below E T m pc Ls (.int z :: St) := by
  subst hq
  obtain ⟨h1, h2⟩ := own_clamp hz
  obtain ⟨T', h', cA, X', e', E', A', D', st⟩ := newPE X C.c_x C.c_z w eT (g := mkF m pc Ls (.int z :: St)) rfl (hb C.c_by hd) rfl h2 (cap := cap) (by rw [h1]; exact hcap) hb' hc hl had
  exact (k T' h' _ rfl X' e' E' (Ba.new A' hz hdf) D').back fun t kt => st t kt
theorem g_clone (q : Nat) (hq : pc + 3 = q) (C : Ctx p s m meth c Z own nm bytes ml rt) (X : Stand p l e R s m args below meth c T locs cells slots) {ad : String} {i : Nat} {a : Addr} {ty : FieldType} {n : Nat} {f : Nat → Int32}
    (w1 : (Cond.methodLink own i ⟨ad, "clone", "()Ljava/lang/Object;"⟩).before a0 Z = true) (w2 : (Cond.sameMethod ad "java/lang/Object" "clone" "()Ljava/lang/Object;").before a0 Z = true) (w3 : (Cond.native ⟨"java/lang/Object", "clone", "()Ljava/lang/Object;"⟩).before a0 Z = true)
    (w4 : (Cond.instanceMethod ⟨"java/lang/Object", "clone", "()Ljava/lang/Object;"⟩).before a0 Z = true) (w5 : (Cond.selects ad ⟨ad, "clone", "()Ljava/lang/Object;"⟩ ⟨"java/lang/Object", "clone", "()Ljava/lang/Object;"⟩).before a0 Z = true) (w6 : (Cond.castable ad "java/lang/Cloneable").before a0 Z = true)
    (eT : T.heap = h) (F : Ba Z h a ty n f) (E' : Exa Z h a ad) (hfit : ∀ k, k < n → fits ty (.int (f k)) = true) (hd : decode bytes pc = .ok (.invokevirtual i, 3)) (hsz : Ls.size = ml) (hfr : 1 ≤ R.frames) {W : Nat} (hW : (St.map fun v => v.category).sum ≤ W) (hl : W + 14 ≤ R.locals) (hc : cells + 1 ≤ R.cells) (hsl : slots + n ≤ R.slots)
    (k : ∀ T' h' b, b = h.size → Stand p l e R s m args below meth c T' locs (cells + 1) (slots + n) → T'.heap = h' → Ext h h' → Ba Z h' b ty n f → Exa Z h' b ad → Goes p e below E T' m q Ls (.ref b :: St)) : Goes p e below E T m pc Ls (.ref a :: St) := by
  subst hq
  obtain ⟨cl, A, hs, hn, hf⟩ := F
  have FC : FitC Z cl := fitC_of A fun i hi v hv => by
    rw [hf i (hs ▸ hi)] at hv; cases hv; exact hfit i (hs ▸ hi)
  obtain ⟨T', h', X', e', ex, A', D', st⟩ := cloneA X C.c_x C.c_z C.c_own w1 w2 w3 w4 w5 w6 eT A E' FC (g := mkF m pc Ls (.ref a :: St)) rfl (hsz.trans C.c_ml.symm) rfl (hb C.c_by hd) hfr (W := W) (cap := n) (by show 2 * 0 + _ ≤ _; omega) hl (by rw [hs]; exact Nat.le_refl _) hc hsl
  exact (k T' h' _ rfl X' e' ex ⟨cloneOf cl, A', hs, hn, hf⟩ D').back fun t kt => st t kt
theorem g_cast (q : Nat) (hq : pc + 3 = q) (C : Ctx p s m meth c Z own nm bytes ml rt) (X : Stand p l e R s m args below meth c T locs cells slots) {K : String} {i : Nat} {a : Addr} (w : (Cond.classLink own i K).before a0 Z = true) (eT : T.heap = h) (F : Ins Z h a K true) (hd : decode bytes pc = .ok (.checkcast i, 3))
    (k : ∀ T', Stand p l e R s m args below meth c T' locs cells slots → T'.heap = h → Goes p e below E T' m q Ls (.ref a :: St)) : Goes p e below E T m pc Ls (.ref a :: St) := by
  subst hq
  obtain ⟨T', X', e', st⟩ := castY X C.c_x C.c_z C.c_own w eT F (g := mkF m pc Ls (.ref a :: St)) rfl rfl (hb C.c_by hd)
  exact (k T' X' e').back fun t kt => st t kt
theorem own_fitB {x : Int32} (h0 : -128 ≤ x.toInt) (h1 : x.toInt < 128) : fits .byte (.int x) = true := by
  have e := own_narByte h0 h1
  rw [← e]; exact fits_nar_byte x

theorem g_callS (q : Nat) (hq : pc + 3 = q) (C : Ctx p s m meth c Z own nm bytes ml rt) (X : Stand p l e R s m args below meth c T locs cells slots) {y : MethodName} {bytes' : ByteArray} {maxL' : Nat} {ret' : Option FieldType} {rm : Room} {Q' : Option Value → Heap → List Loc → Prop} {i W : Nat} {argsL : List Value} (w1 : (Cond.methodLink own i y).before a0 Z = true) (w2 : (Cond.static y).before a0 Z = true) (wc : (Cond.code y bytes' maxL' ret').before a0 Z = true) (wz : (Cond.initialized y.cls).before a0 Z = true) (eT : T.heap = h) (M : MetFree l y (head1 [Cond.code y bytes' maxL' ret'] rm) (fun a' U => a' = argsL.toArray ∧ Z.Warmed39 U.vm ∧ U.heap = h) (fun _ _ _ _ _ => True) (fun _ U o U' => ∃ v L, o = .returned v ∧ Q' v U'.heap L ∧ FrameEnd U o U' L rm.cells rm.slots)) (hlen : ∀ sig, parseMethodDescriptor y.desc = some sig → argsL.length = sig.parameters.length) (hf : rm.frames + 1 ≤ R.frames) (hl : W + (maxL' + 11) + rm.locals ≤ R.locals) (hc : cells + rm.cells ≤ R.cells) (hsl : slots + rm.slots ≤ R.slots) (hsz : Ls.size = ml) (hW : (St.map fun v => v.category).sum ≤ W) (hy : y.cls ≠ "java/lang/invoke/MethodHandle" ∧ y.cls ≠ "java/lang/invoke/VarHandle") (hd : decode bytes pc = .ok (.invokestatic i, 3)) {St0 : List Value} (hst : St0 = argsL.reverse ++ St)
    (k : ∀ v T' L, Stand p l e R s m args below meth c T' (locs ++ L) (cells + rm.cells) (slots + rm.slots) → Q' v T'.heap L → Goes p e below E T' m q Ls (v.toList ++ St)) : Goes p e below E T m pc Ls St0 := by
  subst hq hst
  obtain ⟨v, _, ⟨T', L', k', n'⟩, -, X', ⟨Lc, hQ', l', y', z'⟩, st⟩ := Jvm.LawKit.callS X C.c_x (y := y) C.c_own (mvT C.c_z w1) (mvT C.c_z w2) (mvT C.c_z wz) (mvT C.c_z wc) hy (backOf (W := W) M C.c_z wc wz hf hl) (g := mkF m pc Ls (argsL.reverse ++ St)) rfl (hsz.trans C.c_ml.symm) (argsL := argsL) (rest := St) hlen rfl (by show 2 * 0 + _ ≤ _; omega) (hb C.c_by hd) (fun _ _ => ⟨rfl, eT, hc, hsl⟩)
  dsimp only [Pt.U, Pt.locs, Pt.cells, Pt.slots] at X' l' y' z' st hQ'
  subst l' y' z'
  exact (k v T' Lc X' hQ').back fun t kt => st t kt
theorem g_callN (q : Nat) (hq : pc + 3 = q) (C : Ctx p s m meth c Z own nm bytes ml rt) (X : Stand p l e R s m args below meth c T locs cells slots) {y : MethodName} {bytes' : ByteArray} {maxL' : Nat} {ret' : Option FieldType} {rm : Room} {Q' : Option Value → Heap → List Loc → Prop} {i W : Nat} {a : Addr} {argsL : List Value} (hy1 : y.name = "<init>") (hre : ret' = none) (w1 : (Cond.methodLink own i y).before a0 Z = true) (w2 : (Cond.instanceMethod y).before a0 Z = true) (wc : (Cond.code y bytes' maxL' ret').before a0 Z = true) (wz : (Cond.initialized y.cls).before a0 Z = true) (eT : T.heap = h) (M : MetFree l y (head1 [Cond.code y bytes' maxL' ret'] rm) (fun a' U => a' = (.ref a :: argsL).toArray ∧ Z.Warmed39 U.vm ∧ U.heap = h) (fun _ _ _ _ _ => True) (fun _ U o U' => ∃ v L, o = .returned v ∧ Q' v U'.heap L ∧ FrameEnd U o U' L rm.cells rm.slots)) (hlen : ∀ sig, parseMethodDescriptor y.desc = some sig → argsL.length = sig.parameters.length) (hf : rm.frames + 1 ≤ R.frames) (hl : W + (maxL' + 11) + rm.locals ≤ R.locals) (hc : cells + rm.cells ≤ R.cells) (hsl : slots + rm.slots ≤ R.slots) (hsz : Ls.size = ml) (hW : (St.map fun v => v.category).sum ≤ W) (hy : y.cls ≠ "java/lang/invoke/MethodHandle" ∧ y.cls ≠ "java/lang/invoke/VarHandle") (hd : decode bytes pc = .ok (.invokespecial i, 3)) {St0 : List Value} (hst : St0 = argsL.reverse ++ .ref a :: St)
    (k : ∀ v T' L, Stand p l e R s m args below meth c T' (locs ++ L) (cells + rm.cells) (slots + rm.slots) → Q' v T'.heap L → Goes p e below E T' m q Ls (v.toList ++ St)) : Goes p e below E T m pc Ls St0 := by
  subst hq hst hre
  obtain ⟨v, _, ⟨T', L', k', n'⟩, -, X', ⟨Lc, hQ', l', y', z'⟩, st⟩ := X.specialBack C.c_x (y := y) hy1 C.c_own (mvT C.c_z w1) (mvT C.c_z w2) (mvT C.c_z wc) hy (backOf (W := W) M C.c_z wc wz hf hl) (g := mkF m pc Ls (argsL.reverse ++ .ref a :: St)) rfl (hsz.trans C.c_ml.symm) (Steps.refl _) (a := a) (argsL := argsL) (rest := St) hlen rfl (by show 2 * 0 + _ ≤ _; omega) (hb C.c_by hd) (fun _ _ => ⟨rfl, eT, hc, hsl⟩)
  dsimp only [Pt.U, Pt.locs, Pt.cells, Pt.slots] at X' l' y' z' st hQ'
  subst l' y' z'
  exact (k v T' Lc X' hQ').back fun t kt => st.trans kt
theorem g_callV (q : Nat) (hq : pc + 3 = q) (C : Ctx p s m meth c Z own nm bytes ml rt) (X : Stand p l e R s m args below meth c T locs cells slots) {y : MethodName} {bytes' : ByteArray} {maxL' : Nat} {ret' : Option FieldType} {rm : Room} {Q' : Option Value → Heap → List Loc → Prop} {i W : Nat} {K : String} {a : Addr} {argsL : List Value} (w1 : (Cond.methodLink own i y).before a0 Z = true) (w2 : (Cond.declares y).before a0 Z = true) (w3 : (Cond.selects K y y).before a0 Z = true) (w4 : (Cond.instanceMethod y).before a0 Z = true) (wc : (Cond.code y bytes' maxL' ret').before a0 Z = true) (wz : (Cond.initialized y.cls).before a0 Z = true) (eT : T.heap = h) (EX : Exa Z h a K) (M : MetFree l y (head1 [Cond.code y bytes' maxL' ret'] rm) (fun a' U => a' = (.ref a :: argsL).toArray ∧ Z.Warmed39 U.vm ∧ U.heap = h) (fun _ _ _ _ _ => True) (fun _ U o U' => ∃ v L, o = .returned v ∧ Q' v U'.heap L ∧ FrameEnd U o U' L rm.cells rm.slots)) (hlen : ∀ sig, parseMethodDescriptor y.desc = some sig → argsL.length = sig.parameters.length) (hf : rm.frames + 1 ≤ R.frames) (hl : W + (maxL' + 11) + rm.locals ≤ R.locals) (hc : cells + rm.cells ≤ R.cells) (hsl : slots + rm.slots ≤ R.slots) (hsz : Ls.size = ml) (hW : (St.map fun v => v.category).sum ≤ W) (hy : y.cls ≠ "java/lang/invoke/MethodHandle" ∧ y.cls ≠ "java/lang/invoke/VarHandle") (hd : decode bytes pc = .ok (.invokevirtual i, 3)) {St0 : List Value} (hst : St0 = argsL.reverse ++ .ref a :: St)
    (k : ∀ v T' L, Stand p l e R s m args below meth c T' (locs ++ L) (cells + rm.cells) (slots + rm.slots) → Q' v T'.heap L → Goes p e below E T' m q Ls (v.toList ++ St)) : Goes p e below E T m pc Ls St0 := by
  subst hq hst
  obtain ⟨cB, kB, q1, q2, q3⟩ := isOf C.c_z eT EX
  obtain ⟨v, _, ⟨T', L', k', n'⟩, -, X', ⟨Lc, hQ', l', y', z'⟩, st⟩ := X.virtualBack C.c_x (y := y) (z := y) C.c_own (mvT C.c_z w1) (mvT C.c_z w2) (notFace_of_selects (args := #[]) (mvT C.c_z w3)) (mvT C.c_z w3) (mvT C.c_z w4) hy (backOf (W := W) M C.c_z wc wz hf hl) q1 q3 (g := mkF m pc Ls (argsL.reverse ++ .ref a :: St)) rfl (hsz.trans C.c_ml.symm) (Steps.refl _) (argsL := argsL) (rest := St) hlen rfl (by show 2 * 0 + _ ≤ _; omega) (hb C.c_by hd) (fun _ _ => ⟨rfl, eT, hc, hsl⟩)
  dsimp only [Pt.U, Pt.locs, Pt.cells, Pt.slots] at X' l' y' z' st hQ'
  subst l' y' z'
  exact (k v T' Lc X' hQ').back fun t kt => st.trans kt
end Own
section OwnWide
variable {p : Program} {l : Launch} {e : Env} {R : Room} {s : State} {m : MethodId} {args : Array Value} {below : List Frame} {meth : Method} {c : Code} {T : State} {locs : List Loc} {cells slots : Nat} {Z : State} {a0 : Array Value} {h : Heap} {own nm : String} {bytes : ByteArray} {ml : Nat} {rt : Option FieldType} {Q : Option Value → Heap → List Loc → Prop} {CC SS : Nat} {E : Outcome → State → Prop} {pc : Nat} {Ls : Array Slot} {St : List Value}
variable {vm0 : Vm} {k0 : Nat}
def EndW (s : State) (Q : Option Value → Heap → List Loc → Prop) (CC SS : Nat) (o : Outcome) (t : State) : Prop := ∃ v L, o = .returned v ∧ Q v t.heap L ∧ ReturnedEndW s o t L CC SS
theorem Goes.enterW {g : JFrame} (hg : g = mkF m 0 Ls []) (k : Goes p e below (EndW s Q CC SS) T m 0 Ls []) : ∃ s₂ o, Steps p.tables e below (T.setTop g) s₂ ∧ s₂.status = .running ∧ Ended s₂ below o ∧ ∃ v L, o = .returned v ∧ Q v s₂.heap L ∧ ReturnedEndW s o s₂ L CC SS := by
  subst hg
  exact k
theorem Ctx.to (C : Ctx p (s.setVm vm0) m meth c Z own nm bytes ml rt) {vm1 : Vm} (hZ : Z.Warmed39 (s.setVm vm1).vm) (ho : (s.setVm vm1).vm.findClass own = some m.cls) : Ctx p (s.setVm vm1) m meth c Z own nm bytes ml rt :=
  ⟨C.c_x, hZ, C.c_by, C.c_ml, ho, C.c_lk, C.c_rt, C.c_nm⟩
theorem w_ldcS (q : Nat) (hq : pc + 2 = q) (C : Ctx p (s.setVm vm0) m meth c Z own nm bytes ml rt) (X : Stand p l e R (s.setVm vm0) m args below meth c T locs cells slots) (hS : s.Since vm0 k0) (hk : k0 ≤ T.heap.size) {i : Nat} {text : String} (w : (Cond.stringLink own i text).before a0 Z = true) (wS : ∀ a ∈ Bundle.stringAtoms, a.before a0 Z = true) (eT : T.heap = h) (hd : decode bytes pc = .ok (.ldc i, 2)) (n : Nat) (hn : 4 * text.toList.length ≤ n) (hbig : n ≤ 536870912) (hc : cells + 2 ≤ R.cells) (hl : slots + (n + 4) ≤ R.slots)
    (k : ∀ a T' h' k1, Ctx p (s.setVm T'.vm) m meth c Z own nm bytes ml rt → Stand p l e R (s.setVm T'.vm) m args below meth c T' locs (cells + 2) (slots + (n + 4)) → T'.heap = h' → Ext h h' → s.Since T'.vm k1 → k1 ≤ T'.heap.size → Goes p e below E T' m q Ls (.ref a :: St)) : Goes p e below E T m pc Ls St := by
  subst hq
  obtain ⟨a, T', h', k1, X', e', E', S', hk', hZ', ho', st⟩ := ldcS X C.c_x C.c_z C.c_own w wS eT hS (by rw [← eT]; exact hk) (g := mkF m pc Ls St) rfl (hb C.c_by hd) hn hbig hc hl
  exact (k a T' h' k1 (C.to hZ' ho') X' e' E' S' (by rw [e']; exact hk')).back fun t kt => st t kt
theorem w_retW (C : Ctx p (s.setVm vm0) m meth c Z own nm bytes ml rt) (X : Stand p l e R (s.setVm vm0) m args below meth c T locs cells slots) (hS : s.Since vm0 k0) (hk : k0 ≤ T.heap.size) {w : Value} {t : FieldType} {i : Instr} (hrt : rt = some t) (hn : narrow t w = w)
    (hi : (i = .ireturn ∧ (t = .int ∨ t = .boolean ∨ t = .byte ∨ t = .char ∨ t = .short) ∧ ∃ z, w = .int z) ∨ (i = .lreturn ∧ t = .long ∧ ∃ z, w = .long z) ∨ (i = .dreturn ∧ t = .double ∧ ∃ z, w = .double z) ∨ (i = .freturn ∧ t = .float ∧ ∃ z, w = .float z) ∨ (i = .areturn ∧ t.isReference = true ∧ w.isRef = true))
    (hd : decode bytes pc = .ok (i, 1)) (eT : T.heap = h) (hc : cells ≤ CC) (hs : slots ≤ SS) (hQ : Q (some w) h locs) : Goes p e below (EndW s Q CC SS) T m pc Ls (w :: St) := by
  obtain ⟨fs, hr, hrun, hended, h1, h2, h3, h4⟩ := X.leaveW hS hk (v := some w) (fun r => by rw [C.c_rt, hrt] at r; cases r) C.c_lk
  subst eT
  exact ⟨_, _, retOut X C.c_x (C.c_rt.trans hrt) hn hi (hb C.c_by hd) hr, hrun, hended, _, _, rfl, hQ, h1, h2, h3, h4.mono hc hs⟩
theorem w_retA (C : Ctx p (s.setVm vm0) m meth c Z own nm bytes ml rt) (X : Stand p l e R (s.setVm vm0) m args below meth c T locs cells slots) (hS : s.Since vm0 k0) (hk : k0 ≤ T.heap.size) {w : Value} {t : FieldType} (hrt : rt = some t) (ht : t.isReference = true) (hw : w.isRef = true) (hn : narrow t w = w) (hd : decode bytes pc = .ok (.areturn, 1)) (eT : T.heap = h) (hc : cells ≤ CC) (hs : slots ≤ SS) (hQ : Q (some w) h locs) : Goes p e below (EndW s Q CC SS) T m pc Ls (w :: St) :=
  w_retW C X hS hk hrt hn (Or.inr (Or.inr (Or.inr (Or.inr ⟨rfl, ht, hw⟩)))) hd eT hc hs hQ
theorem w_retN (C : Ctx p (s.setVm vm0) m meth c Z own nm bytes ml rt) (X : Stand p l e R (s.setVm vm0) m args below meth c T locs cells slots) (hS : s.Since vm0 k0) (hk : k0 ≤ T.heap.size) {z z' : Int32} {t : FieldType} (hrt : rt = some t) (ht : t = .boolean ∨ t = .byte ∨ t = .char ∨ t = .short) (hd : decode bytes pc = .ok (.ireturn, 1)) (eT : T.heap = h) (hc : cells ≤ CC) (hs : slots ≤ SS) (hz : nar t z = z') (hQ : Q (some (.int z')) h locs) : Goes p e below (EndW s Q CC SS) T m pc Ls (.int z :: St) := by
  obtain ⟨fs, hr, hrun, hended, h1, h2, h3, h4⟩ := X.leaveW hS hk (v := some (.int (nar t z))) (fun r => by rw [C.c_rt, hrt] at r; cases r) C.c_lk
  subst eT
  subst hz
  exact ⟨_, _, retN X C.c_x (C.c_rt.trans hrt) ht (hb C.c_by hd) hr, hrun, hended, _, _, rfl, hQ, h1, h2, h3, h4.mono hc hs⟩
theorem w_retV (C : Ctx p (s.setVm vm0) m meth c Z own nm bytes ml rt) (X : Stand p l e R (s.setVm vm0) m args below meth c T locs cells slots) (hS : s.Since vm0 k0) (hk : k0 ≤ T.heap.size) (hrt : rt = none) (hd : decode bytes pc = .ok (.return_, 1)) (eT : T.heap = h) (hc : cells ≤ CC) (hs : slots ≤ SS) (hQ : Q none h locs) : Goes p e below (EndW s Q CC SS) T m pc Ls [] := by
  obtain ⟨fs, hr, hrun, hended, h1, h2, h3, h4⟩ := X.leaveW hS hk (v := none) (fun _ => rfl) C.c_lk
  subst eT
  exact ⟨_, _, X.returnOut C.c_x (C.c_rt.trans hrt) (hb C.c_by hd) hr, hrun, hended, _, _, rfl, hQ, h1, h2, h3, h4.mono hc hs⟩
theorem w_callS (q : Nat) (hq : pc + 3 = q) (C : Ctx p (s.setVm vm0) m meth c Z own nm bytes ml rt) (X : Stand p l e R (s.setVm vm0) m args below meth c T locs cells slots) (hS : s.Since vm0 k0) (hk : k0 ≤ T.heap.size) {y : MethodName} {bytes' : ByteArray} {maxL' : Nat} {ret' : Option FieldType} {rm : Room} {Q' : Option Value → Heap → List Loc → Prop} {i W : Nat} {argsL : List Value} (w1 : (Cond.methodLink own i y).before a0 Z = true) (w2 : (Cond.static y).before a0 Z = true) (wc : (Cond.code y bytes' maxL' ret').before a0 Z = true) (wz : (Cond.initialized y.cls).before a0 Z = true) (eT : T.heap = h) (M : MetFree l y (head1 [Cond.code y bytes' maxL' ret'] rm) (fun a' U => a' = argsL.toArray ∧ Z.Warmed39 U.vm ∧ U.heap = h) (fun _ _ _ _ _ => True) (fun _ U o U' => ∃ v L, o = .returned v ∧ Q' v U'.heap L ∧ ReturnedEndW U o U' L rm.cells rm.slots)) (hlen : ∀ sig, parseMethodDescriptor y.desc = some sig → argsL.length = sig.parameters.length) (hf : rm.frames + 1 ≤ R.frames) (hl : W + (maxL' + 11) + rm.locals ≤ R.locals) (hc : cells + rm.cells ≤ R.cells) (hsl : slots + rm.slots ≤ R.slots) (hsz : Ls.size = ml) (hW : (St.map fun v => v.category).sum ≤ W) (hy : y.cls ≠ "java/lang/invoke/MethodHandle" ∧ y.cls ≠ "java/lang/invoke/VarHandle") (hd : decode bytes pc = .ok (.invokestatic i, 3)) {St0 : List Value} (hst : St0 = argsL.reverse ++ St)
    (k : ∀ v T' L k1, Ctx p (s.setVm T'.vm) m meth c Z own nm bytes ml rt → Stand p l e R (s.setVm T'.vm) m args below meth c T' (locs ++ L) (cells + rm.cells) (slots + rm.slots) → s.Since T'.vm k1 → k1 ≤ T'.heap.size → Q' v T'.heap L → Goes p e below E T' m q Ls (v.toList ++ St)) : Goes p e below E T m pc Ls St0 := by
  subst hq hst
  obtain ⟨v, _, ⟨T', L', k', n'⟩, -, X', S', g', ⟨Lc, hQ', l', y', z'⟩, st⟩ := callSS X C.c_x (y := y) C.c_own (mvT C.c_z w1) (mvT C.c_z w2) (mvT C.c_z wz) (mvT C.c_z wc) hy (backOfS (W := W) M C.c_z wc wz hf hl) (g := mkF m pc Ls (argsL.reverse ++ St)) rfl (hsz.trans C.c_ml.symm) (argsL := argsL) (rest := St) hlen rfl (by show 2 * 0 + _ ≤ _; omega) (hb C.c_by hd) (fun _ _ => ⟨rfl, eT, hc, hsl⟩)
  dsimp only [Pt.U, Pt.locs, Pt.cells, Pt.slots] at X' l' y' z' st hQ' S' g'
  subst l' y' z'
  obtain ⟨X2, S2, hZ2, ho2⟩ := rebS hS hk X' S' g' C.c_z C.c_own
  exact (k v T' Lc _ (C.to hZ2 ho2) X2 S2 (Nat.le_refl _) hQ').back fun t kt => st.trans kt
theorem w_callN (q : Nat) (hq : pc + 3 = q) (C : Ctx p (s.setVm vm0) m meth c Z own nm bytes ml rt) (X : Stand p l e R (s.setVm vm0) m args below meth c T locs cells slots) (hS : s.Since vm0 k0) (hk : k0 ≤ T.heap.size) {y : MethodName} {bytes' : ByteArray} {maxL' : Nat} {ret' : Option FieldType} {rm : Room} {Q' : Option Value → Heap → List Loc → Prop} {i W : Nat} {a : Addr} {argsL : List Value} (hy1 : y.name = "<init>") (hre : ret' = none) (w1 : (Cond.methodLink own i y).before a0 Z = true) (w2 : (Cond.instanceMethod y).before a0 Z = true) (wc : (Cond.code y bytes' maxL' ret').before a0 Z = true) (wz : (Cond.initialized y.cls).before a0 Z = true) (eT : T.heap = h) (M : MetFree l y (head1 [Cond.code y bytes' maxL' ret'] rm) (fun a' U => a' = (.ref a :: argsL).toArray ∧ Z.Warmed39 U.vm ∧ U.heap = h) (fun _ _ _ _ _ => True) (fun _ U o U' => ∃ v L, o = .returned v ∧ Q' v U'.heap L ∧ ReturnedEndW U o U' L rm.cells rm.slots)) (hlen : ∀ sig, parseMethodDescriptor y.desc = some sig → argsL.length = sig.parameters.length) (hf : rm.frames + 1 ≤ R.frames) (hl : W + (maxL' + 11) + rm.locals ≤ R.locals) (hc : cells + rm.cells ≤ R.cells) (hsl : slots + rm.slots ≤ R.slots) (hsz : Ls.size = ml) (hW : (St.map fun v => v.category).sum ≤ W) (hy : y.cls ≠ "java/lang/invoke/MethodHandle" ∧ y.cls ≠ "java/lang/invoke/VarHandle") (hd : decode bytes pc = .ok (.invokespecial i, 3)) {St0 : List Value} (hst : St0 = argsL.reverse ++ .ref a :: St)
    (k : ∀ v T' L k1, Ctx p (s.setVm T'.vm) m meth c Z own nm bytes ml rt → Stand p l e R (s.setVm T'.vm) m args below meth c T' (locs ++ L) (cells + rm.cells) (slots + rm.slots) → s.Since T'.vm k1 → k1 ≤ T'.heap.size → Q' v T'.heap L → Goes p e below E T' m q Ls (v.toList ++ St)) : Goes p e below E T m pc Ls St0 := by
  subst hq hst hre
  obtain ⟨v, _, ⟨T', L', k', n'⟩, -, X', S', g', ⟨Lc, hQ', l', y', z'⟩, st⟩ := X.specialBackS C.c_x (y := y) hy1 C.c_own (mvT C.c_z w1) (mvT C.c_z w2) (mvT C.c_z wc) hy (backOfS (W := W) M C.c_z wc wz hf hl) (g := mkF m pc Ls (argsL.reverse ++ .ref a :: St)) rfl (hsz.trans C.c_ml.symm) (Steps.refl _) (a := a) (argsL := argsL) (rest := St) hlen rfl (by show 2 * 0 + _ ≤ _; omega) (hb C.c_by hd) (fun _ _ => ⟨rfl, eT, hc, hsl⟩)
  dsimp only [Pt.U, Pt.locs, Pt.cells, Pt.slots] at X' l' y' z' st hQ' S' g'
  subst l' y' z'
  obtain ⟨X2, S2, hZ2, ho2⟩ := rebS hS hk X' S' g' C.c_z C.c_own
  exact (k v T' Lc _ (C.to hZ2 ho2) X2 S2 (Nat.le_refl _) hQ').back fun t kt => st.trans kt
end OwnWide
section OwnArith
theorem own_mulc (x y : Int32) (k : Int) (hk : y.toInt = k) : ((x * y).toInt - x.toInt * k) % 4294967296 = 0 := hk ▸ c_imul x y
theorem own_mulc' (x y : Int32) (k : Int) (hk : x.toInt = k) : ((x * y).toInt - k * y.toInt) % 4294967296 = 0 := hk ▸ c_imul x y
theorem own_lmulc (x y : Int64) (k : Int) (hk : y.toInt = k) : ((x * y).toInt - x.toInt * k) % 18446744073709551616 = 0 := hk ▸ c_lmul x y
theorem own_lmulc' (x y : Int64) (k : Int) (hk : x.toInt = k) : ((x * y).toInt - k * y.toInt) % 18446744073709551616 = 0 := hk ▸ c_lmul x y
theorem own_bvor (x y : BitVec 32) : (x ||| y) + (x &&& y) = x + y := by
  have h1 : x = (x &&& y) + (x &&& ~~~y) := by
    rw [BitVec.add_eq_or_of_and_eq_zero]
    · ext i; simp; cases x[i] <;> cases y[i] <;> rfl
    · ext i; simp; cases x[i] <;> cases y[i] <;> simp
  have h2 : x ||| y = y + (x &&& ~~~y) := by
    rw [BitVec.add_eq_or_of_and_eq_zero]
    · ext i; simp; cases x[i] <;> cases y[i] <;> rfl
    · ext i; simp; cases x[i] <;> cases y[i] <;> simp
  rw [h2]
  conv => rhs; rw [h1]
  ac_rfl
theorem own_or0 (x y : Int32) : (x ||| y) + (x &&& y) = x + y := Int32.toBitVec_inj.mp (by simpa using own_bvor x.toBitVec y.toBitVec)
theorem own_or (x y : Int32) : ((x ||| y).toInt + (x &&& y).toInt - (x.toInt + y.toInt)) % 4294967296 = 0 := by
  have h1 := c_iadd (x ||| y) (x &&& y)
  have h2 := c_iadd x y
  rw [own_or0] at h1; omega
theorem own_bvblk (x m a b : BitVec 32) (h1 : m ||| a = b) (h2 : m &&& a = 0#32) : (x &&& m) + (x &&& a) = x &&& b := by
  rw [BitVec.add_eq_or_of_and_eq_zero, ← h1]
  · ext i; simp; cases x[i] <;> simp
  · have : (x &&& m) &&& (x &&& a) = x &&& (m &&& a) := by ext i; simp; cases x[i] <;> simp
    rw [this, h2]; simp
theorem own_blk (x m a b : Int32) (h1 : m ||| a = b) (h2 : m &&& a = 0) : ((x &&& m).toInt + (x &&& a).toInt - (x &&& b).toInt) % 4294967296 = 0 := by
  have e : (x &&& m) + (x &&& a) = x &&& b := Int32.toBitVec_inj.mp (by
    have q1 := congrArg Int32.toBitVec h1
    have q2 := congrArg Int32.toBitVec h2
    simpa using own_bvblk x.toBitVec m.toBitVec a.toBitVec b.toBitVec (by simpa using q1) (by simpa using q2))
  have := c_iadd (x &&& m) (x &&& a)
  rw [e] at this; omega
theorem own_andM1 (x : Int32) : x &&& (-1) = x := Int32.toBitVec_inj.mp (by ext i; simp)
theorem own_narZ {b : Int32} (hb : b.toInt = 0 ∨ b.toInt = 1) : nar .boolean b = b := by
  have : b = 0 ∨ b = 1 := by
    rcases hb with q | q
    · exact Or.inl (Int32.toInt_inj.mp q)
    · exact Or.inr (Int32.toInt_inj.mp q)
  rcases this with rfl | rfl <;> decide
theorem own_narC {b : Int32} (h0 : 0 ≤ b.toInt) (h1 : b.toInt < 65536) : nar .char b = b := by
  have := c_i2c b
  exact Int32.toInt_inj.mp (by show b.toUInt32.toUInt16.toUInt32.toInt32.toInt = _; omega)
theorem own_narB {b : Int32} (h0 : -128 ≤ b.toInt) (h1 : b.toInt < 128) : nar .byte b = b := by
  have := c_i2b b
  exact Int32.toInt_inj.mp (by show b.toInt8.toInt32.toInt = _; omega)
theorem own_eq {x y : Int32} (q : x.toInt = y.toInt) : x = y := Int32.toInt_inj.mp q
theorem own_eqL {x y : Int64} (q : x.toInt = y.toInt) : x = y := Int64.toInt_inj.mp q
end OwnArith


theorem own_strA {Z : State} (a0 : Array Value) (hw : ∀ d ∈ tables_1, d.before a0 Z = true) : ∀ a ∈ Bundle.stringAtoms, a.before a0 Z = true := by
  intro d hd
  simp only [Bundle.stringAtoms, List.mem_cons, List.not_mem_nil, or_false] at hd
  rcases hd with rfl | rfl | rfl | rfl | rfl | rfl | rfl
  · exact (hw _ (List.mem_of_getElem? (i := 27) rfl))
  · exact (hw _ (List.mem_of_getElem? (i := 28) rfl))
  · exact (hw _ (List.mem_of_getElem? (i := 29) rfl))
  · exact (hw _ (List.mem_of_getElem? (i := 30) rfl))
  · exact (hw _ (List.mem_of_getElem? (i := 31) rfl))
  · exact (hw _ (List.mem_of_getElem? (i := 32) rfl))
  · exact (hw _ (List.mem_of_getElem? (i := 33) rfl))
theorem d2_0 : decode jdk_30_method_1_code 0 = .ok (.aload_n 0, 1) := by decide +kernel
theorem d2_1 : decode jdk_30_method_1_code 1 = .ok (.invokespecial 1, 3) := by decide +kernel
theorem d2_4 : decode jdk_30_method_1_code 4 = .ok (.return_, 1) := by decide +kernel
theorem pn_16976308 : plainName "java/lang/Record" = true := by first | (simp [plainName, overriddenIn]; done) | decide +kernel
theorem ef_2 (m : MethodId) (b0 : Addr) : entryFrame m #[(.ref b0)] 1 = mkF m 0 #[.val (.ref b0)] [] := by first | (simp [entryFrame, mkF, argsToLocals, Value.category]; done) | rfl
def Q2 (Z : State) (b0 : Addr) (h0 : Heap) (n0 : Nat) (v : Option Value) (h : Heap) (L : List Loc) : Prop := v = none ∧ Fr n0 L ∧ h = h0
set_option maxRecDepth 65536 in
set_option maxHeartbeats 40000000 in
theorem rm2 (l : Launch) (Z : State) (a0 : Array Value) (hw : ∀ d ∈ tables_1, d.before a0 Z = true) (ws : List Jvm.Cond) (b0 : Addr) (h0 : Heap) (n0 : Nat) (Z0 : n0 ≤ h0.size) :
    MetFree l (⟨"java/lang/Record", "<init>", "()V"⟩ : MethodName) (head1 (Jvm.Cond.code (⟨"java/lang/Record", "<init>", "()V"⟩ : MethodName) jdk_30_method_1_code 1 none :: ws) ({ frames := 1, cells := 0, slots := 0, locals := 12 } : Room)) (fun a U => a = #[(.ref b0)] ∧ Z.Warmed39 U.vm ∧ U.heap = h0) (fun _ _ _ _ _ => True) (fun _ U o U' => ∃ v L, o = .returned v ∧ Q2 Z b0 h0 n0 v U'.heap L ∧ FrameEnd U o U' L ({ frames := 1, cells := 0, slots := 0, locals := 12 } : Room).cells ({ frames := 1, cells := 0, slots := 0, locals := 12 } : Room).slots) := by
  refine MetFree.of_bodySF (plainFor_of_name pn_16976308) hisR ?_
  intro p e s m args below meth c s₁ Bd hml0 hP hK
  obtain ⟨rfl, hZ, hh⟩ := hP
  have C : Ctx p s m meth c Z "java/lang/Record" "<init>" jdk_30_method_1_code 1 none := Ctx.of Bd hml0 hZ
  have X0 : Stand p l e ({ frames := 1, cells := 0, slots := 0, locals := 12 } : Room) s m #[(.ref b0)] below meth c s₁ [] 0 0 := Stand.of_body Bd
  have e0 : s₁.heap = h0 := by rw [← hh, Bd.state]; rfl
  have N0 := Fr.nil n0
  refine Goes.enter (ef_2 m b0) ?_
  clear hK hml0 hh
  refine g_aloadN 1 rfl C X0 d2_0 rfl rfl ?_
  refine g_initO 4 rfl C X0 (hw _ (List.mem_of_getElem? (i := 15) rfl)) (hw _ (List.mem_of_getElem? (i := 16) rfl)) (hw _ (List.mem_of_getElem? (i := 17) rfl)) e0 d2_1 rfl (by decide) (W := 0) (Nat.le_of_eq rfl) (by decide) fun T1 X2 e3 => ?_
  exact g_retV C X2 rfl d2_4 e3 (by decide) (by decide) ⟨rfl, N0, rfl⟩
theorem d1_0 : decode prog_19_method_1_code 0 = .ok (.aload_n 0, 1) := by decide +kernel
theorem d1_1 : decode prog_19_method_1_code 1 = .ok (.invokespecial 3, 3) := by decide +kernel
theorem pd_16428534 : parseMethodDescriptor "()V" = some ⟨[], none⟩ := by decide +kernel
theorem d1_4 : decode prog_19_method_1_code 4 = .ok (.iload_n 1, 1) := by decide +kernel
theorem d1_5 : decode prog_19_method_1_code 5 = .ok (.iconst 1, 1) := by decide +kernel
theorem d1_6 : decode prog_19_method_1_code 6 = .ok (.if_icmp .lt 9, 3) := by decide +kernel
theorem d1_9 : decode prog_19_method_1_code 9 = .ok (.iload_n 1, 1) := by decide +kernel
theorem d1_10 : decode prog_19_method_1_code 10 = .ok (.bipush 8, 2) := by decide +kernel
theorem d1_12 : decode prog_19_method_1_code 12 = .ok (.if_icmp .le 17, 3) := by decide +kernel
theorem d1_29 : decode prog_19_method_1_code 29 = .ok (.iload_n 2, 1) := by decide +kernel
theorem d1_30 : decode prog_19_method_1_code 30 = .ok (.iconst 1, 1) := by decide +kernel
theorem d1_31 : decode prog_19_method_1_code 31 = .ok (.if_icmp .lt 9, 3) := by decide +kernel
theorem d1_34 : decode prog_19_method_1_code 34 = .ok (.iload_n 2, 1) := by decide +kernel
theorem d1_35 : decode prog_19_method_1_code 35 = .ok (.ldc 18, 2) := by decide +kernel
theorem d1_37 : decode prog_19_method_1_code 37 = .ok (.if_icmp .le 17, 3) := by decide +kernel
theorem d1_54 : decode prog_19_method_1_code 54 = .ok (.aload_n 0, 1) := by decide +kernel
theorem d1_55 : decode prog_19_method_1_code 55 = .ok (.iload_n 1, 1) := by decide +kernel
theorem d1_56 : decode prog_19_method_1_code 56 = .ok (.putfield 20, 3) := by decide +kernel
theorem d1_59 : decode prog_19_method_1_code 59 = .ok (.aload_n 0, 1) := by decide +kernel
theorem d1_60 : decode prog_19_method_1_code 60 = .ok (.iload_n 2, 1) := by decide +kernel
theorem d1_61 : decode prog_19_method_1_code 61 = .ok (.putfield 24, 3) := by decide +kernel
theorem d1_64 : decode prog_19_method_1_code 64 = .ok (.return_, 1) := by decide +kernel
theorem pn_75164168 : plainName "com/example/vaglio/vaglio/filter/FilterShape" = true := by first | (simp [plainName, overriddenIn]; done) | decide +kernel
theorem ef_1 (m : MethodId) (b0 : Addr) (p1 : Int32) (p2 : Int32) : entryFrame m #[(.ref b0), (.int p1), (.int p2)] 3 = mkF m 0 #[.val (.ref b0), .val (.int p1), .val (.int p2)] [] := by first | (simp [entryFrame, mkF, argsToLocals, Value.category]; done) | rfl
def Q1 (Z : State) (b0 : Addr) (p1 : Int32) (p2 : Int32) (h0 : Heap) (n0 : Nat) (v : Option Value) (h : Heap) (L : List Loc) : Prop := v = none ∧ Fr n0 L ∧ Keep h0 h [b0] ∧ Exa Z h b0 "com/example/vaglio/vaglio/filter/FilterShape" ∧ Fld Z h b0 "com/example/vaglio/vaglio/filter/FilterShape" "hashes" "I" (.int p1) ∧ Fld Z h b0 "com/example/vaglio/vaglio/filter/FilterShape" "rows" "I" (.int p2)
set_option maxRecDepth 65536 in
set_option maxHeartbeats 40000000 in
theorem rm1 (l : Launch) (Z : State) (a0 : Array Value) (hw : ∀ d ∈ tables_1, d.before a0 Z = true) (ws : List Jvm.Cond) (b0 : Addr) (p1 : Int32) (p2 : Int32) (h0 : Heap) (n0 : Nat) (Z0 : n0 ≤ h0.size) (E_b0 : Exa Z h0 b0 "com/example/vaglio/vaglio/filter/FilterShape") (F_b0_hashes : Fld Z h0 b0 "com/example/vaglio/vaglio/filter/FilterShape" "hashes" "I" (.int (0 : Int32))) (F_b0_rows : Fld Z h0 b0 "com/example/vaglio/vaglio/filter/FilterShape" "rows" "I" (.int (0 : Int32))) (g_b0 : n0 ≤ b0) (q1 : 1 ≤ p1.toInt ∧ p1.toInt ≤ 8) (q2 : 1 ≤ p2.toInt ∧ p2.toInt ≤ 1024) :
    MetFree l (⟨"com/example/vaglio/vaglio/filter/FilterShape", "<init>", "(II)V"⟩ : MethodName) (head1 (Jvm.Cond.code (⟨"com/example/vaglio/vaglio/filter/FilterShape", "<init>", "(II)V"⟩ : MethodName) prog_19_method_1_code 3 none :: ws) ({ frames := 2, cells := 0, slots := 0, locals := 24 } : Room)) (fun a U => a = #[(.ref b0), (.int p1), (.int p2)] ∧ Z.Warmed39 U.vm ∧ U.heap = h0) (fun _ _ _ _ _ => True) (fun _ U o U' => ∃ v L, o = .returned v ∧ Q1 Z b0 p1 p2 h0 n0 v U'.heap L ∧ FrameEnd U o U' L ({ frames := 2, cells := 0, slots := 0, locals := 24 } : Room).cells ({ frames := 2, cells := 0, slots := 0, locals := 24 } : Room).slots) := by
  refine MetFree.of_bodySF (plainFor_of_name pn_75164168) hisR ?_
  intro p e s m args below meth c s₁ Bd hml0 hP hK
  obtain ⟨rfl, hZ, hh⟩ := hP
  have C : Ctx p s m meth c Z "com/example/vaglio/vaglio/filter/FilterShape" "<init>" prog_19_method_1_code 3 none := Ctx.of Bd hml0 hZ
  have X0 : Stand p l e ({ frames := 2, cells := 0, slots := 0, locals := 24 } : Room) s m #[(.ref b0), (.int p1), (.int p2)] below meth c s₁ [] 0 0 := Stand.of_body Bd
  have e0 : s₁.heap = h0 := by rw [← hh, Bd.state]; rfl
  have N0 := Fr.nil n0
  refine Goes.enter (ef_1 m b0 p1 p2) ?_
  clear hK hml0 hh
  refine g_aloadN 1 rfl C X0 d1_0 rfl rfl ?_
  refine g_callN 4 rfl C X0 (argsL := []) rfl rfl (hw _ (List.mem_of_getElem? (i := 10) rfl)) (hw _ (List.mem_of_getElem? (i := 11) rfl)) (hw _ (List.mem_of_getElem? (i := 14) rfl)) (hw _ (List.mem_of_getElem? (i := 13) rfl)) e0 (rm2 l Z a0 hw [] b0 h0 n0 Z0) (lenOf pd_16428534 rfl) (by decide) (by decide) (by decide) (by decide) rfl (W := 0) (Nat.le_of_eq rfl) (by decide) d1_1 rfl fun r1 T2 Lc3 X4 hQ5 => ?_
  obtain ⟨rfl, Nq6, eh7⟩ := hQ5
  have N8 := Fr.app N0 Nq6
  show Goes _ _ _ _ _ _ 4 _ []
  refine g_iloadN 5 rfl C X4 d1_4 rfl ?_
  refine g_iconst 6 rfl C X4 (1 : Int32) d1_5 rfl ?_
  have fr9 := rng32 p1
  have fc10 : (1 : Int32).toInt = 1 := rfl
  have hb11 : ¬ (p1.toInt < (1 : Int32).toInt) := by omega
  refine g_icmp_lt_f 9 rfl C X4 d1_6 hb11 ?_
  refine g_iloadN 10 rfl C X4 d1_9 rfl ?_
  refine g_bipush 12 rfl C X4 (8 : Int32) d1_10 rfl ?_
  have fc12 : (8 : Int32).toInt = 8 := rfl
  have hb13 : ¬ ((8 : Int32).toInt < p1.toInt) := by omega
  refine g_icmp_le_t 29 C X4 d1_12 (by decide) (by decide) hb13 ?_
  refine g_iloadN 30 rfl C X4 d1_29 rfl ?_
  refine g_iconst 31 rfl C X4 (1 : Int32) d1_30 rfl ?_
  have fr14 := rng32 p2
  have hb15 : ¬ (p2.toInt < (1 : Int32).toInt) := by omega
  refine g_icmp_lt_f 34 rfl C X4 d1_31 hb15 ?_
  refine g_iloadN 35 rfl C X4 d1_34 rfl ?_
  refine g_ldc 37 rfl C X4 (hw _ (List.mem_of_getElem? (i := 18) rfl)) d1_35 ?_
  have fc16 : (4194304 : Int32).toInt = 4194304 := rfl
  have hb17 : ¬ ((4194304 : Int32).toInt < p2.toInt) := by omega
  refine g_icmp_le_t 54 C X4 d1_37 (by decide) (by decide) hb17 ?_
  refine g_aloadN 55 rfl C X4 d1_54 rfl rfl ?_
  refine g_iloadN 56 rfl C X4 d1_55 rfl ?_
  refine g_putF 59 rfl C X4 (host := "") (Or.inl (hw _ (List.mem_of_getElem? (i := 19) rfl))) Via.refl eh7 F_b0_hashes E_b0 (Or.inr ⟨(hw _ (List.mem_of_getElem? (i := 20) rfl)), rfl, rfl⟩) (hw _ (List.mem_of_getElem? (i := 5) rfl)) (ty := .int) (by decide) rfl rfl d1_56 N8 g_b0 fun T18 h19 ls20 X21 e22 W23 N24 => ?_
  have F25 : Fld Z h19 b0 "com/example/vaglio/vaglio/filter/FilterShape" "hashes" "I" (.int p1) := F_b0_hashes.same W23
  have F26 := E_b0.wr W23
  have F27 := F_b0_rows.other W23 (Or.inr (slot_ne (Or.inr (hw _ (List.mem_of_getElem? (i := 22) rfl))) (Or.inr (hw _ (List.mem_of_getElem? (i := 20) rfl))) (by decide) (t := .int) (t' := .int) (by decide) (by decide)))
  have Zs28 := Nat.le_trans Z0 (Nat.le_of_eq W23.size.symm)
  have Kp29 : Keep h0 h19 [b0] := (Keep.refl h0 [b0]).wr W23 (Or.inl (List.mem_of_getElem? (i := 0) rfl))
  refine g_aloadN 60 rfl C X21 d1_59 rfl rfl ?_
  refine g_iloadN 61 rfl C X21 d1_60 rfl ?_
  refine g_putF 64 rfl C X21 (host := "") (Or.inl (hw _ (List.mem_of_getElem? (i := 21) rfl))) Via.refl e22 F27 F26 (Or.inr ⟨(hw _ (List.mem_of_getElem? (i := 22) rfl)), rfl, rfl⟩) (hw _ (List.mem_of_getElem? (i := 5) rfl)) (ty := .int) (by decide) rfl rfl d1_61 N24 g_b0 fun T30 h31 ls32 X33 e34 W35 N36 => ?_
  have F37 : Fld Z h31 b0 "com/example/vaglio/vaglio/filter/FilterShape" "rows" "I" (.int p2) := F27.same W35
  have F38 := F26.wr W35
  have F39 := F25.other W35 (Or.inr (slot_ne (Or.inr (hw _ (List.mem_of_getElem? (i := 20) rfl))) (Or.inr (hw _ (List.mem_of_getElem? (i := 22) rfl))) (by decide) (t := .int) (t' := .int) (by decide) (by decide)))
  have Zs40 := Nat.le_trans Zs28 (Nat.le_of_eq W35.size.symm)
  have Kp41 : Keep h0 h31 [b0] := Kp29.wr W35 (Or.inl (List.mem_of_getElem? (i := 0) rfl))
  exact g_retV C X33 rfl d1_64 e34 (by decide) (by decide) ⟨rfl, N36, Kp41, F38, F39, F37⟩
theorem d5_0 : decode jdk_31_method_11_code 0 = .ok (.aload_n 0, 1) := by decide +kernel
theorem d5_1 : decode jdk_31_method_11_code 1 = .ok (.ifnonnull 12, 3) := by decide +kernel
theorem d5_13 : decode jdk_31_method_11_code 13 = .ok (.aload_n 0, 1) := by decide +kernel
theorem d5_14 : decode jdk_31_method_11_code 14 = .ok (.areturn, 1) := by decide +kernel
theorem pn_50637713 : plainName "java/util/Objects" = true := by first | (simp [plainName, overriddenIn]; done) | decide +kernel
theorem ef_5 (m : MethodId) (b0 : Addr) (b1 : Addr) : entryFrame m #[(.ref b0), (.ref b1)] 2 = mkF m 0 #[.val (.ref b0), .val (.ref b1)] [] := by first | (simp [entryFrame, mkF, argsToLocals, Value.category]; done) | rfl
def Q5 (Z : State) (b0 : Addr) (b1 : Addr) (h0 : Heap) (n0 : Nat) (v : Option Value) (h : Heap) (L : List Loc) : Prop := v = some (.ref b0) ∧ Fr n0 L ∧ h = h0
set_option maxRecDepth 65536 in
set_option maxHeartbeats 40000000 in
theorem rm5 (l : Launch) (Z : State) (a0 : Array Value) (hw : ∀ d ∈ tables_1, d.before a0 Z = true) (ws : List Jvm.Cond) (b0 : Addr) (b1 : Addr) (h0 : Heap) (n0 : Nat) (Z0 : n0 ≤ h0.size) :
    MetFree l (⟨"java/util/Objects", "requireNonNull", "(Ljava/lang/Object;Ljava/lang/String;)Ljava/lang/Object;"⟩ : MethodName) (head1 (Jvm.Cond.code (⟨"java/util/Objects", "requireNonNull", "(Ljava/lang/Object;Ljava/lang/String;)Ljava/lang/Object;"⟩ : MethodName) jdk_31_method_11_code 2 (some (.object "java/lang/Object")) :: ws) ({ frames := 0, cells := 0, slots := 0, locals := 0 } : Room)) (fun a U => a = #[(.ref b0), (.ref b1)] ∧ Z.Warmed39 U.vm ∧ U.heap = h0) (fun _ _ _ _ _ => True) (fun _ U o U' => ∃ v L, o = .returned v ∧ Q5 Z b0 b1 h0 n0 v U'.heap L ∧ FrameEnd U o U' L ({ frames := 0, cells := 0, slots := 0, locals := 0 } : Room).cells ({ frames := 0, cells := 0, slots := 0, locals := 0 } : Room).slots) := by
  refine MetFree.of_bodySF (plainFor_of_name pn_50637713) hisR ?_
  intro p e s m args below meth c s₁ Bd hml0 hP hK
  obtain ⟨rfl, hZ, hh⟩ := hP
  have C : Ctx p s m meth c Z "java/util/Objects" "requireNonNull" jdk_31_method_11_code 2 (some (.object "java/lang/Object")) := Ctx.of Bd hml0 hZ
  have X0 : Stand p l e ({ frames := 0, cells := 0, slots := 0, locals := 0 } : Room) s m #[(.ref b0), (.ref b1)] below meth c s₁ [] 0 0 := Stand.of_body Bd
  have e0 : s₁.heap = h0 := by rw [← hh, Bd.state]; rfl
  have N0 := Fr.nil n0
  refine Goes.enter (ef_5 m b0 b1) ?_
  clear hK hml0 hh
  refine g_aloadN 1 rfl C X0 d5_0 rfl rfl ?_
  refine g_ifnonnull_t 13 C X0 d5_1 (by decide) (by decide) ?_
  refine g_aloadN 14 rfl C X0 d5_13 rfl rfl ?_
  exact g_retA C X0 rfl rfl rfl rfl d5_14 e0 (by decide) (by decide) ⟨rfl, N0, rfl⟩
theorem d6_0 : decode prog_19_method_12_code 0 = .ok (.aload_n 0, 1) := by decide +kernel
theorem d6_1 : decode prog_19_method_12_code 1 = .ok (.getfield 24, 3) := by decide +kernel
theorem d6_4 : decode prog_19_method_12_code 4 = .ok (.ireturn, 1) := by decide +kernel
theorem ef_6 (m : MethodId) (b0 : Addr) : entryFrame m #[(.ref b0)] 1 = mkF m 0 #[.val (.ref b0)] [] := by first | (simp [entryFrame, mkF, argsToLocals, Value.category]; done) | rfl
def Q6 (Z : State) (b0 : Addr) (w1 : Int32) (h0 : Heap) (n0 : Nat) (v : Option Value) (h : Heap) (L : List Loc) : Prop := v = some (.int w1) ∧ Fr n0 L ∧ h = h0
set_option maxRecDepth 65536 in
set_option maxHeartbeats 40000000 in
theorem rm6 (l : Launch) (Z : State) (a0 : Array Value) (hw : ∀ d ∈ tables_1, d.before a0 Z = true) (ws : List Jvm.Cond) (b0 : Addr) (w1 : Int32) (h0 : Heap) (n0 : Nat) (Z0 : n0 ≤ h0.size) (F_b0_rows : Fld Z h0 b0 "com/example/vaglio/vaglio/filter/FilterShape" "rows" "I" (.int w1)) :
    MetFree l (⟨"com/example/vaglio/vaglio/filter/FilterShape", "rows", "()I"⟩ : MethodName) (head1 (Jvm.Cond.code (⟨"com/example/vaglio/vaglio/filter/FilterShape", "rows", "()I"⟩ : MethodName) prog_19_method_12_code 1 (some .int) :: ws) ({ frames := 0, cells := 0, slots := 0, locals := 0 } : Room)) (fun a U => a = #[(.ref b0)] ∧ Z.Warmed39 U.vm ∧ U.heap = h0) (fun _ _ _ _ _ => True) (fun _ U o U' => ∃ v L, o = .returned v ∧ Q6 Z b0 w1 h0 n0 v U'.heap L ∧ FrameEnd U o U' L ({ frames := 0, cells := 0, slots := 0, locals := 0 } : Room).cells ({ frames := 0, cells := 0, slots := 0, locals := 0 } : Room).slots) := by
  refine MetFree.of_bodySF (plainFor_of_name pn_75164168) hisR ?_
  intro p e s m args below meth c s₁ Bd hml0 hP hK
  obtain ⟨rfl, hZ, hh⟩ := hP
  have C : Ctx p s m meth c Z "com/example/vaglio/vaglio/filter/FilterShape" "rows" prog_19_method_12_code 1 (some .int) := Ctx.of Bd hml0 hZ
  have X0 : Stand p l e ({ frames := 0, cells := 0, slots := 0, locals := 0 } : Room) s m #[(.ref b0)] below meth c s₁ [] 0 0 := Stand.of_body Bd
  have e0 : s₁.heap = h0 := by rw [← hh, Bd.state]; rfl
  have N0 := Fr.nil n0
  refine Goes.enter (ef_6 m b0) ?_
  clear hK hml0 hh
  refine g_aloadN 1 rfl C X0 d6_0 rfl rfl ?_
  refine g_getF 4 rfl C X0 (host := "") (Or.inl (hw _ (List.mem_of_getElem? (i := 21) rfl))) Via.refl e0 F_b0_rows d6_1 fun T1 X2 e3 => ?_
  exact g_retI C X2 rfl d6_4 e3 (by decide) (by decide) ⟨rfl, N0, rfl⟩
theorem d7_0 : decode prog_15_method_2_code 0 = .ok (.aload_n 0, 1) := by decide +kernel
theorem d7_1 : decode prog_15_method_2_code 1 = .ok (.invokespecial 23, 3) := by decide +kernel
theorem d7_4 : decode prog_15_method_2_code 4 = .ok (.aload_n 2, 1) := by decide +kernel
theorem d7_5 : decode prog_15_method_2_code 5 = .ok (.arraylength, 1) := by decide +kernel
theorem d7_6 : decode prog_15_method_2_code 6 = .ok (.aload_n 1, 1) := by decide +kernel
theorem d7_7 : decode prog_15_method_2_code 7 = .ok (.invokevirtual 13, 3) := by decide +kernel
theorem pd_16428521 : parseMethodDescriptor "()I" = some ⟨[], some .int⟩ := by decide +kernel
theorem d7_10 : decode prog_15_method_2_code 10 = .ok (.sipush 128, 3) := by decide +kernel
theorem d7_13 : decode prog_15_method_2_code 13 = .ok (.imul, 1) := by decide +kernel
theorem d7_14 : decode prog_15_method_2_code 14 = .ok (.if_icmp .eq 30, 3) := by decide +kernel
theorem d7_44 : decode prog_15_method_2_code 44 = .ok (.aload_n 0, 1) := by decide +kernel
theorem d7_45 : decode prog_15_method_2_code 45 = .ok (.aload_n 1, 1) := by decide +kernel
theorem d7_46 : decode prog_15_method_2_code 46 = .ok (.putfield 37, 3) := by decide +kernel
theorem d7_49 : decode prog_15_method_2_code 49 = .ok (.aload_n 0, 1) := by decide +kernel
theorem d7_50 : decode prog_15_method_2_code 50 = .ok (.aload_n 2, 1) := by decide +kernel
theorem d7_51 : decode prog_15_method_2_code 51 = .ok (.putfield 40, 3) := by decide +kernel
theorem d7_54 : decode prog_15_method_2_code 54 = .ok (.return_, 1) := by decide +kernel
theorem pn_46490325 : plainName "com/example/vaglio/vaglio/filter/Filter" = true := by first | (simp [plainName, overriddenIn]; done) | decide +kernel
theorem ef_7 (m : MethodId) (b0 : Addr) (b1 : Addr) (b2 : Addr) : entryFrame m #[(.ref b0), (.ref b1), (.ref b2)] 3 = mkF m 0 #[.val (.ref b0), .val (.ref b1), .val (.ref b2)] [] := by first | (simp [entryFrame, mkF, argsToLocals, Value.category]; done) | rfl
def Q7 (Z : State) (b0 : Addr) (b1 : Addr) (b2 : Addr) (w1 : Int32) (n : Nat) (f : Nat → Int32) (h0 : Heap) (n0 : Nat) (v : Option Value) (h : Heap) (L : List Loc) : Prop := v = none ∧ Fr n0 L ∧ Keep h0 h [b0] ∧ Exa Z h b0 "com/example/vaglio/vaglio/filter/Filter" ∧ Fld Z h b0 "com/example/vaglio/vaglio/filter/Filter" "shape" "Lcom/example/vaglio/vaglio/filter/FilterShape;" (.ref b1)
set_option maxRecDepth 65536 in
set_option maxHeartbeats 40000000 in
theorem rm7 (l : Launch) (Z : State) (a0 : Array Value) (hw : ∀ d ∈ tables_1, d.before a0 Z = true) (ws : List Jvm.Cond) (b0 : Addr) (b1 : Addr) (b2 : Addr) (w1 : Int32) (n : Nat) (f : Nat → Int32) (h0 : Heap) (n0 : Nat) (Z0 : n0 ≤ h0.size) (E_b0 : Exa Z h0 b0 "com/example/vaglio/vaglio/filter/Filter") (F_b0_shape : Fld Z h0 b0 "com/example/vaglio/vaglio/filter/Filter" "shape" "Lcom/example/vaglio/vaglio/filter/FilterShape;" .null) (F_b0_bits : Fld Z h0 b0 "com/example/vaglio/vaglio/filter/Filter" "bits" "[B" .null) (g_b0 : n0 ≤ b0) (E_b1 : Exa Z h0 b1 "com/example/vaglio/vaglio/filter/FilterShape") (F_b1_rows : Fld Z h0 b1 "com/example/vaglio/vaglio/filter/FilterShape" "rows" "I" (.int w1)) (B_b2 : Ba Z h0 b2 .byte n f) (hn : (n : Int) = w1.toInt * 128) (hw1 : 1 ≤ w1.toInt ∧ w1.toInt ≤ 1024) (ne10 : b1 ≠ b0) (ne20 : b2 ≠ b0) :
    MetFree l (⟨"com/example/vaglio/vaglio/filter/Filter", "<init>", "(Lcom/example/vaglio/vaglio/filter/FilterShape;[B)V"⟩ : MethodName) (head1 (Jvm.Cond.code (⟨"com/example/vaglio/vaglio/filter/Filter", "<init>", "(Lcom/example/vaglio/vaglio/filter/FilterShape;[B)V"⟩ : MethodName) prog_15_method_2_code 3 none :: ws) ({ frames := 1, cells := 0, slots := 0, locals := 13 } : Room)) (fun a U => a = #[(.ref b0), (.ref b1), (.ref b2)] ∧ Z.Warmed39 U.vm ∧ U.heap = h0) (fun _ _ _ _ _ => True) (fun _ U o U' => ∃ v L, o = .returned v ∧ Q7 Z b0 b1 b2 w1 n f h0 n0 v U'.heap L ∧ FrameEnd U o U' L ({ frames := 1, cells := 0, slots := 0, locals := 13 } : Room).cells ({ frames := 1, cells := 0, slots := 0, locals := 13 } : Room).slots) := by
  refine MetFree.of_bodySF (plainFor_of_name pn_46490325) hisR ?_
  intro p e s m args below meth c s₁ Bd hml0 hP hK
  obtain ⟨rfl, hZ, hh⟩ := hP
  have C : Ctx p s m meth c Z "com/example/vaglio/vaglio/filter/Filter" "<init>" prog_15_method_2_code 3 none := Ctx.of Bd hml0 hZ
  have X0 : Stand p l e ({ frames := 1, cells := 0, slots := 0, locals := 13 } : Room) s m #[(.ref b0), (.ref b1), (.ref b2)] below meth c s₁ [] 0 0 := Stand.of_body Bd
  have e0 : s₁.heap = h0 := by rw [← hh, Bd.state]; rfl
  have N0 := Fr.nil n0
  refine Goes.enter (ef_7 m b0 b1 b2) ?_
  clear hK hml0 hh
  refine g_aloadN 1 rfl C X0 d7_0 rfl rfl ?_
  refine g_initO 4 rfl C X0 (hw _ (List.mem_of_getElem? (i := 48) rfl)) (hw _ (List.mem_of_getElem? (i := 16) rfl)) (hw _ (List.mem_of_getElem? (i := 17) rfl)) e0 d7_1 rfl (by decide) (W := 0) (Nat.le_of_eq rfl) (by decide) fun T1 X2 e3 => ?_
  refine g_aloadN 5 rfl C X2 d7_4 rfl rfl ?_
  have hq4 : (w1 * (128 : Int32)).toInt = ((n : Nat) : Int) := by
    have fr5 := rng32 w1
    have fc6 : (128 : Int32).toInt = 128 := rfl
    have fo7 := own_mulc w1 (128 : Int32) 128 rfl
    have fr8 := rng32 (w1 * (128 : Int32))
    omega
  refine g_len 6 rfl C X2 e3 B_b2 (w1 * (128 : Int32)) hq4 d7_5 ?_
  refine g_aloadN 7 rfl C X2 d7_6 rfl rfl ?_
  refine g_callV 10 rfl C X2 (argsL := []) (hw _ (List.mem_of_getElem? (i := 40) rfl)) (hw _ (List.mem_of_getElem? (i := 41) rfl)) (hw _ (List.mem_of_getElem? (i := 43) rfl)) (hw _ (List.mem_of_getElem? (i := 42) rfl)) (hw _ (List.mem_of_getElem? (i := 44) rfl)) (hw _ (List.mem_of_getElem? (i := 6) rfl)) e3 E_b1 (rm6 l Z a0 hw [] b1 w1 h0 n0 Z0 F_b1_rows) (lenOf pd_16428521 rfl) (by decide) (by decide) (by decide) (by decide) rfl (W := 1) (Nat.le_of_eq rfl) (by decide) d7_7 rfl fun r9 T10 Lc11 X12 hQ13 => ?_
  obtain ⟨rfl, Nq14, eh15⟩ := hQ13
  have N16 := Fr.app N0 Nq14
  show Goes _ _ _ _ _ _ 10 _ [(.int w1), (.int (w1 * (128 : Int32)))]
  refine g_sipush 13 rfl C X12 (128 : Int32) d7_10 rfl ?_
  refine g_imul 14 rfl C X12 d7_13 ?_
  refine g_icmp_eq_t 44 C X12 d7_14 (by decide) (by decide) rfl ?_
  refine g_aloadN 45 rfl C X12 d7_44 rfl rfl ?_
  refine g_aloadN 46 rfl C X12 d7_45 rfl rfl ?_
  refine g_putF 49 rfl C X12 (host := "") (Or.inl (hw _ (List.mem_of_getElem? (i := 49) rfl))) Via.refl eh15 F_b0_shape E_b0 (Or.inr ⟨(hw _ (List.mem_of_getElem? (i := 50) rfl)), rfl, rfl⟩) (hw _ (List.mem_of_getElem? (i := 2) rfl)) (ty := (.object "com/example/vaglio/vaglio/filter/FilterShape")) (by decide) rfl rfl d7_46 N16 g_b0 fun T17 h18 ls19 X20 e21 W22 N23 => ?_
  have F24 : Fld Z h18 b0 "com/example/vaglio/vaglio/filter/Filter" "shape" "Lcom/example/vaglio/vaglio/filter/FilterShape;" (.ref b1) := F_b0_shape.same W22
  have F25 := E_b0.wr W22
  have F26 := F_b0_bits.other W22 (Or.inr (slot_ne (Or.inr (hw _ (List.mem_of_getElem? (i := 52) rfl))) (Or.inr (hw _ (List.mem_of_getElem? (i := 50) rfl))) (by decide) (t := (.array .byte)) (t' := (.object "com/example/vaglio/vaglio/filter/FilterShape")) (by decide) (by decide)))
  have F27 := E_b1.wr W22
  have F28 := F_b1_rows.other W22 (Or.inl ne10)
  have F29 := B_b2.other W22 ne20
  have Zs30 := Nat.le_trans Z0 (Nat.le_of_eq W22.size.symm)
  have Kp31 : Keep h0 h18 [b0] := (Keep.refl h0 [b0]).wr W22 (Or.inl (List.mem_of_getElem? (i := 0) rfl))
  refine g_aloadN 50 rfl C X20 d7_49 rfl rfl ?_
  refine g_aloadN 51 rfl C X20 d7_50 rfl rfl ?_
  refine g_putF 54 rfl C X20 (host := "") (Or.inl (hw _ (List.mem_of_getElem? (i := 51) rfl))) Via.refl e21 F26 F25 (Or.inr ⟨(hw _ (List.mem_of_getElem? (i := 52) rfl)), rfl, rfl⟩) (hw _ (List.mem_of_getElem? (i := 2) rfl)) (ty := (.array .byte)) (by decide) rfl rfl d7_51 N23 g_b0 fun T32 h33 ls34 X35 e36 W37 N38 => ?_
  have F39 : Fld Z h33 b0 "com/example/vaglio/vaglio/filter/Filter" "bits" "[B" (.ref b2) := F26.same W37
  have F40 := F25.wr W37
  have F41 := F24.other W37 (Or.inr (slot_ne (Or.inr (hw _ (List.mem_of_getElem? (i := 50) rfl))) (Or.inr (hw _ (List.mem_of_getElem? (i := 52) rfl))) (by decide) (t := (.object "com/example/vaglio/vaglio/filter/FilterShape")) (t' := (.array .byte)) (by decide) (by decide)))
  have F42 := F27.wr W37
  have F43 := F28.other W37 (Or.inl ne10)
  have F44 := F29.other W37 ne20
  have Zs45 := Nat.le_trans Zs30 (Nat.le_of_eq W37.size.symm)
  have Kp46 : Keep h0 h33 [b0] := Kp31.wr W37 (Or.inl (List.mem_of_getElem? (i := 0) rfl))
  exact g_retV C X35 rfl d7_54 e36 (by decide) (by decide) ⟨rfl, N38, Kp46, F40, F41⟩
theorem d4_0 : decode prog_15_method_1_code 0 = .ok (.aload_n 0, 1) := by decide +kernel
theorem d4_1 : decode prog_15_method_1_code 1 = .ok (.aload_n 1, 1) := by decide +kernel
theorem d4_2 : decode prog_15_method_1_code 2 = .ok (.aload_n 1, 1) := by decide +kernel
theorem d4_3 : decode prog_15_method_1_code 3 = .ok (.ldc 5, 2) := by decide +kernel
theorem d4_5 : decode prog_15_method_1_code 5 = .ok (.invokestatic 7, 3) := by decide +kernel
theorem pd_40943338 : parseMethodDescriptor "(Ljava/lang/Object;Ljava/lang/String;)Ljava/lang/Object;" = some ⟨[(.object "java/lang/Object"), (.object "java/lang/String")], some (.object "java/lang/Object")⟩ := by decide +kernel
theorem d4_8 : decode prog_15_method_1_code 8 = .ok (.checkcast 1, 3) := by decide +kernel
theorem d4_11 : decode prog_15_method_1_code 11 = .ok (.invokevirtual 13, 3) := by decide +kernel
theorem d4_14 : decode prog_15_method_1_code 14 = .ok (.sipush 128, 3) := by decide +kernel
theorem d4_17 : decode prog_15_method_1_code 17 = .ok (.imul, 1) := by decide +kernel
theorem d4_18 : decode prog_15_method_1_code 18 = .ok (.newarray .byte, 2) := by decide +kernel
theorem d4_20 : decode prog_15_method_1_code 20 = .ok (.invokespecial 19, 3) := by decide +kernel
theorem pd_70153203 : parseMethodDescriptor "(Lcom/example/vaglio/vaglio/filter/FilterShape;[B)V" = some ⟨[(.object "com/example/vaglio/vaglio/filter/FilterShape"), (.array .byte)], none⟩ := by decide +kernel
theorem d4_23 : decode prog_15_method_1_code 23 = .ok (.return_, 1) := by decide +kernel
theorem ef_4 (m : MethodId) (b0 : Addr) (b1 : Addr) : entryFrame m #[(.ref b0), (.ref b1)] 2 = mkF m 0 #[.val (.ref b0), .val (.ref b1)] [] := by first | (simp [entryFrame, mkF, argsToLocals, Value.category]; done) | rfl
def Q4 (Z : State) (b0 : Addr) (b1 : Addr) (w1 : Int32) (h0 : Heap) (n0 : Nat) (v : Option Value) (h : Heap) (L : List Loc) : Prop := v = none ∧ Fr n0 L ∧ Keep h0 h [b0] ∧ Exa Z h b0 "com/example/vaglio/vaglio/filter/Filter" ∧ Fld Z h b0 "com/example/vaglio/vaglio/filter/Filter" "shape" "Lcom/example/vaglio/vaglio/filter/FilterShape;" (.ref b1)
set_option maxRecDepth 65536 in
set_option maxHeartbeats 40000000 in
theorem rm4 (l : Launch) (Z : State) (a0 : Array Value) (hw : ∀ d ∈ tables_1, d.before a0 Z = true) (ws : List Jvm.Cond) (b0 : Addr) (b1 : Addr) (w1 : Int32) (h0 : Heap) (n0 : Nat) (Z0 : n0 ≤ h0.size) (E_b0 : Exa Z h0 b0 "com/example/vaglio/vaglio/filter/Filter") (F_b0_shape : Fld Z h0 b0 "com/example/vaglio/vaglio/filter/Filter" "shape" "Lcom/example/vaglio/vaglio/filter/FilterShape;" .null) (F_b0_bits : Fld Z h0 b0 "com/example/vaglio/vaglio/filter/Filter" "bits" "[B" .null) (g_b0 : n0 ≤ b0) (E_b1 : Exa Z h0 b1 "com/example/vaglio/vaglio/filter/FilterShape") (F_b1_rows : Fld Z h0 b1 "com/example/vaglio/vaglio/filter/FilterShape" "rows" "I" (.int w1)) (hw1 : 1 ≤ w1.toInt ∧ w1.toInt ≤ 1) (ne10 : b1 ≠ b0) :
    MetFree l (⟨"com/example/vaglio/vaglio/filter/Filter", "<init>", "(Lcom/example/vaglio/vaglio/filter/FilterShape;)V"⟩ : MethodName) (head1 (Jvm.Cond.code (⟨"com/example/vaglio/vaglio/filter/Filter", "<init>", "(Lcom/example/vaglio/vaglio/filter/FilterShape;)V"⟩ : MethodName) prog_15_method_1_code 2 none :: ws) ({ frames := 2, cells := 3, slots := 152, locals := 27 } : Room)) (fun a U => a = #[(.ref b0), (.ref b1)] ∧ Z.Warmed39 U.vm ∧ U.heap = h0) (fun _ _ _ _ _ => True) (fun _ U o U' => ∃ v L, o = .returned v ∧ Q4 Z b0 b1 w1 h0 n0 v U'.heap L ∧ ReturnedEndW U o U' L ({ frames := 2, cells := 3, slots := 152, locals := 27 } : Room).cells ({ frames := 2, cells := 3, slots := 152, locals := 27 } : Room).slots) := by
  refine MetFree.of_bodySF (plainFor_of_name pn_46490325) hisR ?_
  intro p e s m args below meth c s₁ Bd hml0 hP hK
  obtain ⟨rfl, hZ, hh⟩ := hP
  have C : Ctx p (s.setVm s.vm) m meth c Z "com/example/vaglio/vaglio/filter/Filter" "<init>" prog_15_method_1_code 2 none := Ctx.of Bd hml0 hZ
  have X0 : Stand p l e ({ frames := 2, cells := 3, slots := 152, locals := 27 } : Room) (s.setVm s.vm) m #[(.ref b0), (.ref b1)] below meth c s₁ [] 0 0 := Stand.of_body Bd
  have e0 : s₁.heap = h0 := by rw [← hh, Bd.state]; rfl
  have N0 := Fr.nil n0
  have hS0 : s.Since s.vm 0 := (State.WarmedH.refl s).since 0
  have own_strW := own_strA a0 hw
  refine Goes.enterW (ef_4 m b0 b1) ?_
  clear hK hml0 hh
  refine g_aloadN 1 rfl C X0 d4_0 rfl rfl ?_
  refine g_aloadN 2 rfl C X0 d4_1 rfl rfl ?_
  refine g_aloadN 3 rfl C X0 d4_2 rfl rfl ?_
  refine w_ldcS 5 rfl C X0 hS0 (by rw [e0]; exact (Nat.zero_le _)) (hw _ (List.mem_of_getElem? (i := 26) rfl)) own_strW e0 d4_3 20 (by decide) (by decide) (by decide) (by decide) fun o1 T2 h3 k4 C X5 e6 E7 S8 hk9 => ?_
  have F10 := E_b0.ext E7
  have F11 := F_b0_shape.ext E7
  have F12 := F_b0_bits.ext E7
  have F13 := E_b1.ext E7
  have F14 := F_b1_rows.ext E7
  have Zs15 := Nat.le_trans Z0 E7.1
  have Ks16 := Nat.le_trans (Nat.zero_le _) E7.1
  have Kp17 : Keep h0 h3 [b0] := (Keep.refl h0 [b0]).ext E7
  have Ks18 : k4 ≤ h3.size := by rw [← e6]; exact hk9
  refine g_callS 8 rfl C X5 (argsL := [(.ref b1), (.ref o1)]) (hw _ (List.mem_of_getElem? (i := 34) rfl)) (hw _ (List.mem_of_getElem? (i := 35) rfl)) (hw _ (List.mem_of_getElem? (i := 37) rfl)) (hw _ (List.mem_of_getElem? (i := 36) rfl)) e6 (rm5 l Z a0 hw [] b1 o1 h3 n0 Zs15) (lenOf pd_40943338 rfl) (by decide) (by decide) (by decide) (by decide) rfl (W := 2) (Nat.le_of_eq rfl) (by decide) d4_5 rfl fun r19 T20 Lc21 X22 hQ23 => ?_
  obtain ⟨rfl, Nq24, eh25⟩ := hQ23
  have N26 := Fr.app N0 Nq24
  show Goes _ _ _ _ _ _ 8 _ [(.ref b1), (.ref b1), (.ref b0)]
  refine g_cast 11 rfl C X22 (hw _ (List.mem_of_getElem? (i := 38) rfl)) eh25 (Ins.self F13) d4_8 fun T27 X28 e29 => ?_
  refine g_callV 14 rfl C X28 (argsL := []) (hw _ (List.mem_of_getElem? (i := 40) rfl)) (hw _ (List.mem_of_getElem? (i := 41) rfl)) (hw _ (List.mem_of_getElem? (i := 43) rfl)) (hw _ (List.mem_of_getElem? (i := 42) rfl)) (hw _ (List.mem_of_getElem? (i := 44) rfl)) (hw _ (List.mem_of_getElem? (i := 6) rfl)) e29 F13 (rm6 l Z a0 hw [] b1 w1 h3 n0 Zs15 F14) (lenOf pd_16428521 rfl) (by decide) (by decide) (by decide) (by decide) rfl (W := 2) (Nat.le_of_eq rfl) (by decide) d4_11 rfl fun r30 T31 Lc32 X33 hQ34 => ?_
  obtain ⟨rfl, Nq35, eh36⟩ := hQ34
  have N37 := Fr.app N26 Nq35
  show Goes _ _ _ _ _ _ 14 _ [(.int w1), (.ref b1), (.ref b0)]
  refine g_sipush 17 rfl C X33 (128 : Int32) d4_14 rfl ?_
  refine g_imul 18 rfl C X33 d4_17 ?_
  have hq39 : 0 ≤ (w1 * (128 : Int32)).toInt ∧ (w1 * (128 : Int32)).toInt ≤ 131072 ∧ (w1 * (128 : Int32)).toInt = w1.toInt * 128 := by
    have fr40 := rng32 w1
    have fc41 : (128 : Int32).toInt = 128 := rfl
    have fo42 := own_mulc w1 (128 : Int32) 128 rfl
    have fr43 := rng32 (w1 * (128 : Int32))
    omega
  obtain ⟨n38, hn38⟩ : ∃ n : Nat, (w1 * (128 : Int32)).toInt = n := ⟨(w1 * (128 : Int32)).toInt.toNat, by omega⟩
  have hn38c : n38 ≤ 128 := by omega
  have hn38m : (n38 : Int) = w1.toInt * 128 := by omega
  refine g_newP 20 rfl C X33 n38 hn38 128 (by omega) (by decide) rfl (hw _ (List.mem_of_getElem? (i := 29) rfl)) eh36 d4_18 (by decide) (by decide) fun T44 h45 o46 g47 X48 e49 E50 B51 => ?_
  have ne52 : b0 ≠ o46 := by rw [g47]; exact Nat.ne_of_lt F10.lt
  have ne53 : b1 ≠ o46 := by rw [g47]; exact Nat.ne_of_lt F13.lt
  have gn54 : n0 ≤ o46 := by rw [g47]; exact Zs15
  have sz55 : h0.size ≤ o46 := by rw [g47]; exact Kp17.1
  have F56 := F10.ext E50
  have F57 := F11.ext E50
  have F58 := F12.ext E50
  have F59 := F13.ext E50
  have F60 := F14.ext E50
  have Zs61 := Nat.le_trans Zs15 E50.1
  have Ks62 := Nat.le_trans Ks18 E50.1
  have Kp63 : Keep h0 h45 [b0] := Kp17.ext E50
  refine g_callN 23 rfl C X48 (argsL := [(.ref b1), (.ref o46)]) rfl rfl (hw _ (List.mem_of_getElem? (i := 45) rfl)) (hw _ (List.mem_of_getElem? (i := 46) rfl)) (hw _ (List.mem_of_getElem? (i := 47) rfl)) (hw _ (List.mem_of_getElem? (i := 3) rfl)) e49 (rm7 l Z a0 hw [] b0 b1 o46 w1 n38 (fun _ => 0) h45 n0 Zs61 F56 F57 F58 g_b0 F59 F60 B51 hn38m (by omega) ne10 (Ne.symm ne52)) (lenOf pd_70153203 rfl) (by decide) (by decide) (by decide) (by decide) rfl (W := 0) (Nat.le_of_eq rfl) (by decide) d4_20 rfl fun r64 T65 Lc66 X67 hQ68 => ?_
  obtain ⟨rfl, Nq69, Kc70, F71, F72⟩ := hQ68
  have F73 := F56.keep Kc70
  have F74 := F59.keep Kc70
  have F75 := F60.keep Kc70 (ninS ne10 nin0)
  have F76 := B51.keep Kc70 (ninS (Ne.symm ne52) nin0)
  have Zs77 := Nat.le_trans Zs61 Kc70.1
  have Ks78 := Nat.le_trans Ks62 Kc70.1
  have Kp79 : Keep h0 T65.heap [b0] := Keep.trans Kp63 Kc70 (allS (Or.inl (List.mem_of_getElem? (i := 0) rfl)) all0)
  have N80 := Fr.app N37 Nq69
  show Goes _ _ _ _ _ _ 23 _ []
  exact w_retV C X67 S8 Ks78 rfl d4_23 rfl (by decide) (by decide) ⟨rfl, N80, Kp79, F71, F72⟩
theorem d12_0 : decode prog_17_method_2_code 0 = .ok (.aload_n 0, 1) := by decide +kernel
theorem d12_1 : decode prog_17_method_2_code 1 = .ok (.ldc 68, 2) := by decide +kernel
theorem d12_3 : decode prog_17_method_2_code 3 = .ok (.invokestatic 70, 3) := by decide +kernel
theorem d12_6 : decode prog_17_method_2_code 6 = .ok (.pop, 1) := by decide +kernel
theorem d12_7 : decode prog_17_method_2_code 7 = .ok (.aload_n 0, 1) := by decide +kernel
theorem d12_8 : decode prog_17_method_2_code 8 = .ok (.arraylength, 1) := by decide +kernel
theorem d12_9 : decode prog_17_method_2_code 9 = .ok (.bipush 32, 2) := by decide +kernel
theorem d12_11 : decode prog_17_method_2_code 11 = .ok (.if_icmp .eq 18, 3) := by decide +kernel
theorem d12_29 : decode prog_17_method_2_code 29 = .ok (.aload_n 0, 1) := by decide +kernel
theorem d12_30 : decode prog_17_method_2_code 30 = .ok (.areturn, 1) := by decide +kernel
theorem pn_11936945 : plainName "com/example/vaglio/vaglio/filter/FilterMask" = true := by first | (simp [plainName, overriddenIn]; done) | decide +kernel
theorem ef_12 (m : MethodId) (b0 : Addr) : entryFrame m #[(.ref b0)] 1 = mkF m 0 #[.val (.ref b0)] [] := by first | (simp [entryFrame, mkF, argsToLocals, Value.category]; done) | rfl
def Q12 (Z : State) (b0 : Addr) (f : Nat → Int32) (h0 : Heap) (n0 : Nat) (v : Option Value) (h : Heap) (L : List Loc) : Prop := v = some (.ref b0) ∧ Fr n0 L ∧ Keep h0 h []
set_option maxRecDepth 65536 in
set_option maxHeartbeats 40000000 in
theorem rm12 (l : Launch) (Z : State) (a0 : Array Value) (hw : ∀ d ∈ tables_1, d.before a0 Z = true) (ws : List Jvm.Cond) (b0 : Addr) (f : Nat → Int32) (h0 : Heap) (n0 : Nat) (Z0 : n0 ≤ h0.size) (B_b0 : Ba Z h0 b0 .byte 32 f) :
    MetFree l (⟨"com/example/vaglio/vaglio/filter/FilterMask", "checkSeed", "([B)[B"⟩ : MethodName) (head1 (Jvm.Cond.code (⟨"com/example/vaglio/vaglio/filter/FilterMask", "checkSeed", "([B)[B"⟩ : MethodName) prog_17_method_2_code 1 (some (.array .byte)) :: ws) ({ frames := 1, cells := 2, slots := 20, locals := 13 } : Room)) (fun a U => a = #[(.ref b0)] ∧ Z.Warmed39 U.vm ∧ U.heap = h0) (fun _ _ _ _ _ => True) (fun _ U o U' => ∃ v L, o = .returned v ∧ Q12 Z b0 f h0 n0 v U'.heap L ∧ ReturnedEndW U o U' L ({ frames := 1, cells := 2, slots := 20, locals := 13 } : Room).cells ({ frames := 1, cells := 2, slots := 20, locals := 13 } : Room).slots) := by
  refine MetFree.of_bodySF (plainFor_of_name pn_11936945) hisR ?_
  intro p e s m args below meth c s₁ Bd hml0 hP hK
  obtain ⟨rfl, hZ, hh⟩ := hP
  have C : Ctx p (s.setVm s.vm) m meth c Z "com/example/vaglio/vaglio/filter/FilterMask" "checkSeed" prog_17_method_2_code 1 (some (.array .byte)) := Ctx.of Bd hml0 hZ
  have X0 : Stand p l e ({ frames := 1, cells := 2, slots := 20, locals := 13 } : Room) (s.setVm s.vm) m #[(.ref b0)] below meth c s₁ [] 0 0 := Stand.of_body Bd
  have e0 : s₁.heap = h0 := by rw [← hh, Bd.state]; rfl
  have N0 := Fr.nil n0
  have hS0 : s.Since s.vm 0 := (State.WarmedH.refl s).since 0
  have own_strW := own_strA a0 hw
  refine Goes.enterW (ef_12 m b0) ?_
  clear hK hml0 hh
  refine g_aloadN 1 rfl C X0 d12_0 rfl rfl ?_
  refine w_ldcS 3 rfl C X0 hS0 (by rw [e0]; exact (Nat.zero_le _)) (hw _ (List.mem_of_getElem? (i := 85) rfl)) own_strW e0 d12_1 16 (by decide) (by decide) (by decide) (by decide) fun o1 T2 h3 k4 C X5 e6 E7 S8 hk9 => ?_
  have F10 := B_b0.ext E7
  have Zs11 := Nat.le_trans Z0 E7.1
  have Ks12 := Nat.le_trans (Nat.zero_le _) E7.1
  have Kp13 : Keep h0 h3 [] := (Keep.refl h0 []).ext E7
  have Ks14 : k4 ≤ h3.size := by rw [← e6]; exact hk9
  refine g_callS 6 rfl C X5 (argsL := [(.ref b0), (.ref o1)]) (hw _ (List.mem_of_getElem? (i := 86) rfl)) (hw _ (List.mem_of_getElem? (i := 35) rfl)) (hw _ (List.mem_of_getElem? (i := 37) rfl)) (hw _ (List.mem_of_getElem? (i := 36) rfl)) e6 (rm5 l Z a0 hw [] b0 o1 h3 n0 Zs11) (lenOf pd_40943338 rfl) (by decide) (by decide) (by decide) (by decide) rfl (W := 0) (Nat.le_of_eq rfl) (by decide) d12_3 rfl fun r15 T16 Lc17 X18 hQ19 => ?_
  obtain ⟨rfl, Nq20, eh21⟩ := hQ19
  have N22 := Fr.app N0 Nq20
  show Goes _ _ _ _ _ _ 6 _ [(.ref b0)]
  refine g_pop 7 rfl C X18 d12_6 rfl ?_
  refine g_aloadN 8 rfl C X18 d12_7 rfl rfl ?_
  refine g_len 9 rfl C X18 eh21 F10 (32 : Int32) rfl d12_8 ?_
  refine g_bipush 11 rfl C X18 (32 : Int32) d12_9 rfl ?_
  refine g_icmp_eq_t 29 C X18 d12_11 (by decide) (by decide) (by decide) ?_
  refine g_aloadN 30 rfl C X18 d12_29 rfl rfl ?_
  exact w_retA C X18 S8 (by rw [eh21]; exact Ks14) rfl rfl rfl rfl d12_30 eh21 (by decide) (by decide) ⟨rfl, N22, Kp13⟩
theorem d8_0 : decode prog_20_method_1_code 0 = .ok (.aload_n 0, 1) := by decide +kernel
theorem d8_1 : decode prog_20_method_1_code 1 = .ok (.invokespecial 3, 3) := by decide +kernel
theorem d8_4 : decode prog_20_method_1_code 4 = .ok (.aload_n 1, 1) := by decide +kernel
theorem d8_5 : decode prog_20_method_1_code 5 = .ok (.ldc 9, 2) := by decide +kernel
theorem d8_7 : decode prog_20_method_1_code 7 = .ok (.invokestatic 11, 3) := by decide +kernel
theorem d8_10 : decode prog_20_method_1_code 10 = .ok (.pop, 1) := by decide +kernel
theorem d8_11 : decode prog_20_method_1_code 11 = .ok (.lload_n 2, 1) := by decide +kernel
theorem d8_12 : decode prog_20_method_1_code 12 = .ok (.lconst 0, 1) := by decide +kernel
theorem d8_13 : decode prog_20_method_1_code 13 = .ok (.lcmp, 1) := by decide +kernel
theorem d8_14 : decode prog_20_method_1_code 14 = .ok (.ifCond .lt 11, 3) := by decide +kernel
theorem d8_17 : decode prog_20_method_1_code 17 = .ok (.lload_n 2, 1) := by decide +kernel
theorem d8_18 : decode prog_20_method_1_code 18 = .ok (.ldc2_w 19, 3) := by decide +kernel
theorem d8_21 : decode prog_20_method_1_code 21 = .ok (.lcmp, 1) := by decide +kernel
theorem d8_22 : decode prog_20_method_1_code 22 = .ok (.ifCond .le 17, 3) := by decide +kernel
theorem d8_39 : decode prog_20_method_1_code 39 = .ok (.aload 4, 2) := by decide +kernel
theorem d8_41 : decode prog_20_method_1_code 41 = .ok (.ifnonnull 7, 3) := by decide +kernel
theorem d8_44 : decode prog_20_method_1_code 44 = .ok (.aconst_null, 1) := by decide +kernel
theorem d8_45 : decode prog_20_method_1_code 45 = .ok (.goto 14, 3) := by decide +kernel
theorem d8_59 : decode prog_20_method_1_code 59 = .ok (.astore 4, 2) := by decide +kernel
theorem d8_61 : decode prog_20_method_1_code 61 = .ok (.aload_n 0, 1) := by decide +kernel
theorem d8_62 : decode prog_20_method_1_code 62 = .ok (.aload_n 1, 1) := by decide +kernel
theorem d8_63 : decode prog_20_method_1_code 63 = .ok (.putfield 40, 3) := by decide +kernel
theorem d8_66 : decode prog_20_method_1_code 66 = .ok (.aload_n 0, 1) := by decide +kernel
theorem d8_67 : decode prog_20_method_1_code 67 = .ok (.lload_n 2, 1) := by decide +kernel
theorem d8_68 : decode prog_20_method_1_code 68 = .ok (.putfield 43, 3) := by decide +kernel
theorem d8_71 : decode prog_20_method_1_code 71 = .ok (.aload_n 0, 1) := by decide +kernel
theorem d8_72 : decode prog_20_method_1_code 72 = .ok (.aload 4, 2) := by decide +kernel
theorem d8_74 : decode prog_20_method_1_code 74 = .ok (.putfield 47, 3) := by decide +kernel
theorem d8_77 : decode prog_20_method_1_code 77 = .ok (.return_, 1) := by decide +kernel
theorem pn_93593169 : plainName "com/example/vaglio/vaglio/filter/FilterSnapshot" = true := by first | (simp [plainName, overriddenIn]; done) | decide +kernel
theorem ef_8_0 (m : MethodId) (b0 : Addr) (b1 : Addr) (p2 : Int64) : entryFrame m #[(.ref b0), (.ref b1), (.long p2), .null] 5 = mkF m 0 #[.val (.ref b0), .val (.ref b1), .val (.long p2), .second, .val .null] [] := by first | (simp [entryFrame, mkF, argsToLocals, Value.category]; done) | rfl
def Q8_0 (Z : State) (b0 : Addr) (b1 : Addr) (p2 : Int64) (h0 : Heap) (n0 : Nat) (v : Option Value) (h : Heap) (L : List Loc) : Prop := v = none ∧ Fr n0 L ∧ Keep h0 h [b0] ∧ Exa Z h b0 "com/example/vaglio/vaglio/filter/FilterSnapshot" ∧ Fld Z h b0 "com/example/vaglio/vaglio/filter/FilterSnapshot" "filter" "Lcom/example/vaglio/vaglio/filter/Filter;" (.ref b1) ∧ Fld Z h b0 "com/example/vaglio/vaglio/filter/FilterSnapshot" "height" "J" (.long p2) ∧ Fld Z h b0 "com/example/vaglio/vaglio/filter/FilterSnapshot" "maskSeed" "[B" .null
set_option maxRecDepth 65536 in
set_option maxHeartbeats 40000000 in
theorem rm8_0 (l : Launch) (Z : State) (a0 : Array Value) (hw : ∀ d ∈ tables_1, d.before a0 Z = true) (ws : List Jvm.Cond) (b0 : Addr) (b1 : Addr) (p2 : Int64) (h0 : Heap) (n0 : Nat) (Z0 : n0 ≤ h0.size) (E_b0 : Exa Z h0 b0 "com/example/vaglio/vaglio/filter/FilterSnapshot") (F_b0_filter : Fld Z h0 b0 "com/example/vaglio/vaglio/filter/FilterSnapshot" "filter" "Lcom/example/vaglio/vaglio/filter/Filter;" .null) (F_b0_height : Fld Z h0 b0 "com/example/vaglio/vaglio/filter/FilterSnapshot" "height" "J" (.long (0 : Int64))) (F_b0_maskSeed : Fld Z h0 b0 "com/example/vaglio/vaglio/filter/FilterSnapshot" "maskSeed" "[B" .null) (g_b0 : n0 ≤ b0) (q2 : 0 ≤ p2.toInt ∧ p2.toInt ≤ 4294967295) :
    MetFree l (⟨"com/example/vaglio/vaglio/filter/FilterSnapshot", "<init>", "(Lcom/example/vaglio/vaglio/filter/Filter;J[B)V"⟩ : MethodName) (head1 (Jvm.Cond.code (⟨"com/example/vaglio/vaglio/filter/FilterSnapshot", "<init>", "(Lcom/example/vaglio/vaglio/filter/Filter;J[B)V"⟩ : MethodName) prog_20_method_1_code 5 none :: ws) ({ frames := 2, cells := 2, slots := 28, locals := 24 } : Room)) (fun a U => a = #[(.ref b0), (.ref b1), (.long p2), .null] ∧ Z.Warmed39 U.vm ∧ U.heap = h0) (fun _ _ _ _ _ => True) (fun _ U o U' => ∃ v L, o = .returned v ∧ Q8_0 Z b0 b1 p2 h0 n0 v U'.heap L ∧ ReturnedEndW U o U' L ({ frames := 2, cells := 2, slots := 28, locals := 24 } : Room).cells ({ frames := 2, cells := 2, slots := 28, locals := 24 } : Room).slots) := by
  refine MetFree.of_bodySF (plainFor_of_name pn_93593169) hisR ?_
  intro p e s m args below meth c s₁ Bd hml0 hP hK
  obtain ⟨rfl, hZ, hh⟩ := hP
  have C : Ctx p (s.setVm s.vm) m meth c Z "com/example/vaglio/vaglio/filter/FilterSnapshot" "<init>" prog_20_method_1_code 5 none := Ctx.of Bd hml0 hZ
  have X0 : Stand p l e ({ frames := 2, cells := 2, slots := 28, locals := 24 } : Room) (s.setVm s.vm) m #[(.ref b0), (.ref b1), (.long p2), .null] below meth c s₁ [] 0 0 := Stand.of_body Bd
  have e0 : s₁.heap = h0 := by rw [← hh, Bd.state]; rfl
  have N0 := Fr.nil n0
  have hS0 : s.Since s.vm 0 := (State.WarmedH.refl s).since 0
  have own_strW := own_strA a0 hw
  refine Goes.enterW (ef_8_0 m b0 b1 p2) ?_
  clear hK hml0 hh
  refine g_aloadN 1 rfl C X0 d8_0 rfl rfl ?_
  refine g_callN 4 rfl C X0 (argsL := []) rfl rfl (hw _ (List.mem_of_getElem? (i := 59) rfl)) (hw _ (List.mem_of_getElem? (i := 11) rfl)) (hw _ (List.mem_of_getElem? (i := 14) rfl)) (hw _ (List.mem_of_getElem? (i := 13) rfl)) e0 (rm2 l Z a0 hw [] b0 h0 n0 Z0) (lenOf pd_16428534 rfl) (by decide) (by decide) (by decide) (by decide) rfl (W := 0) (Nat.le_of_eq rfl) (by decide) d8_1 rfl fun r1 T2 Lc3 X4 hQ5 => ?_
  obtain ⟨rfl, Nq6, eh7⟩ := hQ5
  have N8 := Fr.app N0 Nq6
  show Goes _ _ _ _ _ _ 4 _ []
  refine g_aloadN 5 rfl C X4 d8_4 rfl rfl ?_
  refine w_ldcS 7 rfl C X4 hS0 (by rw [eh7]; exact (Nat.zero_le _)) (hw _ (List.mem_of_getElem? (i := 60) rfl)) own_strW eh7 d8_5 24 (by decide) (by decide) (by decide) (by decide) fun o9 T10 h11 k12 C X13 e14 E15 S16 hk17 => ?_
  have F18 := E_b0.ext E15
  have F19 := F_b0_filter.ext E15
  have F20 := F_b0_height.ext E15
  have F21 := F_b0_maskSeed.ext E15
  have Zs22 := Nat.le_trans Z0 E15.1
  have Ks23 := Nat.le_trans (Nat.zero_le _) E15.1
  have Kp24 : Keep h0 h11 [b0] := (Keep.refl h0 [b0]).ext E15
  have Ks25 : k12 ≤ h11.size := by rw [← e14]; exact hk17
  refine g_callS 10 rfl C X13 (argsL := [(.ref b1), (.ref o9)]) (hw _ (List.mem_of_getElem? (i := 61) rfl)) (hw _ (List.mem_of_getElem? (i := 35) rfl)) (hw _ (List.mem_of_getElem? (i := 37) rfl)) (hw _ (List.mem_of_getElem? (i := 36) rfl)) e14 (rm5 l Z a0 hw [] b1 o9 h11 n0 Zs22) (lenOf pd_40943338 rfl) (by decide) (by decide) (by decide) (by decide) rfl (W := 0) (Nat.le_of_eq rfl) (by decide) d8_7 rfl fun r26 T27 Lc28 X29 hQ30 => ?_
  obtain ⟨rfl, Nq31, eh32⟩ := hQ30
  have N33 := Fr.app N8 Nq31
  show Goes _ _ _ _ _ _ 10 _ [(.ref b1)]
  refine g_pop 11 rfl C X29 d8_10 rfl ?_
  refine g_lloadN 12 rfl C X29 d8_11 rfl ?_
  refine g_lconst 13 rfl C X29 (0 : Int64) d8_12 rfl ?_
  refine g_lcmp 14 rfl C X29 d8_13 ?_
  have fr34 := rng64 p2
  have fc35 : (0 : Int64).toInt = 0 := rfl
  have hb36 : ¬ (p2.toInt < (0 : Int64).toInt) := by omega
  refine g_il_lt_f 17 rfl C X29 d8_14 hb36 ?_
  refine g_lloadN 18 rfl C X29 d8_17 rfl ?_
  refine g_ldc2 21 rfl C X29 (hw _ (List.mem_of_getElem? (i := 62) rfl)) d8_18 ?_
  refine g_lcmp 22 rfl C X29 d8_21 ?_
  have fc37 : (4294967295 : Int64).toInt = 4294967295 := rfl
  have hb38 : ¬ ((4294967295 : Int64).toInt < p2.toInt) := by omega
  refine g_il_le_t 39 C X29 d8_22 (by decide) (by decide) hb38 ?_
  refine g_aload 41 rfl C X29 d8_39 rfl rfl ?_
  refine g_ifnonnull_f 44 rfl C X29 d8_41 ?_
  refine g_null 45 rfl C X29 d8_44 ?_
  refine g_goto 59 C X29 d8_45 (by decide) (by decide) ?_
  refine g_astore 61 rfl C X29 #[.val (.ref b0), .val (.ref b1), .val (.long p2), .second, .val .null] d8_59 rfl rfl ?_
  refine g_aloadN 62 rfl C X29 d8_61 rfl rfl ?_
  refine g_aloadN 63 rfl C X29 d8_62 rfl rfl ?_
  refine g_putF 66 rfl C X29 (host := "") (Or.inl (hw _ (List.mem_of_getElem? (i := 63) rfl))) Via.refl eh32 F19 F18 (Or.inr ⟨(hw _ (List.mem_of_getElem? (i := 64) rfl)), rfl, rfl⟩) (hw _ (List.mem_of_getElem? (i := 54) rfl)) (ty := (.object "com/example/vaglio/vaglio/filter/Filter")) (by decide) rfl rfl d8_63 N33 g_b0 fun T39 h40 ls41 X42 e43 W44 N45 => ?_
  have F46 : Fld Z h40 b0 "com/example/vaglio/vaglio/filter/FilterSnapshot" "filter" "Lcom/example/vaglio/vaglio/filter/Filter;" (.ref b1) := F19.same W44
  have F47 := F18.wr W44
  have F48 := F20.other W44 (Or.inr (slot_ne (Or.inr (hw _ (List.mem_of_getElem? (i := 66) rfl))) (Or.inr (hw _ (List.mem_of_getElem? (i := 64) rfl))) (by decide) (t := .long) (t' := (.object "com/example/vaglio/vaglio/filter/Filter")) (by decide) (by decide)))
  have F49 := F21.other W44 (Or.inr (slot_ne (Or.inr (hw _ (List.mem_of_getElem? (i := 68) rfl))) (Or.inr (hw _ (List.mem_of_getElem? (i := 64) rfl))) (by decide) (t := (.array .byte)) (t' := (.object "com/example/vaglio/vaglio/filter/Filter")) (by decide) (by decide)))
  have Zs50 := Nat.le_trans Zs22 (Nat.le_of_eq W44.size.symm)
  have Ks51 := Nat.le_trans Ks25 (Nat.le_of_eq W44.size.symm)
  have Kp52 : Keep h0 h40 [b0] := Kp24.wr W44 (Or.inl (List.mem_of_getElem? (i := 0) rfl))
  refine g_aloadN 67 rfl C X42 d8_66 rfl rfl ?_
  refine g_lloadN 68 rfl C X42 d8_67 rfl ?_
  refine g_putF 71 rfl C X42 (host := "") (Or.inl (hw _ (List.mem_of_getElem? (i := 65) rfl))) Via.refl e43 F48 F47 (Or.inr ⟨(hw _ (List.mem_of_getElem? (i := 66) rfl)), rfl, rfl⟩) (hw _ (List.mem_of_getElem? (i := 54) rfl)) (ty := .long) (by decide) rfl rfl d8_68 N45 g_b0 fun T53 h54 ls55 X56 e57 W58 N59 => ?_
  have F60 : Fld Z h54 b0 "com/example/vaglio/vaglio/filter/FilterSnapshot" "height" "J" (.long p2) := F48.same W58
  have F61 := F47.wr W58
  have F62 := F46.other W58 (Or.inr (slot_ne (Or.inr (hw _ (List.mem_of_getElem? (i := 64) rfl))) (Or.inr (hw _ (List.mem_of_getElem? (i := 66) rfl))) (by decide) (t := (.object "com/example/vaglio/vaglio/filter/Filter")) (t' := .long) (by decide) (by decide)))
  have F63 := F49.other W58 (Or.inr (slot_ne (Or.inr (hw _ (List.mem_of_getElem? (i := 68) rfl))) (Or.inr (hw _ (List.mem_of_getElem? (i := 66) rfl))) (by decide) (t := (.array .byte)) (t' := .long) (by decide) (by decide)))
  have Zs64 := Nat.le_trans Zs50 (Nat.le_of_eq W58.size.symm)
  have Ks65 := Nat.le_trans Ks51 (Nat.le_of_eq W58.size.symm)
  have Kp66 : Keep h0 h54 [b0] := Kp52.wr W58 (Or.inl (List.mem_of_getElem? (i := 0) rfl))
  refine g_aloadN 72 rfl C X56 d8_71 rfl rfl ?_
  refine g_aload 74 rfl C X56 d8_72 rfl rfl ?_
  refine g_putF 77 rfl C X56 (host := "") (Or.inl (hw _ (List.mem_of_getElem? (i := 67) rfl))) Via.refl e57 F63 F61 (Or.inr ⟨(hw _ (List.mem_of_getElem? (i := 68) rfl)), rfl, rfl⟩) (hw _ (List.mem_of_getElem? (i := 54) rfl)) (ty := (.array .byte)) (by decide) rfl rfl d8_74 N59 g_b0 fun T67 h68 ls69 X70 e71 W72 N73 => ?_
  have F74 : Fld Z h68 b0 "com/example/vaglio/vaglio/filter/FilterSnapshot" "maskSeed" "[B" .null := F63.same W72
  have F75 := F61.wr W72
  have F76 := F62.other W72 (Or.inr (slot_ne (Or.inr (hw _ (List.mem_of_getElem? (i := 64) rfl))) (Or.inr (hw _ (List.mem_of_getElem? (i := 68) rfl))) (by decide) (t := (.object "com/example/vaglio/vaglio/filter/Filter")) (t' := (.array .byte)) (by decide) (by decide)))
  have F77 := F60.other W72 (Or.inr (slot_ne (Or.inr (hw _ (List.mem_of_getElem? (i := 66) rfl))) (Or.inr (hw _ (List.mem_of_getElem? (i := 68) rfl))) (by decide) (t := .long) (t' := (.array .byte)) (by decide) (by decide)))
  have Zs78 := Nat.le_trans Zs64 (Nat.le_of_eq W72.size.symm)
  have Ks79 := Nat.le_trans Ks65 (Nat.le_of_eq W72.size.symm)
  have Kp80 : Keep h0 h68 [b0] := Kp66.wr W72 (Or.inl (List.mem_of_getElem? (i := 0) rfl))
  exact w_retV C X70 S16 (by rw [e71]; exact Ks79) rfl d8_77 e71 (by decide) (by decide) ⟨rfl, N73, Kp80, F75, F76, F77, F74⟩
theorem d8_48 : decode prog_20_method_1_code 48 = .ok (.aload 4, 2) := by decide +kernel
theorem d8_50 : decode prog_20_method_1_code 50 = .ok (.invokestatic 30, 3) := by decide +kernel
theorem pd_20178412 : parseMethodDescriptor "([B)[B" = some ⟨[(.array .byte)], some (.array .byte)⟩ := by decide +kernel
theorem d8_53 : decode prog_20_method_1_code 53 = .ok (.invokevirtual 34, 3) := by decide +kernel
theorem d8_56 : decode prog_20_method_1_code 56 = .ok (.checkcast 35, 3) := by decide +kernel
theorem ef_8_1 (m : MethodId) (b0 : Addr) (b1 : Addr) (p2 : Int64) (b3 : Addr) : entryFrame m #[(.ref b0), (.ref b1), (.long p2), (.ref b3)] 5 = mkF m 0 #[.val (.ref b0), .val (.ref b1), .val (.long p2), .second, .val (.ref b3)] [] := by first | (simp [entryFrame, mkF, argsToLocals, Value.category]; done) | rfl
def Q8_1 (Z : State) (b0 : Addr) (b1 : Addr) (p2 : Int64) (b3 : Addr) (f : Nat → Int32) (h0 : Heap) (n0 : Nat) (v : Option Value) (h : Heap) (L : List Loc) : Prop := ∃ w, v = none ∧ Fr n0 L ∧ Keep h0 h [b0] ∧ Exa Z h b0 "com/example/vaglio/vaglio/filter/FilterSnapshot" ∧ Fld Z h b0 "com/example/vaglio/vaglio/filter/FilterSnapshot" "filter" "Lcom/example/vaglio/vaglio/filter/Filter;" (.ref b1) ∧ Fld Z h b0 "com/example/vaglio/vaglio/filter/FilterSnapshot" "height" "J" (.long p2) ∧ Fld Z h b0 "com/example/vaglio/vaglio/filter/FilterSnapshot" "maskSeed" "[B" (.ref w) ∧ h0.size ≤ w ∧ Ba Z h w .byte 32 f ∧ Exa Z h w "[B"
set_option maxRecDepth 65536 in
set_option maxHeartbeats 40000000 in
theorem rm8_1 (l : Launch) (Z : State) (a0 : Array Value) (hw : ∀ d ∈ tables_1, d.before a0 Z = true) (ws : List Jvm.Cond) (b0 : Addr) (b1 : Addr) (p2 : Int64) (b3 : Addr) (f : Nat → Int32) (h0 : Heap) (n0 : Nat) (Z0 : n0 ≤ h0.size) (E_b0 : Exa Z h0 b0 "com/example/vaglio/vaglio/filter/FilterSnapshot") (F_b0_filter : Fld Z h0 b0 "com/example/vaglio/vaglio/filter/FilterSnapshot" "filter" "Lcom/example/vaglio/vaglio/filter/Filter;" .null) (F_b0_height : Fld Z h0 b0 "com/example/vaglio/vaglio/filter/FilterSnapshot" "height" "J" (.long (0 : Int64))) (F_b0_maskSeed : Fld Z h0 b0 "com/example/vaglio/vaglio/filter/FilterSnapshot" "maskSeed" "[B" .null) (g_b0 : n0 ≤ b0) (q2 : 0 ≤ p2.toInt ∧ p2.toInt ≤ 4294967295) (B_b3 : Ba Z h0 b3 .byte 32 f) (E_b3 : Exa Z h0 b3 "[B") (hfit : ∀ k, k < 32 → fits .byte (.int (f k)) = true) (ne30 : b3 ≠ b0) :
    MetFree l (⟨"com/example/vaglio/vaglio/filter/FilterSnapshot", "<init>", "(Lcom/example/vaglio/vaglio/filter/Filter;J[B)V"⟩ : MethodName) (head1 (Jvm.Cond.code (⟨"com/example/vaglio/vaglio/filter/FilterSnapshot", "<init>", "(Lcom/example/vaglio/vaglio/filter/Filter;J[B)V"⟩ : MethodName) prog_20_method_1_code 5 none :: ws) ({ frames := 2, cells := 5, slots := 80, locals := 25 } : Room)) (fun a U => a = #[(.ref b0), (.ref b1), (.long p2), (.ref b3)] ∧ Z.Warmed39 U.vm ∧ U.heap = h0) (fun _ _ _ _ _ => True) (fun _ U o U' => ∃ v L, o = .returned v ∧ Q8_1 Z b0 b1 p2 b3 f h0 n0 v U'.heap L ∧ ReturnedEndW U o U' L ({ frames := 2, cells := 5, slots := 80, locals := 25 } : Room).cells ({ frames := 2, cells := 5, slots := 80, locals := 25 } : Room).slots) := by
  refine MetFree.of_bodySF (plainFor_of_name pn_93593169) hisR ?_
  intro p e s m args below meth c s₁ Bd hml0 hP hK
  obtain ⟨rfl, hZ, hh⟩ := hP
  have C : Ctx p (s.setVm s.vm) m meth c Z "com/example/vaglio/vaglio/filter/FilterSnapshot" "<init>" prog_20_method_1_code 5 none := Ctx.of Bd hml0 hZ
  have X0 : Stand p l e ({ frames := 2, cells := 5, slots := 80, locals := 25 } : Room) (s.setVm s.vm) m #[(.ref b0), (.ref b1), (.long p2), (.ref b3)] below meth c s₁ [] 0 0 := Stand.of_body Bd
  have e0 : s₁.heap = h0 := by rw [← hh, Bd.state]; rfl
  have N0 := Fr.nil n0
  have hS0 : s.Since s.vm 0 := (State.WarmedH.refl s).since 0
  have own_strW := own_strA a0 hw
  refine Goes.enterW (ef_8_1 m b0 b1 p2 b3) ?_
  clear hK hml0 hh
  refine g_aloadN 1 rfl C X0 d8_0 rfl rfl ?_
  refine g_callN 4 rfl C X0 (argsL := []) rfl rfl (hw _ (List.mem_of_getElem? (i := 59) rfl)) (hw _ (List.mem_of_getElem? (i := 11) rfl)) (hw _ (List.mem_of_getElem? (i := 14) rfl)) (hw _ (List.mem_of_getElem? (i := 13) rfl)) e0 (rm2 l Z a0 hw [] b0 h0 n0 Z0) (lenOf pd_16428534 rfl) (by decide) (by decide) (by decide) (by decide) rfl (W := 0) (Nat.le_of_eq rfl) (by decide) d8_1 rfl fun r1 T2 Lc3 X4 hQ5 => ?_
  obtain ⟨rfl, Nq6, eh7⟩ := hQ5
  have N8 := Fr.app N0 Nq6
  show Goes _ _ _ _ _ _ 4 _ []
  refine g_aloadN 5 rfl C X4 d8_4 rfl rfl ?_
  refine w_ldcS 7 rfl C X4 hS0 (by rw [eh7]; exact (Nat.zero_le _)) (hw _ (List.mem_of_getElem? (i := 60) rfl)) own_strW eh7 d8_5 24 (by decide) (by decide) (by decide) (by decide) fun o9 T10 h11 k12 C X13 e14 E15 S16 hk17 => ?_
  have F18 := E_b0.ext E15
  have F19 := F_b0_filter.ext E15
  have F20 := F_b0_height.ext E15
  have F21 := F_b0_maskSeed.ext E15
  have F22 := B_b3.ext E15
  have F23 := E_b3.ext E15
  have Zs24 := Nat.le_trans Z0 E15.1
  have Ks25 := Nat.le_trans (Nat.zero_le _) E15.1
  have Kp26 : Keep h0 h11 [b0] := (Keep.refl h0 [b0]).ext E15
  have Ks27 : k12 ≤ h11.size := by rw [← e14]; exact hk17
  refine g_callS 10 rfl C X13 (argsL := [(.ref b1), (.ref o9)]) (hw _ (List.mem_of_getElem? (i := 61) rfl)) (hw _ (List.mem_of_getElem? (i := 35) rfl)) (hw _ (List.mem_of_getElem? (i := 37) rfl)) (hw _ (List.mem_of_getElem? (i := 36) rfl)) e14 (rm5 l Z a0 hw [] b1 o9 h11 n0 Zs24) (lenOf pd_40943338 rfl) (by decide) (by decide) (by decide) (by decide) rfl (W := 0) (Nat.le_of_eq rfl) (by decide) d8_7 rfl fun r28 T29 Lc30 X31 hQ32 => ?_
  obtain ⟨rfl, Nq33, eh34⟩ := hQ32
  have N35 := Fr.app N8 Nq33
  show Goes _ _ _ _ _ _ 10 _ [(.ref b1)]
  refine g_pop 11 rfl C X31 d8_10 rfl ?_
  refine g_lloadN 12 rfl C X31 d8_11 rfl ?_
  refine g_lconst 13 rfl C X31 (0 : Int64) d8_12 rfl ?_
  refine g_lcmp 14 rfl C X31 d8_13 ?_
  have fr36 := rng64 p2
  have fc37 : (0 : Int64).toInt = 0 := rfl
  have hb38 : ¬ (p2.toInt < (0 : Int64).toInt) := by omega
  refine g_il_lt_f 17 rfl C X31 d8_14 hb38 ?_
  refine g_lloadN 18 rfl C X31 d8_17 rfl ?_
  refine g_ldc2 21 rfl C X31 (hw _ (List.mem_of_getElem? (i := 62) rfl)) d8_18 ?_
  refine g_lcmp 22 rfl C X31 d8_21 ?_
  have fc39 : (4294967295 : Int64).toInt = 4294967295 := rfl
  have hb40 : ¬ ((4294967295 : Int64).toInt < p2.toInt) := by omega
  refine g_il_le_t 39 C X31 d8_22 (by decide) (by decide) hb40 ?_
  refine g_aload 41 rfl C X31 d8_39 rfl rfl ?_
  refine g_ifnonnull_t 48 C X31 d8_41 (by decide) (by decide) ?_
  refine g_aload 50 rfl C X31 d8_48 rfl rfl ?_
  refine w_callS 53 rfl C X31 S16 (by rw [eh34]; exact Ks27) (argsL := [(.ref b3)]) (hw _ (List.mem_of_getElem? (i := 81) rfl)) (hw _ (List.mem_of_getElem? (i := 82) rfl)) (hw _ (List.mem_of_getElem? (i := 84) rfl)) (hw _ (List.mem_of_getElem? (i := 83) rfl)) eh34 (rm12 l Z a0 hw [] b3 f h11 n0 Zs24 F22) (lenOf pd_20178412 rfl) (by decide) (by decide) (by decide) (by decide) rfl (W := 0) (Nat.le_of_eq rfl) (by decide) d8_50 rfl fun r41 T42 Lc43 k46 C X44 S47 hk48 hQ45 => ?_
  obtain ⟨rfl, Nq49, Kc50⟩ := hQ45
  have F51 := F18.keep Kc50
  have F52 := F19.keep Kc50 nin0
  have F53 := F20.keep Kc50 nin0
  have F54 := F21.keep Kc50 nin0
  have F55 := F22.keep Kc50 nin0
  have F56 := F23.keep Kc50
  have Zs57 := Nat.le_trans Zs24 Kc50.1
  have Ks58 := Nat.le_trans Ks27 Kc50.1
  have Kp59 : Keep h0 T42.heap [b0] := Keep.trans Kp26 Kc50 all0
  have N60 := Fr.app N35 Nq49
  show Goes _ _ _ _ _ _ 53 _ [(.ref b3)]
  refine g_clone 56 rfl C X44 (hw _ (List.mem_of_getElem? (i := 87) rfl)) (hw _ (List.mem_of_getElem? (i := 88) rfl)) (hw _ (List.mem_of_getElem? (i := 92) rfl)) (hw _ (List.mem_of_getElem? (i := 90) rfl)) (hw _ (List.mem_of_getElem? (i := 91) rfl)) (hw _ (List.mem_of_getElem? (i := 93) rfl)) rfl F55 F56 hfit d8_53 rfl (by decide) (W := 0) (Nat.le_of_eq rfl) (by decide) (by decide) (by decide) fun T61 h62 o63 g64 X65 e66 E67 B68 A69 => ?_
  have ne70 : b0 ≠ o63 := by rw [g64]; exact Nat.ne_of_lt F51.lt
  have ne71 : b3 ≠ o63 := by rw [g64]; exact Nat.ne_of_lt F55.lt
  have gn72 : n0 ≤ o63 := by rw [g64]; exact Zs57
  have sz73 : h0.size ≤ o63 := by rw [g64]; exact Kp59.1
  have F74 := F51.ext E67
  have F75 := F52.ext E67
  have F76 := F53.ext E67
  have F77 := F54.ext E67
  have F78 := F55.ext E67
  have F79 := F56.ext E67
  have Zs80 := Nat.le_trans Zs57 E67.1
  have Ks81 := Nat.le_trans hk48 E67.1
  have Kp82 : Keep h0 h62 [b0] := Kp59.ext E67
  refine g_cast 59 rfl C X65 (hw _ (List.mem_of_getElem? (i := 94) rfl)) e66 (Ins.self A69) d8_56 fun T83 X84 e85 => ?_
  refine g_astore 61 rfl C X84 #[.val (.ref b0), .val (.ref b1), .val (.long p2), .second, .val (.ref o63)] d8_59 rfl rfl ?_
  refine g_aloadN 62 rfl C X84 d8_61 rfl rfl ?_
  refine g_aloadN 63 rfl C X84 d8_62 rfl rfl ?_
  refine g_putF 66 rfl C X84 (host := "") (Or.inl (hw _ (List.mem_of_getElem? (i := 63) rfl))) Via.refl e85 F75 F74 (Or.inr ⟨(hw _ (List.mem_of_getElem? (i := 64) rfl)), rfl, rfl⟩) (hw _ (List.mem_of_getElem? (i := 54) rfl)) (ty := (.object "com/example/vaglio/vaglio/filter/Filter")) (by decide) rfl rfl d8_63 N60 g_b0 fun T86 h87 ls88 X89 e90 W91 N92 => ?_
  have F93 : Fld Z h87 b0 "com/example/vaglio/vaglio/filter/FilterSnapshot" "filter" "Lcom/example/vaglio/vaglio/filter/Filter;" (.ref b1) := F75.same W91
  have F94 := F74.wr W91
  have F95 := F76.other W91 (Or.inr (slot_ne (Or.inr (hw _ (List.mem_of_getElem? (i := 66) rfl))) (Or.inr (hw _ (List.mem_of_getElem? (i := 64) rfl))) (by decide) (t := .long) (t' := (.object "com/example/vaglio/vaglio/filter/Filter")) (by decide) (by decide)))
  have F96 := F77.other W91 (Or.inr (slot_ne (Or.inr (hw _ (List.mem_of_getElem? (i := 68) rfl))) (Or.inr (hw _ (List.mem_of_getElem? (i := 64) rfl))) (by decide) (t := (.array .byte)) (t' := (.object "com/example/vaglio/vaglio/filter/Filter")) (by decide) (by decide)))
  have F97 := F78.other W91 ne30
  have F98 := F79.wr W91
  have F99 := B68.other W91 (Ne.symm ne70)
  have F100 := A69.wr W91
  have Zs101 := Nat.le_trans Zs80 (Nat.le_of_eq W91.size.symm)
  have Ks102 := Nat.le_trans Ks81 (Nat.le_of_eq W91.size.symm)
  have Kp103 : Keep h0 h87 [b0] := Kp82.wr W91 (Or.inl (List.mem_of_getElem? (i := 0) rfl))
  refine g_aloadN 67 rfl C X89 d8_66 rfl rfl ?_
  refine g_lloadN 68 rfl C X89 d8_67 rfl ?_
  refine g_putF 71 rfl C X89 (host := "") (Or.inl (hw _ (List.mem_of_getElem? (i := 65) rfl))) Via.refl e90 F95 F94 (Or.inr ⟨(hw _ (List.mem_of_getElem? (i := 66) rfl)), rfl, rfl⟩) (hw _ (List.mem_of_getElem? (i := 54) rfl)) (ty := .long) (by decide) rfl rfl d8_68 N92 g_b0 fun T104 h105 ls106 X107 e108 W109 N110 => ?_
  have F111 : Fld Z h105 b0 "com/example/vaglio/vaglio/filter/FilterSnapshot" "height" "J" (.long p2) := F95.same W109
  have F112 := F94.wr W109
  have F113 := F93.other W109 (Or.inr (slot_ne (Or.inr (hw _ (List.mem_of_getElem? (i := 64) rfl))) (Or.inr (hw _ (List.mem_of_getElem? (i := 66) rfl))) (by decide) (t := (.object "com/example/vaglio/vaglio/filter/Filter")) (t' := .long) (by decide) (by decide)))
  have F114 := F96.other W109 (Or.inr (slot_ne (Or.inr (hw _ (List.mem_of_getElem? (i := 68) rfl))) (Or.inr (hw _ (List.mem_of_getElem? (i := 66) rfl))) (by decide) (t := (.array .byte)) (t' := .long) (by decide) (by decide)))
  have F115 := F97.other W109 ne30
  have F116 := F98.wr W109
  have F117 := F99.other W109 (Ne.symm ne70)
  have F118 := F100.wr W109
  have Zs119 := Nat.le_trans Zs101 (Nat.le_of_eq W109.size.symm)
  have Ks120 := Nat.le_trans Ks102 (Nat.le_of_eq W109.size.symm)
  have Kp121 : Keep h0 h105 [b0] := Kp103.wr W109 (Or.inl (List.mem_of_getElem? (i := 0) rfl))
  refine g_aloadN 72 rfl C X107 d8_71 rfl rfl ?_
  refine g_aload 74 rfl C X107 d8_72 rfl rfl ?_
  refine g_putF 77 rfl C X107 (host := "") (Or.inl (hw _ (List.mem_of_getElem? (i := 67) rfl))) Via.refl e108 F114 F112 (Or.inr ⟨(hw _ (List.mem_of_getElem? (i := 68) rfl)), rfl, rfl⟩) (hw _ (List.mem_of_getElem? (i := 54) rfl)) (ty := (.array .byte)) (by decide) rfl rfl d8_74 N110 g_b0 fun T122 h123 ls124 X125 e126 W127 N128 => ?_
  have F129 : Fld Z h123 b0 "com/example/vaglio/vaglio/filter/FilterSnapshot" "maskSeed" "[B" (.ref o63) := F114.same W127
  have F130 := F112.wr W127
  have F131 := F113.other W127 (Or.inr (slot_ne (Or.inr (hw _ (List.mem_of_getElem? (i := 64) rfl))) (Or.inr (hw _ (List.mem_of_getElem? (i := 68) rfl))) (by decide) (t := (.object "com/example/vaglio/vaglio/filter/Filter")) (t' := (.array .byte)) (by decide) (by decide)))
  have F132 := F111.other W127 (Or.inr (slot_ne (Or.inr (hw _ (List.mem_of_getElem? (i := 66) rfl))) (Or.inr (hw _ (List.mem_of_getElem? (i := 68) rfl))) (by decide) (t := .long) (t' := (.array .byte)) (by decide) (by decide)))
  have F133 := F115.other W127 ne30
  have F134 := F116.wr W127
  have F135 := F117.other W127 (Ne.symm ne70)
  have F136 := F118.wr W127
  have Zs137 := Nat.le_trans Zs119 (Nat.le_of_eq W127.size.symm)
  have Ks138 := Nat.le_trans Ks120 (Nat.le_of_eq W127.size.symm)
  have Kp139 : Keep h0 h123 [b0] := Kp121.wr W127 (Or.inl (List.mem_of_getElem? (i := 0) rfl))
  exact w_retV C X125 S47 (by rw [e126]; exact Ks138) rfl d8_77 e126 (by decide) (by decide) ⟨o63, rfl, N128, Kp139, F130, F131, F132, F129, sz73, F135, F136⟩
theorem d9_0 : decode prog_20_method_3_code 0 = .ok (.aload_n 0, 1) := by decide +kernel
theorem d9_1 : decode prog_20_method_3_code 1 = .ok (.getfield 47, 3) := by decide +kernel
theorem d9_4 : decode prog_20_method_3_code 4 = .ok (.ifnonnull 7, 3) := by decide +kernel
theorem d9_7 : decode prog_20_method_3_code 7 = .ok (.aconst_null, 1) := by decide +kernel
theorem d9_8 : decode prog_20_method_3_code 8 = .ok (.goto 13, 3) := by decide +kernel
theorem d9_21 : decode prog_20_method_3_code 21 = .ok (.areturn, 1) := by decide +kernel
theorem ef_9_0 (m : MethodId) (b0 : Addr) : entryFrame m #[(.ref b0)] 1 = mkF m 0 #[.val (.ref b0)] [] := by first | (simp [entryFrame, mkF, argsToLocals, Value.category]; done) | rfl
def Q9_0 (Z : State) (b0 : Addr) (h0 : Heap) (n0 : Nat) (v : Option Value) (h : Heap) (L : List Loc) : Prop := v = some .null ∧ Fr n0 L ∧ h = h0
set_option maxRecDepth 65536 in
set_option maxHeartbeats 40000000 in
theorem rm9_0 (l : Launch) (Z : State) (a0 : Array Value) (hw : ∀ d ∈ tables_1, d.before a0 Z = true) (ws : List Jvm.Cond) (b0 : Addr) (h0 : Heap) (n0 : Nat) (Z0 : n0 ≤ h0.size) (F_b0_maskSeed : Fld Z h0 b0 "com/example/vaglio/vaglio/filter/FilterSnapshot" "maskSeed" "[B" .null) :
    MetFree l (⟨"com/example/vaglio/vaglio/filter/FilterSnapshot", "maskSeed", "()[B"⟩ : MethodName) (head1 (Jvm.Cond.code (⟨"com/example/vaglio/vaglio/filter/FilterSnapshot", "maskSeed", "()[B"⟩ : MethodName) prog_20_method_3_code 1 (some (.array .byte)) :: ws) ({ frames := 0, cells := 0, slots := 0, locals := 0 } : Room)) (fun a U => a = #[(.ref b0)] ∧ Z.Warmed39 U.vm ∧ U.heap = h0) (fun _ _ _ _ _ => True) (fun _ U o U' => ∃ v L, o = .returned v ∧ Q9_0 Z b0 h0 n0 v U'.heap L ∧ FrameEnd U o U' L ({ frames := 0, cells := 0, slots := 0, locals := 0 } : Room).cells ({ frames := 0, cells := 0, slots := 0, locals := 0 } : Room).slots) := by
  refine MetFree.of_bodySF (plainFor_of_name pn_93593169) hisR ?_
  intro p e s m args below meth c s₁ Bd hml0 hP hK
  obtain ⟨rfl, hZ, hh⟩ := hP
  have C : Ctx p s m meth c Z "com/example/vaglio/vaglio/filter/FilterSnapshot" "maskSeed" prog_20_method_3_code 1 (some (.array .byte)) := Ctx.of Bd hml0 hZ
  have X0 : Stand p l e ({ frames := 0, cells := 0, slots := 0, locals := 0 } : Room) s m #[(.ref b0)] below meth c s₁ [] 0 0 := Stand.of_body Bd
  have e0 : s₁.heap = h0 := by rw [← hh, Bd.state]; rfl
  have N0 := Fr.nil n0
  refine Goes.enter (ef_9_0 m b0) ?_
  clear hK hml0 hh
  refine g_aloadN 1 rfl C X0 d9_0 rfl rfl ?_
  refine g_getF 4 rfl C X0 (host := "") (Or.inl (hw _ (List.mem_of_getElem? (i := 67) rfl))) Via.refl e0 F_b0_maskSeed d9_1 fun T1 X2 e3 => ?_
  refine g_ifnonnull_f 7 rfl C X2 d9_4 ?_
  refine g_null 8 rfl C X2 d9_7 ?_
  refine g_goto 21 C X2 d9_8 (by decide) (by decide) ?_
  exact g_retA C X2 rfl rfl rfl rfl d9_21 e3 (by decide) (by decide) ⟨rfl, N0, rfl⟩
theorem d9_11 : decode prog_20_method_3_code 11 = .ok (.aload_n 0, 1) := by decide +kernel
theorem d9_12 : decode prog_20_method_3_code 12 = .ok (.getfield 47, 3) := by decide +kernel
theorem d9_15 : decode prog_20_method_3_code 15 = .ok (.invokevirtual 34, 3) := by decide +kernel
theorem d9_18 : decode prog_20_method_3_code 18 = .ok (.checkcast 35, 3) := by decide +kernel
theorem ef_9_1 (m : MethodId) (b0 : Addr) : entryFrame m #[(.ref b0)] 1 = mkF m 0 #[.val (.ref b0)] [] := by first | (simp [entryFrame, mkF, argsToLocals, Value.category]; done) | rfl
def Q9_1 (Z : State) (b0 : Addr) (w1 : Addr) (f : Nat → Int32) (h0 : Heap) (n0 : Nat) (v : Option Value) (h : Heap) (L : List Loc) : Prop := ∃ a, v = some (.ref a) ∧ Fr n0 L ∧ Keep h0 h [] ∧ h0.size ≤ a ∧ Ba Z h a .byte 32 f
set_option maxRecDepth 65536 in
set_option maxHeartbeats 40000000 in
theorem rm9_1 (l : Launch) (Z : State) (a0 : Array Value) (hw : ∀ d ∈ tables_1, d.before a0 Z = true) (ws : List Jvm.Cond) (b0 : Addr) (w1 : Addr) (f : Nat → Int32) (h0 : Heap) (n0 : Nat) (Z0 : n0 ≤ h0.size) (F_b0_maskSeed : Fld Z h0 b0 "com/example/vaglio/vaglio/filter/FilterSnapshot" "maskSeed" "[B" (.ref w1)) (B_w1 : Ba Z h0 w1 .byte 32 f) (E_w1 : Exa Z h0 w1 "[B") (hfit : ∀ k, k < 32 → fits .byte (.int (f k)) = true) :
    MetFree l (⟨"com/example/vaglio/vaglio/filter/FilterSnapshot", "maskSeed", "()[B"⟩ : MethodName) (head1 (Jvm.Cond.code (⟨"com/example/vaglio/vaglio/filter/FilterSnapshot", "maskSeed", "()[B"⟩ : MethodName) prog_20_method_3_code 1 (some (.array .byte)) :: ws) ({ frames := 1, cells := 1, slots := 32, locals := 14 } : Room)) (fun a U => a = #[(.ref b0)] ∧ Z.Warmed39 U.vm ∧ U.heap = h0) (fun _ _ _ _ _ => True) (fun _ U o U' => ∃ v L, o = .returned v ∧ Q9_1 Z b0 w1 f h0 n0 v U'.heap L ∧ FrameEnd U o U' L ({ frames := 1, cells := 1, slots := 32, locals := 14 } : Room).cells ({ frames := 1, cells := 1, slots := 32, locals := 14 } : Room).slots) := by
  refine MetFree.of_bodySF (plainFor_of_name pn_93593169) hisR ?_
  intro p e s m args below meth c s₁ Bd hml0 hP hK
  obtain ⟨rfl, hZ, hh⟩ := hP
  have C : Ctx p s m meth c Z "com/example/vaglio/vaglio/filter/FilterSnapshot" "maskSeed" prog_20_method_3_code 1 (some (.array .byte)) := Ctx.of Bd hml0 hZ
  have X0 : Stand p l e ({ frames := 1, cells := 1, slots := 32, locals := 14 } : Room) s m #[(.ref b0)] below meth c s₁ [] 0 0 := Stand.of_body Bd
  have e0 : s₁.heap = h0 := by rw [← hh, Bd.state]; rfl
  have N0 := Fr.nil n0
  refine Goes.enter (ef_9_1 m b0) ?_
  clear hK hml0 hh
  refine g_aloadN 1 rfl C X0 d9_0 rfl rfl ?_
  refine g_getF 4 rfl C X0 (host := "") (Or.inl (hw _ (List.mem_of_getElem? (i := 67) rfl))) Via.refl e0 F_b0_maskSeed d9_1 fun T1 X2 e3 => ?_
  refine g_ifnonnull_t 11 C X2 d9_4 (by decide) (by decide) ?_
  refine g_aloadN 12 rfl C X2 d9_11 rfl rfl ?_
  refine g_getF 15 rfl C X2 (host := "") (Or.inl (hw _ (List.mem_of_getElem? (i := 67) rfl))) Via.refl e3 F_b0_maskSeed d9_12 fun T4 X5 e6 => ?_
  refine g_clone 18 rfl C X5 (hw _ (List.mem_of_getElem? (i := 87) rfl)) (hw _ (List.mem_of_getElem? (i := 88) rfl)) (hw _ (List.mem_of_getElem? (i := 92) rfl)) (hw _ (List.mem_of_getElem? (i := 90) rfl)) (hw _ (List.mem_of_getElem? (i := 91) rfl)) (hw _ (List.mem_of_getElem? (i := 93) rfl)) e6 B_w1 E_w1 hfit d9_15 rfl (by decide) (W := 0) (Nat.le_of_eq rfl) (by decide) (by decide) (by decide) fun T7 h8 o9 g10 X11 e12 E13 B14 A15 => ?_
  have ne16 : b0 ≠ o9 := by rw [g10]; exact Nat.ne_of_lt F_b0_maskSeed.lt
  have ne17 : w1 ≠ o9 := by rw [g10]; exact Nat.ne_of_lt B_w1.lt
  have gn18 : n0 ≤ o9 := by rw [g10]; exact Z0
  have sz19 : h0.size ≤ o9 := by rw [g10]; exact (Keep.refl h0 []).1
  have F20 := F_b0_maskSeed.ext E13
  have F21 := B_w1.ext E13
  have F22 := E_w1.ext E13
  have Zs23 := Nat.le_trans Z0 E13.1
  have Kp24 : Keep h0 h8 [] := (Keep.refl h0 []).ext E13
  refine g_cast 21 rfl C X11 (hw _ (List.mem_of_getElem? (i := 94) rfl)) e12 (Ins.self A15) d9_18 fun T25 X26 e27 => ?_
  exact g_retA C X26 rfl rfl rfl rfl d9_21 e27 (by decide) (by decide) ⟨o9, rfl, N0, Kp24, sz19, B14⟩
def own_put8 (f : Nat → Int32) (o : Nat) (v : Int64) : Nat → Int32 := (upd (upd (upd (upd (upd (upd (upd (upd f o ((((v).toInt32).toInt8.toInt32).toInt8.toInt32)) (o + 1) ((((((v).toUInt64 >>> ((8 : Int32) &&& 0x3f).toInt64.toUInt64).toInt64).toInt32).toInt8.toInt32).toInt8.toInt32)) (o + 2) ((((((v).toUInt64 >>> ((16 : Int32) &&& 0x3f).toInt64.toUInt64).toInt64).toInt32).toInt8.toInt32).toInt8.toInt32)) (o + 3) ((((((v).toUInt64 >>> ((24 : Int32) &&& 0x3f).toInt64.toUInt64).toInt64).toInt32).toInt8.toInt32).toInt8.toInt32)) (o + 4) ((((((v).toUInt64 >>> ((32 : Int32) &&& 0x3f).toInt64.toUInt64).toInt64).toInt32).toInt8.toInt32).toInt8.toInt32)) (o + 5) ((((((v).toUInt64 >>> ((40 : Int32) &&& 0x3f).toInt64.toUInt64).toInt64).toInt32).toInt8.toInt32).toInt8.toInt32)) (o + 6) ((((((v).toUInt64 >>> ((48 : Int32) &&& 0x3f).toInt64.toUInt64).toInt64).toInt32).toInt8.toInt32).toInt8.toInt32)) (o + 7) ((((((v).toUInt64 >>> ((56 : Int32) &&& 0x3f).toInt64.toUInt64).toInt64).toInt32).toInt8.toInt32).toInt8.toInt32))
theorem own_updfit {f : Nat → Int32} (hf : ∀ k, fits .byte (.int (f k)) = true) {j : Nat} {v : Int32} (hv : fits .byte (.int v) = true) : ∀ k, fits .byte (.int (upd f j v k)) = true := fun k => by
  rw [upd_eq]; split
  · exact hv
  · exact hf k
theorem own_put8fit {f : Nat → Int32} (hf : ∀ k, fits .byte (.int (f k)) = true) (o : Nat) (v : Int64) : ∀ k, fits .byte (.int (own_put8 f o v k)) = true :=
  own_updfit (own_updfit (own_updfit (own_updfit (own_updfit (own_updfit (own_updfit (own_updfit hf (fits_nar_byte _)) (fits_nar_byte _)) (fits_nar_byte _)) (fits_nar_byte _)) (fits_nar_byte _)) (fits_nar_byte _)) (fits_nar_byte _)) (fits_nar_byte _)
def own_fill (a b c d : Int64) : Nat → Int32 := own_put8 (own_put8 (own_put8 (own_put8 (fun _ => 0) 0 a) 8 b) 16 c) 24 d
theorem own_fillfit (a b c d : Int64) : ∀ k, k < 32 → fits .byte (.int (own_fill a b c d k)) = true := fun k _ => own_put8fit (own_put8fit (own_put8fit (own_put8fit (fun _ => rfl) 0 a) 8 b) 16 c) 24 d k
theorem d11_0 : decode method_4_code 0 = .ok (.aload_n 0, 1) := by decide +kernel
theorem d11_1 : decode method_4_code 1 = .ok (.iload_n 1, 1) := by decide +kernel
theorem d11_2 : decode method_4_code 2 = .ok (.lload_n 2, 1) := by decide +kernel
theorem d11_3 : decode method_4_code 3 = .ok (.l2i, 1) := by decide +kernel
theorem d11_4 : decode method_4_code 4 = .ok (.i2b, 1) := by decide +kernel
theorem d11_5 : decode method_4_code 5 = .ok (.bastore, 1) := by decide +kernel
theorem d11_6 : decode method_4_code 6 = .ok (.aload_n 0, 1) := by decide +kernel
theorem d11_7 : decode method_4_code 7 = .ok (.iload_n 1, 1) := by decide +kernel
theorem d11_8 : decode method_4_code 8 = .ok (.iconst 1, 1) := by decide +kernel
theorem d11_9 : decode method_4_code 9 = .ok (.iadd, 1) := by decide +kernel
theorem d11_10 : decode method_4_code 10 = .ok (.lload_n 2, 1) := by decide +kernel
theorem d11_11 : decode method_4_code 11 = .ok (.bipush 8, 2) := by decide +kernel
theorem d11_13 : decode method_4_code 13 = .ok (.lushr, 1) := by decide +kernel
theorem d11_14 : decode method_4_code 14 = .ok (.l2i, 1) := by decide +kernel
theorem d11_15 : decode method_4_code 15 = .ok (.i2b, 1) := by decide +kernel
theorem d11_16 : decode method_4_code 16 = .ok (.bastore, 1) := by decide +kernel
theorem d11_17 : decode method_4_code 17 = .ok (.aload_n 0, 1) := by decide +kernel
theorem d11_18 : decode method_4_code 18 = .ok (.iload_n 1, 1) := by decide +kernel
theorem d11_19 : decode method_4_code 19 = .ok (.iconst 2, 1) := by decide +kernel
theorem d11_20 : decode method_4_code 20 = .ok (.iadd, 1) := by decide +kernel
theorem d11_21 : decode method_4_code 21 = .ok (.lload_n 2, 1) := by decide +kernel
theorem d11_22 : decode method_4_code 22 = .ok (.bipush 16, 2) := by decide +kernel
theorem d11_24 : decode method_4_code 24 = .ok (.lushr, 1) := by decide +kernel
theorem d11_25 : decode method_4_code 25 = .ok (.l2i, 1) := by decide +kernel
theorem d11_26 : decode method_4_code 26 = .ok (.i2b, 1) := by decide +kernel
theorem d11_27 : decode method_4_code 27 = .ok (.bastore, 1) := by decide +kernel
theorem d11_28 : decode method_4_code 28 = .ok (.aload_n 0, 1) := by decide +kernel
theorem d11_29 : decode method_4_code 29 = .ok (.iload_n 1, 1) := by decide +kernel
theorem d11_30 : decode method_4_code 30 = .ok (.iconst 3, 1) := by decide +kernel
theorem d11_31 : decode method_4_code 31 = .ok (.iadd, 1) := by decide +kernel
theorem d11_32 : decode method_4_code 32 = .ok (.lload_n 2, 1) := by decide +kernel
theorem d11_33 : decode method_4_code 33 = .ok (.bipush 24, 2) := by decide +kernel
theorem d11_35 : decode method_4_code 35 = .ok (.lushr, 1) := by decide +kernel
theorem d11_36 : decode method_4_code 36 = .ok (.l2i, 1) := by decide +kernel
theorem d11_37 : decode method_4_code 37 = .ok (.i2b, 1) := by decide +kernel
theorem d11_38 : decode method_4_code 38 = .ok (.bastore, 1) := by decide +kernel
theorem d11_39 : decode method_4_code 39 = .ok (.aload_n 0, 1) := by decide +kernel
theorem d11_40 : decode method_4_code 40 = .ok (.iload_n 1, 1) := by decide +kernel
theorem d11_41 : decode method_4_code 41 = .ok (.iconst 4, 1) := by decide +kernel
theorem d11_42 : decode method_4_code 42 = .ok (.iadd, 1) := by decide +kernel
theorem d11_43 : decode method_4_code 43 = .ok (.lload_n 2, 1) := by decide +kernel
theorem d11_44 : decode method_4_code 44 = .ok (.bipush 32, 2) := by decide +kernel
theorem d11_46 : decode method_4_code 46 = .ok (.lushr, 1) := by decide +kernel
theorem d11_47 : decode method_4_code 47 = .ok (.l2i, 1) := by decide +kernel
theorem d11_48 : decode method_4_code 48 = .ok (.i2b, 1) := by decide +kernel
theorem d11_49 : decode method_4_code 49 = .ok (.bastore, 1) := by decide +kernel
theorem d11_50 : decode method_4_code 50 = .ok (.aload_n 0, 1) := by decide +kernel
theorem d11_51 : decode method_4_code 51 = .ok (.iload_n 1, 1) := by decide +kernel
theorem d11_52 : decode method_4_code 52 = .ok (.iconst 5, 1) := by decide +kernel
theorem d11_53 : decode method_4_code 53 = .ok (.iadd, 1) := by decide +kernel
theorem d11_54 : decode method_4_code 54 = .ok (.lload_n 2, 1) := by decide +kernel
theorem d11_55 : decode method_4_code 55 = .ok (.bipush 40, 2) := by decide +kernel
theorem d11_57 : decode method_4_code 57 = .ok (.lushr, 1) := by decide +kernel
theorem d11_58 : decode method_4_code 58 = .ok (.l2i, 1) := by decide +kernel
theorem d11_59 : decode method_4_code 59 = .ok (.i2b, 1) := by decide +kernel
theorem d11_60 : decode method_4_code 60 = .ok (.bastore, 1) := by decide +kernel
theorem d11_61 : decode method_4_code 61 = .ok (.aload_n 0, 1) := by decide +kernel
theorem d11_62 : decode method_4_code 62 = .ok (.iload_n 1, 1) := by decide +kernel
theorem d11_63 : decode method_4_code 63 = .ok (.bipush 6, 2) := by decide +kernel
theorem d11_65 : decode method_4_code 65 = .ok (.iadd, 1) := by decide +kernel
theorem d11_66 : decode method_4_code 66 = .ok (.lload_n 2, 1) := by decide +kernel
theorem d11_67 : decode method_4_code 67 = .ok (.bipush 48, 2) := by decide +kernel
theorem d11_69 : decode method_4_code 69 = .ok (.lushr, 1) := by decide +kernel
theorem d11_70 : decode method_4_code 70 = .ok (.l2i, 1) := by decide +kernel
theorem d11_71 : decode method_4_code 71 = .ok (.i2b, 1) := by decide +kernel
theorem d11_72 : decode method_4_code 72 = .ok (.bastore, 1) := by decide +kernel
theorem d11_73 : decode method_4_code 73 = .ok (.aload_n 0, 1) := by decide +kernel
theorem d11_74 : decode method_4_code 74 = .ok (.iload_n 1, 1) := by decide +kernel
theorem d11_75 : decode method_4_code 75 = .ok (.bipush 7, 2) := by decide +kernel
theorem d11_77 : decode method_4_code 77 = .ok (.iadd, 1) := by decide +kernel
theorem d11_78 : decode method_4_code 78 = .ok (.lload_n 2, 1) := by decide +kernel
theorem d11_79 : decode method_4_code 79 = .ok (.bipush 56, 2) := by decide +kernel
theorem d11_81 : decode method_4_code 81 = .ok (.lushr, 1) := by decide +kernel
theorem d11_82 : decode method_4_code 82 = .ok (.l2i, 1) := by decide +kernel
theorem d11_83 : decode method_4_code 83 = .ok (.i2b, 1) := by decide +kernel
theorem d11_84 : decode method_4_code 84 = .ok (.bastore, 1) := by decide +kernel
theorem d11_85 : decode method_4_code 85 = .ok (.return_, 1) := by decide +kernel
theorem pn_58263735 : plainName "com/example/vaglio/vaglio/filter/FilterSnapshotMaskSeedPinLaw" = true := by first | (simp [plainName, overriddenIn]; done) | decide +kernel
theorem ef_11_0 (m : MethodId) (b0 : Addr) (p2 : Int64) : entryFrame m #[(.ref b0), (.int (0 : Int32)), (.long p2)] 4 = mkF m 0 #[.val (.ref b0), .val (.int (0 : Int32)), .val (.long p2), .second] [] := by first | (simp [entryFrame, mkF, argsToLocals, Value.category]; done) | rfl
def Q11_0 (Z : State) (b0 : Addr) (p2 : Int64) (f : Nat → Int32) (h0 : Heap) (n0 : Nat) (v : Option Value) (h : Heap) (L : List Loc) : Prop := v = none ∧ Fr n0 L ∧ Keep h0 h [b0] ∧ Ba Z h b0 .byte 32 (own_put8 f 0 p2)
set_option maxRecDepth 65536 in
set_option maxHeartbeats 40000000 in
theorem rm11_0 (l : Launch) (Z : State) (a0 : Array Value) (hw : ∀ d ∈ tables_1, d.before a0 Z = true) (ws : List Jvm.Cond) (b0 : Addr) (p2 : Int64) (f : Nat → Int32) (h0 : Heap) (n0 : Nat) (Z0 : n0 ≤ h0.size) (B_b0 : Ba Z h0 b0 .byte 32 f) (g_b0 : n0 ≤ b0) :
    MetFree l (⟨"com/example/vaglio/vaglio/filter/FilterSnapshotMaskSeedPinLaw", "put8", "([BIJ)V"⟩ : MethodName) (head1 (Jvm.Cond.code (⟨"com/example/vaglio/vaglio/filter/FilterSnapshotMaskSeedPinLaw", "put8", "([BIJ)V"⟩ : MethodName) method_4_code 4 none :: ws) ({ frames := 0, cells := 0, slots := 0, locals := 0 } : Room)) (fun a U => a = #[(.ref b0), (.int (0 : Int32)), (.long p2)] ∧ Z.Warmed39 U.vm ∧ U.heap = h0) (fun _ _ _ _ _ => True) (fun _ U o U' => ∃ v L, o = .returned v ∧ Q11_0 Z b0 p2 f h0 n0 v U'.heap L ∧ FrameEnd U o U' L ({ frames := 0, cells := 0, slots := 0, locals := 0 } : Room).cells ({ frames := 0, cells := 0, slots := 0, locals := 0 } : Room).slots) := by
  refine MetFree.of_bodySF (plainFor_of_name pn_58263735) hisR ?_
  intro p e s m args below meth c s₁ Bd hml0 hP hK
  obtain ⟨rfl, hZ, hh⟩ := hP
  have C : Ctx p s m meth c Z "com/example/vaglio/vaglio/filter/FilterSnapshotMaskSeedPinLaw" "put8" method_4_code 4 none := Ctx.of Bd hml0 hZ
  have X0 : Stand p l e ({ frames := 0, cells := 0, slots := 0, locals := 0 } : Room) s m #[(.ref b0), (.int (0 : Int32)), (.long p2)] below meth c s₁ [] 0 0 := Stand.of_body Bd
  have e0 : s₁.heap = h0 := by rw [← hh, Bd.state]; rfl
  have N0 := Fr.nil n0
  refine Goes.enter (ef_11_0 m b0 p2) ?_
  clear hK hml0 hh
  refine g_aloadN 1 rfl C X0 d11_0 rfl rfl ?_
  refine g_iloadN 2 rfl C X0 d11_1 rfl ?_
  refine g_lloadN 3 rfl C X0 d11_2 rfl ?_
  refine g_l2i 4 rfl C X0 d11_3 ?_
  refine g_i2b 5 rfl C X0 d11_4 ?_
  obtain ⟨w1, hw1⟩ : ∃ z : Int32, ((((((p2).toInt32)).toInt8.toInt32)).toInt8.toInt32) = z := ⟨_, rfl⟩
  refine g_bastore 6 rfl C X0 e0 B_b0 0 (by decide) (by decide) w1 hw1 d11_5 N0 g_b0 fun T2 h3 ls4 X5 e6 W7 B8 N9 => ?_
  have Zs10 := Nat.le_trans Z0 (Nat.le_of_eq W7.size.symm)
  have Kp11 : Keep h0 h3 [b0] := (Keep.refl h0 [b0]).wr W7 (Or.inl (List.mem_of_getElem? (i := 0) rfl))
  refine g_aloadN 7 rfl C X5 d11_6 rfl rfl ?_
  refine g_iloadN 8 rfl C X5 d11_7 rfl ?_
  refine g_iconst 9 rfl C X5 (1 : Int32) d11_8 rfl ?_
  refine g_iadd 10 rfl C X5 d11_9 ?_
  refine g_lloadN 11 rfl C X5 d11_10 rfl ?_
  refine g_bipush 13 rfl C X5 (8 : Int32) d11_11 rfl ?_
  refine g_lushr 14 rfl C X5 d11_13 ?_
  refine g_l2i 15 rfl C X5 d11_14 ?_
  refine g_i2b 16 rfl C X5 d11_15 ?_
  obtain ⟨w12, hw12⟩ : ∃ z : Int32, (((((((((p2).toUInt64 >>> ((8 : Int32) &&& 0x3f).toInt64.toUInt64).toInt64)).toInt32)).toInt8.toInt32)).toInt8.toInt32) = z := ⟨_, rfl⟩
  refine g_bastore 17 rfl C X5 e6 B8 1 (by decide) (by decide) w12 hw12 d11_16 N9 g_b0 fun T13 h14 ls15 X16 e17 W18 B19 N20 => ?_
  have Zs21 := Nat.le_trans Zs10 (Nat.le_of_eq W18.size.symm)
  have Kp22 : Keep h0 h14 [b0] := Kp11.wr W18 (Or.inl (List.mem_of_getElem? (i := 0) rfl))
  refine g_aloadN 18 rfl C X16 d11_17 rfl rfl ?_
  refine g_iloadN 19 rfl C X16 d11_18 rfl ?_
  refine g_iconst 20 rfl C X16 (2 : Int32) d11_19 rfl ?_
  refine g_iadd 21 rfl C X16 d11_20 ?_
  refine g_lloadN 22 rfl C X16 d11_21 rfl ?_
  refine g_bipush 24 rfl C X16 (16 : Int32) d11_22 rfl ?_
  refine g_lushr 25 rfl C X16 d11_24 ?_
  refine g_l2i 26 rfl C X16 d11_25 ?_
  refine g_i2b 27 rfl C X16 d11_26 ?_
  obtain ⟨w23, hw23⟩ : ∃ z : Int32, (((((((((p2).toUInt64 >>> ((16 : Int32) &&& 0x3f).toInt64.toUInt64).toInt64)).toInt32)).toInt8.toInt32)).toInt8.toInt32) = z := ⟨_, rfl⟩
  refine g_bastore 28 rfl C X16 e17 B19 2 (by decide) (by decide) w23 hw23 d11_27 N20 g_b0 fun T24 h25 ls26 X27 e28 W29 B30 N31 => ?_
  have Zs32 := Nat.le_trans Zs21 (Nat.le_of_eq W29.size.symm)
  have Kp33 : Keep h0 h25 [b0] := Kp22.wr W29 (Or.inl (List.mem_of_getElem? (i := 0) rfl))
  refine g_aloadN 29 rfl C X27 d11_28 rfl rfl ?_
  refine g_iloadN 30 rfl C X27 d11_29 rfl ?_
  refine g_iconst 31 rfl C X27 (3 : Int32) d11_30 rfl ?_
  refine g_iadd 32 rfl C X27 d11_31 ?_
  refine g_lloadN 33 rfl C X27 d11_32 rfl ?_
  refine g_bipush 35 rfl C X27 (24 : Int32) d11_33 rfl ?_
  refine g_lushr 36 rfl C X27 d11_35 ?_
  refine g_l2i 37 rfl C X27 d11_36 ?_
  refine g_i2b 38 rfl C X27 d11_37 ?_
  obtain ⟨w34, hw34⟩ : ∃ z : Int32, (((((((((p2).toUInt64 >>> ((24 : Int32) &&& 0x3f).toInt64.toUInt64).toInt64)).toInt32)).toInt8.toInt32)).toInt8.toInt32) = z := ⟨_, rfl⟩
  refine g_bastore 39 rfl C X27 e28 B30 3 (by decide) (by decide) w34 hw34 d11_38 N31 g_b0 fun T35 h36 ls37 X38 e39 W40 B41 N42 => ?_
  have Zs43 := Nat.le_trans Zs32 (Nat.le_of_eq W40.size.symm)
  have Kp44 : Keep h0 h36 [b0] := Kp33.wr W40 (Or.inl (List.mem_of_getElem? (i := 0) rfl))
  refine g_aloadN 40 rfl C X38 d11_39 rfl rfl ?_
  refine g_iloadN 41 rfl C X38 d11_40 rfl ?_
  refine g_iconst 42 rfl C X38 (4 : Int32) d11_41 rfl ?_
  refine g_iadd 43 rfl C X38 d11_42 ?_
  refine g_lloadN 44 rfl C X38 d11_43 rfl ?_
  refine g_bipush 46 rfl C X38 (32 : Int32) d11_44 rfl ?_
  refine g_lushr 47 rfl C X38 d11_46 ?_
  refine g_l2i 48 rfl C X38 d11_47 ?_
  refine g_i2b 49 rfl C X38 d11_48 ?_
  obtain ⟨w45, hw45⟩ : ∃ z : Int32, (((((((((p2).toUInt64 >>> ((32 : Int32) &&& 0x3f).toInt64.toUInt64).toInt64)).toInt32)).toInt8.toInt32)).toInt8.toInt32) = z := ⟨_, rfl⟩
  refine g_bastore 50 rfl C X38 e39 B41 4 (by decide) (by decide) w45 hw45 d11_49 N42 g_b0 fun T46 h47 ls48 X49 e50 W51 B52 N53 => ?_
  have Zs54 := Nat.le_trans Zs43 (Nat.le_of_eq W51.size.symm)
  have Kp55 : Keep h0 h47 [b0] := Kp44.wr W51 (Or.inl (List.mem_of_getElem? (i := 0) rfl))
  refine g_aloadN 51 rfl C X49 d11_50 rfl rfl ?_
  refine g_iloadN 52 rfl C X49 d11_51 rfl ?_
  refine g_iconst 53 rfl C X49 (5 : Int32) d11_52 rfl ?_
  refine g_iadd 54 rfl C X49 d11_53 ?_
  refine g_lloadN 55 rfl C X49 d11_54 rfl ?_
  refine g_bipush 57 rfl C X49 (40 : Int32) d11_55 rfl ?_
  refine g_lushr 58 rfl C X49 d11_57 ?_
  refine g_l2i 59 rfl C X49 d11_58 ?_
  refine g_i2b 60 rfl C X49 d11_59 ?_
  obtain ⟨w56, hw56⟩ : ∃ z : Int32, (((((((((p2).toUInt64 >>> ((40 : Int32) &&& 0x3f).toInt64.toUInt64).toInt64)).toInt32)).toInt8.toInt32)).toInt8.toInt32) = z := ⟨_, rfl⟩
  refine g_bastore 61 rfl C X49 e50 B52 5 (by decide) (by decide) w56 hw56 d11_60 N53 g_b0 fun T57 h58 ls59 X60 e61 W62 B63 N64 => ?_
  have Zs65 := Nat.le_trans Zs54 (Nat.le_of_eq W62.size.symm)
  have Kp66 : Keep h0 h58 [b0] := Kp55.wr W62 (Or.inl (List.mem_of_getElem? (i := 0) rfl))
  refine g_aloadN 62 rfl C X60 d11_61 rfl rfl ?_
  refine g_iloadN 63 rfl C X60 d11_62 rfl ?_
  refine g_bipush 65 rfl C X60 (6 : Int32) d11_63 rfl ?_
  refine g_iadd 66 rfl C X60 d11_65 ?_
  refine g_lloadN 67 rfl C X60 d11_66 rfl ?_
  refine g_bipush 69 rfl C X60 (48 : Int32) d11_67 rfl ?_
  refine g_lushr 70 rfl C X60 d11_69 ?_
  refine g_l2i 71 rfl C X60 d11_70 ?_
  refine g_i2b 72 rfl C X60 d11_71 ?_
  obtain ⟨w67, hw67⟩ : ∃ z : Int32, (((((((((p2).toUInt64 >>> ((48 : Int32) &&& 0x3f).toInt64.toUInt64).toInt64)).toInt32)).toInt8.toInt32)).toInt8.toInt32) = z := ⟨_, rfl⟩
  refine g_bastore 73 rfl C X60 e61 B63 6 (by decide) (by decide) w67 hw67 d11_72 N64 g_b0 fun T68 h69 ls70 X71 e72 W73 B74 N75 => ?_
  have Zs76 := Nat.le_trans Zs65 (Nat.le_of_eq W73.size.symm)
  have Kp77 : Keep h0 h69 [b0] := Kp66.wr W73 (Or.inl (List.mem_of_getElem? (i := 0) rfl))
  refine g_aloadN 74 rfl C X71 d11_73 rfl rfl ?_
  refine g_iloadN 75 rfl C X71 d11_74 rfl ?_
  refine g_bipush 77 rfl C X71 (7 : Int32) d11_75 rfl ?_
  refine g_iadd 78 rfl C X71 d11_77 ?_
  refine g_lloadN 79 rfl C X71 d11_78 rfl ?_
  refine g_bipush 81 rfl C X71 (56 : Int32) d11_79 rfl ?_
  refine g_lushr 82 rfl C X71 d11_81 ?_
  refine g_l2i 83 rfl C X71 d11_82 ?_
  refine g_i2b 84 rfl C X71 d11_83 ?_
  obtain ⟨w78, hw78⟩ : ∃ z : Int32, (((((((((p2).toUInt64 >>> ((56 : Int32) &&& 0x3f).toInt64.toUInt64).toInt64)).toInt32)).toInt8.toInt32)).toInt8.toInt32) = z := ⟨_, rfl⟩
  refine g_bastore 85 rfl C X71 e72 B74 7 (by decide) (by decide) w78 hw78 d11_84 N75 g_b0 fun T79 h80 ls81 X82 e83 W84 B85 N86 => ?_
  have Zs87 := Nat.le_trans Zs76 (Nat.le_of_eq W84.size.symm)
  have Kp88 : Keep h0 h80 [b0] := Kp77.wr W84 (Or.inl (List.mem_of_getElem? (i := 0) rfl))
  subst hw1 hw12 hw23 hw34 hw45 hw56 hw67 hw78
  exact g_retV C X82 rfl d11_85 e83 (by decide) (by decide) ⟨rfl, N86, Kp88, B85⟩
theorem ef_11_8 (m : MethodId) (b0 : Addr) (p2 : Int64) : entryFrame m #[(.ref b0), (.int (8 : Int32)), (.long p2)] 4 = mkF m 0 #[.val (.ref b0), .val (.int (8 : Int32)), .val (.long p2), .second] [] := by first | (simp [entryFrame, mkF, argsToLocals, Value.category]; done) | rfl
def Q11_8 (Z : State) (b0 : Addr) (p2 : Int64) (f : Nat → Int32) (h0 : Heap) (n0 : Nat) (v : Option Value) (h : Heap) (L : List Loc) : Prop := v = none ∧ Fr n0 L ∧ Keep h0 h [b0] ∧ Ba Z h b0 .byte 32 (own_put8 f 8 p2)
set_option maxRecDepth 65536 in
set_option maxHeartbeats 40000000 in
theorem rm11_8 (l : Launch) (Z : State) (a0 : Array Value) (hw : ∀ d ∈ tables_1, d.before a0 Z = true) (ws : List Jvm.Cond) (b0 : Addr) (p2 : Int64) (f : Nat → Int32) (h0 : Heap) (n0 : Nat) (Z0 : n0 ≤ h0.size) (B_b0 : Ba Z h0 b0 .byte 32 f) (g_b0 : n0 ≤ b0) :
    MetFree l (⟨"com/example/vaglio/vaglio/filter/FilterSnapshotMaskSeedPinLaw", "put8", "([BIJ)V"⟩ : MethodName) (head1 (Jvm.Cond.code (⟨"com/example/vaglio/vaglio/filter/FilterSnapshotMaskSeedPinLaw", "put8", "([BIJ)V"⟩ : MethodName) method_4_code 4 none :: ws) ({ frames := 0, cells := 0, slots := 0, locals := 0 } : Room)) (fun a U => a = #[(.ref b0), (.int (8 : Int32)), (.long p2)] ∧ Z.Warmed39 U.vm ∧ U.heap = h0) (fun _ _ _ _ _ => True) (fun _ U o U' => ∃ v L, o = .returned v ∧ Q11_8 Z b0 p2 f h0 n0 v U'.heap L ∧ FrameEnd U o U' L ({ frames := 0, cells := 0, slots := 0, locals := 0 } : Room).cells ({ frames := 0, cells := 0, slots := 0, locals := 0 } : Room).slots) := by
  refine MetFree.of_bodySF (plainFor_of_name pn_58263735) hisR ?_
  intro p e s m args below meth c s₁ Bd hml0 hP hK
  obtain ⟨rfl, hZ, hh⟩ := hP
  have C : Ctx p s m meth c Z "com/example/vaglio/vaglio/filter/FilterSnapshotMaskSeedPinLaw" "put8" method_4_code 4 none := Ctx.of Bd hml0 hZ
  have X0 : Stand p l e ({ frames := 0, cells := 0, slots := 0, locals := 0 } : Room) s m #[(.ref b0), (.int (8 : Int32)), (.long p2)] below meth c s₁ [] 0 0 := Stand.of_body Bd
  have e0 : s₁.heap = h0 := by rw [← hh, Bd.state]; rfl
  have N0 := Fr.nil n0
  refine Goes.enter (ef_11_8 m b0 p2) ?_
  clear hK hml0 hh
  refine g_aloadN 1 rfl C X0 d11_0 rfl rfl ?_
  refine g_iloadN 2 rfl C X0 d11_1 rfl ?_
  refine g_lloadN 3 rfl C X0 d11_2 rfl ?_
  refine g_l2i 4 rfl C X0 d11_3 ?_
  refine g_i2b 5 rfl C X0 d11_4 ?_
  obtain ⟨w1, hw1⟩ : ∃ z : Int32, ((((((p2).toInt32)).toInt8.toInt32)).toInt8.toInt32) = z := ⟨_, rfl⟩
  refine g_bastore 6 rfl C X0 e0 B_b0 8 (by decide) (by decide) w1 hw1 d11_5 N0 g_b0 fun T2 h3 ls4 X5 e6 W7 B8 N9 => ?_
  have Zs10 := Nat.le_trans Z0 (Nat.le_of_eq W7.size.symm)
  have Kp11 : Keep h0 h3 [b0] := (Keep.refl h0 [b0]).wr W7 (Or.inl (List.mem_of_getElem? (i := 0) rfl))
  refine g_aloadN 7 rfl C X5 d11_6 rfl rfl ?_
  refine g_iloadN 8 rfl C X5 d11_7 rfl ?_
  refine g_iconst 9 rfl C X5 (1 : Int32) d11_8 rfl ?_
  refine g_iadd 10 rfl C X5 d11_9 ?_
  refine g_lloadN 11 rfl C X5 d11_10 rfl ?_
  refine g_bipush 13 rfl C X5 (8 : Int32) d11_11 rfl ?_
  refine g_lushr 14 rfl C X5 d11_13 ?_
  refine g_l2i 15 rfl C X5 d11_14 ?_
  refine g_i2b 16 rfl C X5 d11_15 ?_
  obtain ⟨w12, hw12⟩ : ∃ z : Int32, (((((((((p2).toUInt64 >>> ((8 : Int32) &&& 0x3f).toInt64.toUInt64).toInt64)).toInt32)).toInt8.toInt32)).toInt8.toInt32) = z := ⟨_, rfl⟩
  refine g_bastore 17 rfl C X5 e6 B8 9 (by decide) (by decide) w12 hw12 d11_16 N9 g_b0 fun T13 h14 ls15 X16 e17 W18 B19 N20 => ?_
  have Zs21 := Nat.le_trans Zs10 (Nat.le_of_eq W18.size.symm)
  have Kp22 : Keep h0 h14 [b0] := Kp11.wr W18 (Or.inl (List.mem_of_getElem? (i := 0) rfl))
  refine g_aloadN 18 rfl C X16 d11_17 rfl rfl ?_
  refine g_iloadN 19 rfl C X16 d11_18 rfl ?_
  refine g_iconst 20 rfl C X16 (2 : Int32) d11_19 rfl ?_
  refine g_iadd 21 rfl C X16 d11_20 ?_
  refine g_lloadN 22 rfl C X16 d11_21 rfl ?_
  refine g_bipush 24 rfl C X16 (16 : Int32) d11_22 rfl ?_
  refine g_lushr 25 rfl C X16 d11_24 ?_
  refine g_l2i 26 rfl C X16 d11_25 ?_
  refine g_i2b 27 rfl C X16 d11_26 ?_
  obtain ⟨w23, hw23⟩ : ∃ z : Int32, (((((((((p2).toUInt64 >>> ((16 : Int32) &&& 0x3f).toInt64.toUInt64).toInt64)).toInt32)).toInt8.toInt32)).toInt8.toInt32) = z := ⟨_, rfl⟩
  refine g_bastore 28 rfl C X16 e17 B19 10 (by decide) (by decide) w23 hw23 d11_27 N20 g_b0 fun T24 h25 ls26 X27 e28 W29 B30 N31 => ?_
  have Zs32 := Nat.le_trans Zs21 (Nat.le_of_eq W29.size.symm)
  have Kp33 : Keep h0 h25 [b0] := Kp22.wr W29 (Or.inl (List.mem_of_getElem? (i := 0) rfl))
  refine g_aloadN 29 rfl C X27 d11_28 rfl rfl ?_
  refine g_iloadN 30 rfl C X27 d11_29 rfl ?_
  refine g_iconst 31 rfl C X27 (3 : Int32) d11_30 rfl ?_
  refine g_iadd 32 rfl C X27 d11_31 ?_
  refine g_lloadN 33 rfl C X27 d11_32 rfl ?_
  refine g_bipush 35 rfl C X27 (24 : Int32) d11_33 rfl ?_
  refine g_lushr 36 rfl C X27 d11_35 ?_
  refine g_l2i 37 rfl C X27 d11_36 ?_
  refine g_i2b 38 rfl C X27 d11_37 ?_
  obtain ⟨w34, hw34⟩ : ∃ z : Int32, (((((((((p2).toUInt64 >>> ((24 : Int32) &&& 0x3f).toInt64.toUInt64).toInt64)).toInt32)).toInt8.toInt32)).toInt8.toInt32) = z := ⟨_, rfl⟩
  refine g_bastore 39 rfl C X27 e28 B30 11 (by decide) (by decide) w34 hw34 d11_38 N31 g_b0 fun T35 h36 ls37 X38 e39 W40 B41 N42 => ?_
  have Zs43 := Nat.le_trans Zs32 (Nat.le_of_eq W40.size.symm)
  have Kp44 : Keep h0 h36 [b0] := Kp33.wr W40 (Or.inl (List.mem_of_getElem? (i := 0) rfl))
  refine g_aloadN 40 rfl C X38 d11_39 rfl rfl ?_
  refine g_iloadN 41 rfl C X38 d11_40 rfl ?_
  refine g_iconst 42 rfl C X38 (4 : Int32) d11_41 rfl ?_
  refine g_iadd 43 rfl C X38 d11_42 ?_
  refine g_lloadN 44 rfl C X38 d11_43 rfl ?_
  refine g_bipush 46 rfl C X38 (32 : Int32) d11_44 rfl ?_
  refine g_lushr 47 rfl C X38 d11_46 ?_
  refine g_l2i 48 rfl C X38 d11_47 ?_
  refine g_i2b 49 rfl C X38 d11_48 ?_
  obtain ⟨w45, hw45⟩ : ∃ z : Int32, (((((((((p2).toUInt64 >>> ((32 : Int32) &&& 0x3f).toInt64.toUInt64).toInt64)).toInt32)).toInt8.toInt32)).toInt8.toInt32) = z := ⟨_, rfl⟩
  refine g_bastore 50 rfl C X38 e39 B41 12 (by decide) (by decide) w45 hw45 d11_49 N42 g_b0 fun T46 h47 ls48 X49 e50 W51 B52 N53 => ?_
  have Zs54 := Nat.le_trans Zs43 (Nat.le_of_eq W51.size.symm)
  have Kp55 : Keep h0 h47 [b0] := Kp44.wr W51 (Or.inl (List.mem_of_getElem? (i := 0) rfl))
  refine g_aloadN 51 rfl C X49 d11_50 rfl rfl ?_
  refine g_iloadN 52 rfl C X49 d11_51 rfl ?_
  refine g_iconst 53 rfl C X49 (5 : Int32) d11_52 rfl ?_
  refine g_iadd 54 rfl C X49 d11_53 ?_
  refine g_lloadN 55 rfl C X49 d11_54 rfl ?_
  refine g_bipush 57 rfl C X49 (40 : Int32) d11_55 rfl ?_
  refine g_lushr 58 rfl C X49 d11_57 ?_
  refine g_l2i 59 rfl C X49 d11_58 ?_
  refine g_i2b 60 rfl C X49 d11_59 ?_
  obtain ⟨w56, hw56⟩ : ∃ z : Int32, (((((((((p2).toUInt64 >>> ((40 : Int32) &&& 0x3f).toInt64.toUInt64).toInt64)).toInt32)).toInt8.toInt32)).toInt8.toInt32) = z := ⟨_, rfl⟩
  refine g_bastore 61 rfl C X49 e50 B52 13 (by decide) (by decide) w56 hw56 d11_60 N53 g_b0 fun T57 h58 ls59 X60 e61 W62 B63 N64 => ?_
  have Zs65 := Nat.le_trans Zs54 (Nat.le_of_eq W62.size.symm)
  have Kp66 : Keep h0 h58 [b0] := Kp55.wr W62 (Or.inl (List.mem_of_getElem? (i := 0) rfl))
  refine g_aloadN 62 rfl C X60 d11_61 rfl rfl ?_
  refine g_iloadN 63 rfl C X60 d11_62 rfl ?_
  refine g_bipush 65 rfl C X60 (6 : Int32) d11_63 rfl ?_
  refine g_iadd 66 rfl C X60 d11_65 ?_
  refine g_lloadN 67 rfl C X60 d11_66 rfl ?_
  refine g_bipush 69 rfl C X60 (48 : Int32) d11_67 rfl ?_
  refine g_lushr 70 rfl C X60 d11_69 ?_
  refine g_l2i 71 rfl C X60 d11_70 ?_
  refine g_i2b 72 rfl C X60 d11_71 ?_
  obtain ⟨w67, hw67⟩ : ∃ z : Int32, (((((((((p2).toUInt64 >>> ((48 : Int32) &&& 0x3f).toInt64.toUInt64).toInt64)).toInt32)).toInt8.toInt32)).toInt8.toInt32) = z := ⟨_, rfl⟩
  refine g_bastore 73 rfl C X60 e61 B63 14 (by decide) (by decide) w67 hw67 d11_72 N64 g_b0 fun T68 h69 ls70 X71 e72 W73 B74 N75 => ?_
  have Zs76 := Nat.le_trans Zs65 (Nat.le_of_eq W73.size.symm)
  have Kp77 : Keep h0 h69 [b0] := Kp66.wr W73 (Or.inl (List.mem_of_getElem? (i := 0) rfl))
  refine g_aloadN 74 rfl C X71 d11_73 rfl rfl ?_
  refine g_iloadN 75 rfl C X71 d11_74 rfl ?_
  refine g_bipush 77 rfl C X71 (7 : Int32) d11_75 rfl ?_
  refine g_iadd 78 rfl C X71 d11_77 ?_
  refine g_lloadN 79 rfl C X71 d11_78 rfl ?_
  refine g_bipush 81 rfl C X71 (56 : Int32) d11_79 rfl ?_
  refine g_lushr 82 rfl C X71 d11_81 ?_
  refine g_l2i 83 rfl C X71 d11_82 ?_
  refine g_i2b 84 rfl C X71 d11_83 ?_
  obtain ⟨w78, hw78⟩ : ∃ z : Int32, (((((((((p2).toUInt64 >>> ((56 : Int32) &&& 0x3f).toInt64.toUInt64).toInt64)).toInt32)).toInt8.toInt32)).toInt8.toInt32) = z := ⟨_, rfl⟩
  refine g_bastore 85 rfl C X71 e72 B74 15 (by decide) (by decide) w78 hw78 d11_84 N75 g_b0 fun T79 h80 ls81 X82 e83 W84 B85 N86 => ?_
  have Zs87 := Nat.le_trans Zs76 (Nat.le_of_eq W84.size.symm)
  have Kp88 : Keep h0 h80 [b0] := Kp77.wr W84 (Or.inl (List.mem_of_getElem? (i := 0) rfl))
  subst hw1 hw12 hw23 hw34 hw45 hw56 hw67 hw78
  exact g_retV C X82 rfl d11_85 e83 (by decide) (by decide) ⟨rfl, N86, Kp88, B85⟩
theorem ef_11_16 (m : MethodId) (b0 : Addr) (p2 : Int64) : entryFrame m #[(.ref b0), (.int (16 : Int32)), (.long p2)] 4 = mkF m 0 #[.val (.ref b0), .val (.int (16 : Int32)), .val (.long p2), .second] [] := by first | (simp [entryFrame, mkF, argsToLocals, Value.category]; done) | rfl
def Q11_16 (Z : State) (b0 : Addr) (p2 : Int64) (f : Nat → Int32) (h0 : Heap) (n0 : Nat) (v : Option Value) (h : Heap) (L : List Loc) : Prop := v = none ∧ Fr n0 L ∧ Keep h0 h [b0] ∧ Ba Z h b0 .byte 32 (own_put8 f 16 p2)
set_option maxRecDepth 65536 in
set_option maxHeartbeats 40000000 in
theorem rm11_16 (l : Launch) (Z : State) (a0 : Array Value) (hw : ∀ d ∈ tables_1, d.before a0 Z = true) (ws : List Jvm.Cond) (b0 : Addr) (p2 : Int64) (f : Nat → Int32) (h0 : Heap) (n0 : Nat) (Z0 : n0 ≤ h0.size) (B_b0 : Ba Z h0 b0 .byte 32 f) (g_b0 : n0 ≤ b0) :
    MetFree l (⟨"com/example/vaglio/vaglio/filter/FilterSnapshotMaskSeedPinLaw", "put8", "([BIJ)V"⟩ : MethodName) (head1 (Jvm.Cond.code (⟨"com/example/vaglio/vaglio/filter/FilterSnapshotMaskSeedPinLaw", "put8", "([BIJ)V"⟩ : MethodName) method_4_code 4 none :: ws) ({ frames := 0, cells := 0, slots := 0, locals := 0 } : Room)) (fun a U => a = #[(.ref b0), (.int (16 : Int32)), (.long p2)] ∧ Z.Warmed39 U.vm ∧ U.heap = h0) (fun _ _ _ _ _ => True) (fun _ U o U' => ∃ v L, o = .returned v ∧ Q11_16 Z b0 p2 f h0 n0 v U'.heap L ∧ FrameEnd U o U' L ({ frames := 0, cells := 0, slots := 0, locals := 0 } : Room).cells ({ frames := 0, cells := 0, slots := 0, locals := 0 } : Room).slots) := by
  refine MetFree.of_bodySF (plainFor_of_name pn_58263735) hisR ?_
  intro p e s m args below meth c s₁ Bd hml0 hP hK
  obtain ⟨rfl, hZ, hh⟩ := hP
  have C : Ctx p s m meth c Z "com/example/vaglio/vaglio/filter/FilterSnapshotMaskSeedPinLaw" "put8" method_4_code 4 none := Ctx.of Bd hml0 hZ
  have X0 : Stand p l e ({ frames := 0, cells := 0, slots := 0, locals := 0 } : Room) s m #[(.ref b0), (.int (16 : Int32)), (.long p2)] below meth c s₁ [] 0 0 := Stand.of_body Bd
  have e0 : s₁.heap = h0 := by rw [← hh, Bd.state]; rfl
  have N0 := Fr.nil n0
  refine Goes.enter (ef_11_16 m b0 p2) ?_
  clear hK hml0 hh
  refine g_aloadN 1 rfl C X0 d11_0 rfl rfl ?_
  refine g_iloadN 2 rfl C X0 d11_1 rfl ?_
  refine g_lloadN 3 rfl C X0 d11_2 rfl ?_
  refine g_l2i 4 rfl C X0 d11_3 ?_
  refine g_i2b 5 rfl C X0 d11_4 ?_
  obtain ⟨w1, hw1⟩ : ∃ z : Int32, ((((((p2).toInt32)).toInt8.toInt32)).toInt8.toInt32) = z := ⟨_, rfl⟩
  refine g_bastore 6 rfl C X0 e0 B_b0 16 (by decide) (by decide) w1 hw1 d11_5 N0 g_b0 fun T2 h3 ls4 X5 e6 W7 B8 N9 => ?_
  have Zs10 := Nat.le_trans Z0 (Nat.le_of_eq W7.size.symm)
  have Kp11 : Keep h0 h3 [b0] := (Keep.refl h0 [b0]).wr W7 (Or.inl (List.mem_of_getElem? (i := 0) rfl))
  refine g_aloadN 7 rfl C X5 d11_6 rfl rfl ?_
  refine g_iloadN 8 rfl C X5 d11_7 rfl ?_
  refine g_iconst 9 rfl C X5 (1 : Int32) d11_8 rfl ?_
  refine g_iadd 10 rfl C X5 d11_9 ?_
  refine g_lloadN 11 rfl C X5 d11_10 rfl ?_
  refine g_bipush 13 rfl C X5 (8 : Int32) d11_11 rfl ?_
  refine g_lushr 14 rfl C X5 d11_13 ?_
  refine g_l2i 15 rfl C X5 d11_14 ?_
  refine g_i2b 16 rfl C X5 d11_15 ?_
  obtain ⟨w12, hw12⟩ : ∃ z : Int32, (((((((((p2).toUInt64 >>> ((8 : Int32) &&& 0x3f).toInt64.toUInt64).toInt64)).toInt32)).toInt8.toInt32)).toInt8.toInt32) = z := ⟨_, rfl⟩
  refine g_bastore 17 rfl C X5 e6 B8 17 (by decide) (by decide) w12 hw12 d11_16 N9 g_b0 fun T13 h14 ls15 X16 e17 W18 B19 N20 => ?_
  have Zs21 := Nat.le_trans Zs10 (Nat.le_of_eq W18.size.symm)
  have Kp22 : Keep h0 h14 [b0] := Kp11.wr W18 (Or.inl (List.mem_of_getElem? (i := 0) rfl))
  refine g_aloadN 18 rfl C X16 d11_17 rfl rfl ?_
  refine g_iloadN 19 rfl C X16 d11_18 rfl ?_
  refine g_iconst 20 rfl C X16 (2 : Int32) d11_19 rfl ?_
  refine g_iadd 21 rfl C X16 d11_20 ?_
  refine g_lloadN 22 rfl C X16 d11_21 rfl ?_
  refine g_bipush 24 rfl C X16 (16 : Int32) d11_22 rfl ?_
  refine g_lushr 25 rfl C X16 d11_24 ?_
  refine g_l2i 26 rfl C X16 d11_25 ?_
  refine g_i2b 27 rfl C X16 d11_26 ?_
  obtain ⟨w23, hw23⟩ : ∃ z : Int32, (((((((((p2).toUInt64 >>> ((16 : Int32) &&& 0x3f).toInt64.toUInt64).toInt64)).toInt32)).toInt8.toInt32)).toInt8.toInt32) = z := ⟨_, rfl⟩
  refine g_bastore 28 rfl C X16 e17 B19 18 (by decide) (by decide) w23 hw23 d11_27 N20 g_b0 fun T24 h25 ls26 X27 e28 W29 B30 N31 => ?_
  have Zs32 := Nat.le_trans Zs21 (Nat.le_of_eq W29.size.symm)
  have Kp33 : Keep h0 h25 [b0] := Kp22.wr W29 (Or.inl (List.mem_of_getElem? (i := 0) rfl))
  refine g_aloadN 29 rfl C X27 d11_28 rfl rfl ?_
  refine g_iloadN 30 rfl C X27 d11_29 rfl ?_
  refine g_iconst 31 rfl C X27 (3 : Int32) d11_30 rfl ?_
  refine g_iadd 32 rfl C X27 d11_31 ?_
  refine g_lloadN 33 rfl C X27 d11_32 rfl ?_
  refine g_bipush 35 rfl C X27 (24 : Int32) d11_33 rfl ?_
  refine g_lushr 36 rfl C X27 d11_35 ?_
  refine g_l2i 37 rfl C X27 d11_36 ?_
  refine g_i2b 38 rfl C X27 d11_37 ?_
  obtain ⟨w34, hw34⟩ : ∃ z : Int32, (((((((((p2).toUInt64 >>> ((24 : Int32) &&& 0x3f).toInt64.toUInt64).toInt64)).toInt32)).toInt8.toInt32)).toInt8.toInt32) = z := ⟨_, rfl⟩
  refine g_bastore 39 rfl C X27 e28 B30 19 (by decide) (by decide) w34 hw34 d11_38 N31 g_b0 fun T35 h36 ls37 X38 e39 W40 B41 N42 => ?_
  have Zs43 := Nat.le_trans Zs32 (Nat.le_of_eq W40.size.symm)
  have Kp44 : Keep h0 h36 [b0] := Kp33.wr W40 (Or.inl (List.mem_of_getElem? (i := 0) rfl))
  refine g_aloadN 40 rfl C X38 d11_39 rfl rfl ?_
  refine g_iloadN 41 rfl C X38 d11_40 rfl ?_
  refine g_iconst 42 rfl C X38 (4 : Int32) d11_41 rfl ?_
  refine g_iadd 43 rfl C X38 d11_42 ?_
  refine g_lloadN 44 rfl C X38 d11_43 rfl ?_
  refine g_bipush 46 rfl C X38 (32 : Int32) d11_44 rfl ?_
  refine g_lushr 47 rfl C X38 d11_46 ?_
  refine g_l2i 48 rfl C X38 d11_47 ?_
  refine g_i2b 49 rfl C X38 d11_48 ?_
  obtain ⟨w45, hw45⟩ : ∃ z : Int32, (((((((((p2).toUInt64 >>> ((32 : Int32) &&& 0x3f).toInt64.toUInt64).toInt64)).toInt32)).toInt8.toInt32)).toInt8.toInt32) = z := ⟨_, rfl⟩
  refine g_bastore 50 rfl C X38 e39 B41 20 (by decide) (by decide) w45 hw45 d11_49 N42 g_b0 fun T46 h47 ls48 X49 e50 W51 B52 N53 => ?_
  have Zs54 := Nat.le_trans Zs43 (Nat.le_of_eq W51.size.symm)
  have Kp55 : Keep h0 h47 [b0] := Kp44.wr W51 (Or.inl (List.mem_of_getElem? (i := 0) rfl))
  refine g_aloadN 51 rfl C X49 d11_50 rfl rfl ?_
  refine g_iloadN 52 rfl C X49 d11_51 rfl ?_
  refine g_iconst 53 rfl C X49 (5 : Int32) d11_52 rfl ?_
  refine g_iadd 54 rfl C X49 d11_53 ?_
  refine g_lloadN 55 rfl C X49 d11_54 rfl ?_
  refine g_bipush 57 rfl C X49 (40 : Int32) d11_55 rfl ?_
  refine g_lushr 58 rfl C X49 d11_57 ?_
  refine g_l2i 59 rfl C X49 d11_58 ?_
  refine g_i2b 60 rfl C X49 d11_59 ?_
  obtain ⟨w56, hw56⟩ : ∃ z : Int32, (((((((((p2).toUInt64 >>> ((40 : Int32) &&& 0x3f).toInt64.toUInt64).toInt64)).toInt32)).toInt8.toInt32)).toInt8.toInt32) = z := ⟨_, rfl⟩
  refine g_bastore 61 rfl C X49 e50 B52 21 (by decide) (by decide) w56 hw56 d11_60 N53 g_b0 fun T57 h58 ls59 X60 e61 W62 B63 N64 => ?_
  have Zs65 := Nat.le_trans Zs54 (Nat.le_of_eq W62.size.symm)
  have Kp66 : Keep h0 h58 [b0] := Kp55.wr W62 (Or.inl (List.mem_of_getElem? (i := 0) rfl))
  refine g_aloadN 62 rfl C X60 d11_61 rfl rfl ?_
  refine g_iloadN 63 rfl C X60 d11_62 rfl ?_
  refine g_bipush 65 rfl C X60 (6 : Int32) d11_63 rfl ?_
  refine g_iadd 66 rfl C X60 d11_65 ?_
  refine g_lloadN 67 rfl C X60 d11_66 rfl ?_
  refine g_bipush 69 rfl C X60 (48 : Int32) d11_67 rfl ?_
  refine g_lushr 70 rfl C X60 d11_69 ?_
  refine g_l2i 71 rfl C X60 d11_70 ?_
  refine g_i2b 72 rfl C X60 d11_71 ?_
  obtain ⟨w67, hw67⟩ : ∃ z : Int32, (((((((((p2).toUInt64 >>> ((48 : Int32) &&& 0x3f).toInt64.toUInt64).toInt64)).toInt32)).toInt8.toInt32)).toInt8.toInt32) = z := ⟨_, rfl⟩
  refine g_bastore 73 rfl C X60 e61 B63 22 (by decide) (by decide) w67 hw67 d11_72 N64 g_b0 fun T68 h69 ls70 X71 e72 W73 B74 N75 => ?_
  have Zs76 := Nat.le_trans Zs65 (Nat.le_of_eq W73.size.symm)
  have Kp77 : Keep h0 h69 [b0] := Kp66.wr W73 (Or.inl (List.mem_of_getElem? (i := 0) rfl))
  refine g_aloadN 74 rfl C X71 d11_73 rfl rfl ?_
  refine g_iloadN 75 rfl C X71 d11_74 rfl ?_
  refine g_bipush 77 rfl C X71 (7 : Int32) d11_75 rfl ?_
  refine g_iadd 78 rfl C X71 d11_77 ?_
  refine g_lloadN 79 rfl C X71 d11_78 rfl ?_
  refine g_bipush 81 rfl C X71 (56 : Int32) d11_79 rfl ?_
  refine g_lushr 82 rfl C X71 d11_81 ?_
  refine g_l2i 83 rfl C X71 d11_82 ?_
  refine g_i2b 84 rfl C X71 d11_83 ?_
  obtain ⟨w78, hw78⟩ : ∃ z : Int32, (((((((((p2).toUInt64 >>> ((56 : Int32) &&& 0x3f).toInt64.toUInt64).toInt64)).toInt32)).toInt8.toInt32)).toInt8.toInt32) = z := ⟨_, rfl⟩
  refine g_bastore 85 rfl C X71 e72 B74 23 (by decide) (by decide) w78 hw78 d11_84 N75 g_b0 fun T79 h80 ls81 X82 e83 W84 B85 N86 => ?_
  have Zs87 := Nat.le_trans Zs76 (Nat.le_of_eq W84.size.symm)
  have Kp88 : Keep h0 h80 [b0] := Kp77.wr W84 (Or.inl (List.mem_of_getElem? (i := 0) rfl))
  subst hw1 hw12 hw23 hw34 hw45 hw56 hw67 hw78
  exact g_retV C X82 rfl d11_85 e83 (by decide) (by decide) ⟨rfl, N86, Kp88, B85⟩
theorem ef_11_24 (m : MethodId) (b0 : Addr) (p2 : Int64) : entryFrame m #[(.ref b0), (.int (24 : Int32)), (.long p2)] 4 = mkF m 0 #[.val (.ref b0), .val (.int (24 : Int32)), .val (.long p2), .second] [] := by first | (simp [entryFrame, mkF, argsToLocals, Value.category]; done) | rfl
def Q11_24 (Z : State) (b0 : Addr) (p2 : Int64) (f : Nat → Int32) (h0 : Heap) (n0 : Nat) (v : Option Value) (h : Heap) (L : List Loc) : Prop := v = none ∧ Fr n0 L ∧ Keep h0 h [b0] ∧ Ba Z h b0 .byte 32 (own_put8 f 24 p2)
set_option maxRecDepth 65536 in
set_option maxHeartbeats 40000000 in
theorem rm11_24 (l : Launch) (Z : State) (a0 : Array Value) (hw : ∀ d ∈ tables_1, d.before a0 Z = true) (ws : List Jvm.Cond) (b0 : Addr) (p2 : Int64) (f : Nat → Int32) (h0 : Heap) (n0 : Nat) (Z0 : n0 ≤ h0.size) (B_b0 : Ba Z h0 b0 .byte 32 f) (g_b0 : n0 ≤ b0) :
    MetFree l (⟨"com/example/vaglio/vaglio/filter/FilterSnapshotMaskSeedPinLaw", "put8", "([BIJ)V"⟩ : MethodName) (head1 (Jvm.Cond.code (⟨"com/example/vaglio/vaglio/filter/FilterSnapshotMaskSeedPinLaw", "put8", "([BIJ)V"⟩ : MethodName) method_4_code 4 none :: ws) ({ frames := 0, cells := 0, slots := 0, locals := 0 } : Room)) (fun a U => a = #[(.ref b0), (.int (24 : Int32)), (.long p2)] ∧ Z.Warmed39 U.vm ∧ U.heap = h0) (fun _ _ _ _ _ => True) (fun _ U o U' => ∃ v L, o = .returned v ∧ Q11_24 Z b0 p2 f h0 n0 v U'.heap L ∧ FrameEnd U o U' L ({ frames := 0, cells := 0, slots := 0, locals := 0 } : Room).cells ({ frames := 0, cells := 0, slots := 0, locals := 0 } : Room).slots) := by
  refine MetFree.of_bodySF (plainFor_of_name pn_58263735) hisR ?_
  intro p e s m args below meth c s₁ Bd hml0 hP hK
  obtain ⟨rfl, hZ, hh⟩ := hP
  have C : Ctx p s m meth c Z "com/example/vaglio/vaglio/filter/FilterSnapshotMaskSeedPinLaw" "put8" method_4_code 4 none := Ctx.of Bd hml0 hZ
  have X0 : Stand p l e ({ frames := 0, cells := 0, slots := 0, locals := 0 } : Room) s m #[(.ref b0), (.int (24 : Int32)), (.long p2)] below meth c s₁ [] 0 0 := Stand.of_body Bd
  have e0 : s₁.heap = h0 := by rw [← hh, Bd.state]; rfl
  have N0 := Fr.nil n0
  refine Goes.enter (ef_11_24 m b0 p2) ?_
  clear hK hml0 hh
  refine g_aloadN 1 rfl C X0 d11_0 rfl rfl ?_
  refine g_iloadN 2 rfl C X0 d11_1 rfl ?_
  refine g_lloadN 3 rfl C X0 d11_2 rfl ?_
  refine g_l2i 4 rfl C X0 d11_3 ?_
  refine g_i2b 5 rfl C X0 d11_4 ?_
  obtain ⟨w1, hw1⟩ : ∃ z : Int32, ((((((p2).toInt32)).toInt8.toInt32)).toInt8.toInt32) = z := ⟨_, rfl⟩
  refine g_bastore 6 rfl C X0 e0 B_b0 24 (by decide) (by decide) w1 hw1 d11_5 N0 g_b0 fun T2 h3 ls4 X5 e6 W7 B8 N9 => ?_
  have Zs10 := Nat.le_trans Z0 (Nat.le_of_eq W7.size.symm)
  have Kp11 : Keep h0 h3 [b0] := (Keep.refl h0 [b0]).wr W7 (Or.inl (List.mem_of_getElem? (i := 0) rfl))
  refine g_aloadN 7 rfl C X5 d11_6 rfl rfl ?_
  refine g_iloadN 8 rfl C X5 d11_7 rfl ?_
  refine g_iconst 9 rfl C X5 (1 : Int32) d11_8 rfl ?_
  refine g_iadd 10 rfl C X5 d11_9 ?_
  refine g_lloadN 11 rfl C X5 d11_10 rfl ?_
  refine g_bipush 13 rfl C X5 (8 : Int32) d11_11 rfl ?_
  refine g_lushr 14 rfl C X5 d11_13 ?_
  refine g_l2i 15 rfl C X5 d11_14 ?_
  refine g_i2b 16 rfl C X5 d11_15 ?_
  obtain ⟨w12, hw12⟩ : ∃ z : Int32, (((((((((p2).toUInt64 >>> ((8 : Int32) &&& 0x3f).toInt64.toUInt64).toInt64)).toInt32)).toInt8.toInt32)).toInt8.toInt32) = z := ⟨_, rfl⟩
  refine g_bastore 17 rfl C X5 e6 B8 25 (by decide) (by decide) w12 hw12 d11_16 N9 g_b0 fun T13 h14 ls15 X16 e17 W18 B19 N20 => ?_
  have Zs21 := Nat.le_trans Zs10 (Nat.le_of_eq W18.size.symm)
  have Kp22 : Keep h0 h14 [b0] := Kp11.wr W18 (Or.inl (List.mem_of_getElem? (i := 0) rfl))
  refine g_aloadN 18 rfl C X16 d11_17 rfl rfl ?_
  refine g_iloadN 19 rfl C X16 d11_18 rfl ?_
  refine g_iconst 20 rfl C X16 (2 : Int32) d11_19 rfl ?_
  refine g_iadd 21 rfl C X16 d11_20 ?_
  refine g_lloadN 22 rfl C X16 d11_21 rfl ?_
  refine g_bipush 24 rfl C X16 (16 : Int32) d11_22 rfl ?_
  refine g_lushr 25 rfl C X16 d11_24 ?_
  refine g_l2i 26 rfl C X16 d11_25 ?_
  refine g_i2b 27 rfl C X16 d11_26 ?_
  obtain ⟨w23, hw23⟩ : ∃ z : Int32, (((((((((p2).toUInt64 >>> ((16 : Int32) &&& 0x3f).toInt64.toUInt64).toInt64)).toInt32)).toInt8.toInt32)).toInt8.toInt32) = z := ⟨_, rfl⟩
  refine g_bastore 28 rfl C X16 e17 B19 26 (by decide) (by decide) w23 hw23 d11_27 N20 g_b0 fun T24 h25 ls26 X27 e28 W29 B30 N31 => ?_
  have Zs32 := Nat.le_trans Zs21 (Nat.le_of_eq W29.size.symm)
  have Kp33 : Keep h0 h25 [b0] := Kp22.wr W29 (Or.inl (List.mem_of_getElem? (i := 0) rfl))
  refine g_aloadN 29 rfl C X27 d11_28 rfl rfl ?_
  refine g_iloadN 30 rfl C X27 d11_29 rfl ?_
  refine g_iconst 31 rfl C X27 (3 : Int32) d11_30 rfl ?_
  refine g_iadd 32 rfl C X27 d11_31 ?_
  refine g_lloadN 33 rfl C X27 d11_32 rfl ?_
  refine g_bipush 35 rfl C X27 (24 : Int32) d11_33 rfl ?_
  refine g_lushr 36 rfl C X27 d11_35 ?_
  refine g_l2i 37 rfl C X27 d11_36 ?_
  refine g_i2b 38 rfl C X27 d11_37 ?_
  obtain ⟨w34, hw34⟩ : ∃ z : Int32, (((((((((p2).toUInt64 >>> ((24 : Int32) &&& 0x3f).toInt64.toUInt64).toInt64)).toInt32)).toInt8.toInt32)).toInt8.toInt32) = z := ⟨_, rfl⟩
  refine g_bastore 39 rfl C X27 e28 B30 27 (by decide) (by decide) w34 hw34 d11_38 N31 g_b0 fun T35 h36 ls37 X38 e39 W40 B41 N42 => ?_
  have Zs43 := Nat.le_trans Zs32 (Nat.le_of_eq W40.size.symm)
  have Kp44 : Keep h0 h36 [b0] := Kp33.wr W40 (Or.inl (List.mem_of_getElem? (i := 0) rfl))
  refine g_aloadN 40 rfl C X38 d11_39 rfl rfl ?_
  refine g_iloadN 41 rfl C X38 d11_40 rfl ?_
  refine g_iconst 42 rfl C X38 (4 : Int32) d11_41 rfl ?_
  refine g_iadd 43 rfl C X38 d11_42 ?_
  refine g_lloadN 44 rfl C X38 d11_43 rfl ?_
  refine g_bipush 46 rfl C X38 (32 : Int32) d11_44 rfl ?_
  refine g_lushr 47 rfl C X38 d11_46 ?_
  refine g_l2i 48 rfl C X38 d11_47 ?_
  refine g_i2b 49 rfl C X38 d11_48 ?_
  obtain ⟨w45, hw45⟩ : ∃ z : Int32, (((((((((p2).toUInt64 >>> ((32 : Int32) &&& 0x3f).toInt64.toUInt64).toInt64)).toInt32)).toInt8.toInt32)).toInt8.toInt32) = z := ⟨_, rfl⟩
  refine g_bastore 50 rfl C X38 e39 B41 28 (by decide) (by decide) w45 hw45 d11_49 N42 g_b0 fun T46 h47 ls48 X49 e50 W51 B52 N53 => ?_
  have Zs54 := Nat.le_trans Zs43 (Nat.le_of_eq W51.size.symm)
  have Kp55 : Keep h0 h47 [b0] := Kp44.wr W51 (Or.inl (List.mem_of_getElem? (i := 0) rfl))
  refine g_aloadN 51 rfl C X49 d11_50 rfl rfl ?_
  refine g_iloadN 52 rfl C X49 d11_51 rfl ?_
  refine g_iconst 53 rfl C X49 (5 : Int32) d11_52 rfl ?_
  refine g_iadd 54 rfl C X49 d11_53 ?_
  refine g_lloadN 55 rfl C X49 d11_54 rfl ?_
  refine g_bipush 57 rfl C X49 (40 : Int32) d11_55 rfl ?_
  refine g_lushr 58 rfl C X49 d11_57 ?_
  refine g_l2i 59 rfl C X49 d11_58 ?_
  refine g_i2b 60 rfl C X49 d11_59 ?_
  obtain ⟨w56, hw56⟩ : ∃ z : Int32, (((((((((p2).toUInt64 >>> ((40 : Int32) &&& 0x3f).toInt64.toUInt64).toInt64)).toInt32)).toInt8.toInt32)).toInt8.toInt32) = z := ⟨_, rfl⟩
  refine g_bastore 61 rfl C X49 e50 B52 29 (by decide) (by decide) w56 hw56 d11_60 N53 g_b0 fun T57 h58 ls59 X60 e61 W62 B63 N64 => ?_
  have Zs65 := Nat.le_trans Zs54 (Nat.le_of_eq W62.size.symm)
  have Kp66 : Keep h0 h58 [b0] := Kp55.wr W62 (Or.inl (List.mem_of_getElem? (i := 0) rfl))
  refine g_aloadN 62 rfl C X60 d11_61 rfl rfl ?_
  refine g_iloadN 63 rfl C X60 d11_62 rfl ?_
  refine g_bipush 65 rfl C X60 (6 : Int32) d11_63 rfl ?_
  refine g_iadd 66 rfl C X60 d11_65 ?_
  refine g_lloadN 67 rfl C X60 d11_66 rfl ?_
  refine g_bipush 69 rfl C X60 (48 : Int32) d11_67 rfl ?_
  refine g_lushr 70 rfl C X60 d11_69 ?_
  refine g_l2i 71 rfl C X60 d11_70 ?_
  refine g_i2b 72 rfl C X60 d11_71 ?_
  obtain ⟨w67, hw67⟩ : ∃ z : Int32, (((((((((p2).toUInt64 >>> ((48 : Int32) &&& 0x3f).toInt64.toUInt64).toInt64)).toInt32)).toInt8.toInt32)).toInt8.toInt32) = z := ⟨_, rfl⟩
  refine g_bastore 73 rfl C X60 e61 B63 30 (by decide) (by decide) w67 hw67 d11_72 N64 g_b0 fun T68 h69 ls70 X71 e72 W73 B74 N75 => ?_
  have Zs76 := Nat.le_trans Zs65 (Nat.le_of_eq W73.size.symm)
  have Kp77 : Keep h0 h69 [b0] := Kp66.wr W73 (Or.inl (List.mem_of_getElem? (i := 0) rfl))
  refine g_aloadN 74 rfl C X71 d11_73 rfl rfl ?_
  refine g_iloadN 75 rfl C X71 d11_74 rfl ?_
  refine g_bipush 77 rfl C X71 (7 : Int32) d11_75 rfl ?_
  refine g_iadd 78 rfl C X71 d11_77 ?_
  refine g_lloadN 79 rfl C X71 d11_78 rfl ?_
  refine g_bipush 81 rfl C X71 (56 : Int32) d11_79 rfl ?_
  refine g_lushr 82 rfl C X71 d11_81 ?_
  refine g_l2i 83 rfl C X71 d11_82 ?_
  refine g_i2b 84 rfl C X71 d11_83 ?_
  obtain ⟨w78, hw78⟩ : ∃ z : Int32, (((((((((p2).toUInt64 >>> ((56 : Int32) &&& 0x3f).toInt64.toUInt64).toInt64)).toInt32)).toInt8.toInt32)).toInt8.toInt32) = z := ⟨_, rfl⟩
  refine g_bastore 85 rfl C X71 e72 B74 31 (by decide) (by decide) w78 hw78 d11_84 N75 g_b0 fun T79 h80 ls81 X82 e83 W84 B85 N86 => ?_
  have Zs87 := Nat.le_trans Zs76 (Nat.le_of_eq W84.size.symm)
  have Kp88 : Keep h0 h80 [b0] := Kp77.wr W84 (Or.inl (List.mem_of_getElem? (i := 0) rfl))
  subst hw1 hw12 hw23 hw34 hw45 hw56 hw67 hw78
  exact g_retV C X82 rfl d11_85 e83 (by decide) (by decide) ⟨rfl, N86, Kp88, B85⟩
theorem d10_0 : decode method_3_code 0 = .ok (.aload_n 0, 1) := by decide +kernel
theorem d10_1 : decode method_3_code 1 = .ok (.iconst 0, 1) := by decide +kernel
theorem d10_2 : decode method_3_code 2 = .ok (.lload_n 1, 1) := by decide +kernel
theorem d10_3 : decode method_3_code 3 = .ok (.invokestatic 38, 3) := by decide +kernel
theorem pd_15015958 : parseMethodDescriptor "([BIJ)V" = some ⟨[(.array .byte), .int, .long], none⟩ := by decide +kernel
theorem d10_6 : decode method_3_code 6 = .ok (.aload_n 0, 1) := by decide +kernel
theorem d10_7 : decode method_3_code 7 = .ok (.bipush 8, 2) := by decide +kernel
theorem d10_9 : decode method_3_code 9 = .ok (.lload_n 3, 1) := by decide +kernel
theorem d10_10 : decode method_3_code 10 = .ok (.invokestatic 38, 3) := by decide +kernel
theorem d10_13 : decode method_3_code 13 = .ok (.aload_n 0, 1) := by decide +kernel
theorem d10_14 : decode method_3_code 14 = .ok (.bipush 16, 2) := by decide +kernel
theorem d10_16 : decode method_3_code 16 = .ok (.lload 5, 2) := by decide +kernel
theorem d10_18 : decode method_3_code 18 = .ok (.invokestatic 38, 3) := by decide +kernel
theorem d10_21 : decode method_3_code 21 = .ok (.aload_n 0, 1) := by decide +kernel
theorem d10_22 : decode method_3_code 22 = .ok (.bipush 24, 2) := by decide +kernel
theorem d10_24 : decode method_3_code 24 = .ok (.lload 7, 2) := by decide +kernel
theorem d10_26 : decode method_3_code 26 = .ok (.invokestatic 38, 3) := by decide +kernel
theorem d10_29 : decode method_3_code 29 = .ok (.return_, 1) := by decide +kernel
theorem ef_10 (m : MethodId) (b0 : Addr) (p1 : Int64) (p2 : Int64) (p3 : Int64) (p4 : Int64) : entryFrame m #[(.ref b0), (.long p1), (.long p2), (.long p3), (.long p4)] 9 = mkF m 0 #[.val (.ref b0), .val (.long p1), .second, .val (.long p2), .second, .val (.long p3), .second, .val (.long p4), .second] [] := by first | (simp [entryFrame, mkF, argsToLocals, Value.category]; done) | rfl
def Q10 (Z : State) (b0 : Addr) (p1 : Int64) (p2 : Int64) (p3 : Int64) (p4 : Int64) (h0 : Heap) (n0 : Nat) (v : Option Value) (h : Heap) (L : List Loc) : Prop := v = none ∧ Fr n0 L ∧ Keep h0 h [b0] ∧ Ba Z h b0 .byte 32 (own_fill p1 p2 p3 p4)
set_option maxRecDepth 65536 in
set_option maxHeartbeats 40000000 in
theorem rm10 (l : Launch) (Z : State) (a0 : Array Value) (hw : ∀ d ∈ tables_1, d.before a0 Z = true) (ws : List Jvm.Cond) (b0 : Addr) (p1 : Int64) (p2 : Int64) (p3 : Int64) (p4 : Int64) (h0 : Heap) (n0 : Nat) (Z0 : n0 ≤ h0.size) (B_b0 : Ba Z h0 b0 .byte 32 (fun _ => 0)) (g_b0 : n0 ≤ b0) :
    MetFree l (⟨"com/example/vaglio/vaglio/filter/FilterSnapshotMaskSeedPinLaw", "fill", "([BJJJJ)V"⟩ : MethodName) (head1 (Jvm.Cond.code (⟨"com/example/vaglio/vaglio/filter/FilterSnapshotMaskSeedPinLaw", "fill", "([BJJJJ)V"⟩ : MethodName) method_3_code 9 none :: ws) ({ frames := 1, cells := 0, slots := 0, locals := 15 } : Room)) (fun a U => a = #[(.ref b0), (.long p1), (.long p2), (.long p3), (.long p4)] ∧ Z.Warmed39 U.vm ∧ U.heap = h0) (fun _ _ _ _ _ => True) (fun _ U o U' => ∃ v L, o = .returned v ∧ Q10 Z b0 p1 p2 p3 p4 h0 n0 v U'.heap L ∧ FrameEnd U o U' L ({ frames := 1, cells := 0, slots := 0, locals := 15 } : Room).cells ({ frames := 1, cells := 0, slots := 0, locals := 15 } : Room).slots) := by
  refine MetFree.of_bodySF (plainFor_of_name pn_58263735) hisR ?_
  intro p e s m args below meth c s₁ Bd hml0 hP hK
  obtain ⟨rfl, hZ, hh⟩ := hP
  have C : Ctx p s m meth c Z "com/example/vaglio/vaglio/filter/FilterSnapshotMaskSeedPinLaw" "fill" method_3_code 9 none := Ctx.of Bd hml0 hZ
  have X0 : Stand p l e ({ frames := 1, cells := 0, slots := 0, locals := 15 } : Room) s m #[(.ref b0), (.long p1), (.long p2), (.long p3), (.long p4)] below meth c s₁ [] 0 0 := Stand.of_body Bd
  have e0 : s₁.heap = h0 := by rw [← hh, Bd.state]; rfl
  have N0 := Fr.nil n0
  refine Goes.enter (ef_10 m b0 p1 p2 p3 p4) ?_
  clear hK hml0 hh
  refine g_aloadN 1 rfl C X0 d10_0 rfl rfl ?_
  refine g_iconst 2 rfl C X0 (0 : Int32) d10_1 rfl ?_
  refine g_lloadN 3 rfl C X0 d10_2 rfl ?_
  refine g_callS 6 rfl C X0 (argsL := [(.ref b0), (.int (0 : Int32)), (.long p1)]) (hw _ (List.mem_of_getElem? (i := 78) rfl)) (hw _ (List.mem_of_getElem? (i := 79) rfl)) (hw _ (List.mem_of_getElem? (i := 80) rfl)) (hw _ (List.mem_of_getElem? (i := 76) rfl)) e0 (rm11_0 l Z a0 hw [] b0 p1 (fun _ => 0) h0 n0 Z0 B_b0 g_b0) (lenOf pd_15015958 rfl) (by decide) (by decide) (by decide) (by decide) rfl (W := 0) (Nat.le_of_eq rfl) (by decide) d10_3 rfl fun r1 T2 Lc3 X4 hQ5 => ?_
  obtain ⟨rfl, Nq6, Kc7, F8⟩ := hQ5
  have Zs9 := Nat.le_trans Z0 Kc7.1
  have Kp10 : Keep h0 T2.heap [b0] := Keep.trans (Keep.refl h0 [b0]) Kc7 (allS (Or.inl (List.mem_of_getElem? (i := 0) rfl)) all0)
  have N11 := Fr.app N0 Nq6
  show Goes _ _ _ _ _ _ 6 _ []
  refine g_aloadN 7 rfl C X4 d10_6 rfl rfl ?_
  refine g_bipush 9 rfl C X4 (8 : Int32) d10_7 rfl ?_
  refine g_lloadN 10 rfl C X4 d10_9 rfl ?_
  refine g_callS 13 rfl C X4 (argsL := [(.ref b0), (.int (8 : Int32)), (.long p2)]) (hw _ (List.mem_of_getElem? (i := 78) rfl)) (hw _ (List.mem_of_getElem? (i := 79) rfl)) (hw _ (List.mem_of_getElem? (i := 80) rfl)) (hw _ (List.mem_of_getElem? (i := 76) rfl)) rfl (rm11_8 l Z a0 hw [] b0 p2 (own_put8 (fun _ => 0) 0 p1) (T2.heap) n0 Zs9 F8 g_b0) (lenOf pd_15015958 rfl) (by decide) (by decide) (by decide) (by decide) rfl (W := 0) (Nat.le_of_eq rfl) (by decide) d10_10 rfl fun r12 T13 Lc14 X15 hQ16 => ?_
  obtain ⟨rfl, Nq17, Kc18, F19⟩ := hQ16
  have Zs20 := Nat.le_trans Zs9 Kc18.1
  have Kp21 : Keep h0 T13.heap [b0] := Keep.trans Kp10 Kc18 (allS (Or.inl (List.mem_of_getElem? (i := 0) rfl)) all0)
  have N22 := Fr.app N11 Nq17
  show Goes _ _ _ _ _ _ 13 _ []
  refine g_aloadN 14 rfl C X15 d10_13 rfl rfl ?_
  refine g_bipush 16 rfl C X15 (16 : Int32) d10_14 rfl ?_
  refine g_lload 18 rfl C X15 d10_16 rfl ?_
  refine g_callS 21 rfl C X15 (argsL := [(.ref b0), (.int (16 : Int32)), (.long p3)]) (hw _ (List.mem_of_getElem? (i := 78) rfl)) (hw _ (List.mem_of_getElem? (i := 79) rfl)) (hw _ (List.mem_of_getElem? (i := 80) rfl)) (hw _ (List.mem_of_getElem? (i := 76) rfl)) rfl (rm11_16 l Z a0 hw [] b0 p3 (own_put8 (own_put8 (fun _ => 0) 0 p1) 8 p2) (T13.heap) n0 Zs20 F19 g_b0) (lenOf pd_15015958 rfl) (by decide) (by decide) (by decide) (by decide) rfl (W := 0) (Nat.le_of_eq rfl) (by decide) d10_18 rfl fun r23 T24 Lc25 X26 hQ27 => ?_
  obtain ⟨rfl, Nq28, Kc29, F30⟩ := hQ27
  have Zs31 := Nat.le_trans Zs20 Kc29.1
  have Kp32 : Keep h0 T24.heap [b0] := Keep.trans Kp21 Kc29 (allS (Or.inl (List.mem_of_getElem? (i := 0) rfl)) all0)
  have N33 := Fr.app N22 Nq28
  show Goes _ _ _ _ _ _ 21 _ []
  refine g_aloadN 22 rfl C X26 d10_21 rfl rfl ?_
  refine g_bipush 24 rfl C X26 (24 : Int32) d10_22 rfl ?_
  refine g_lload 26 rfl C X26 d10_24 rfl ?_
  refine g_callS 29 rfl C X26 (argsL := [(.ref b0), (.int (24 : Int32)), (.long p4)]) (hw _ (List.mem_of_getElem? (i := 78) rfl)) (hw _ (List.mem_of_getElem? (i := 79) rfl)) (hw _ (List.mem_of_getElem? (i := 80) rfl)) (hw _ (List.mem_of_getElem? (i := 76) rfl)) rfl (rm11_24 l Z a0 hw [] b0 p4 (own_put8 (own_put8 (own_put8 (fun _ => 0) 0 p1) 8 p2) 16 p3) (T24.heap) n0 Zs31 F30 g_b0) (lenOf pd_15015958 rfl) (by decide) (by decide) (by decide) (by decide) rfl (W := 0) (Nat.le_of_eq rfl) (by decide) d10_26 rfl fun r34 T35 Lc36 X37 hQ38 => ?_
  obtain ⟨rfl, Nq39, Kc40, F41⟩ := hQ38
  have Zs42 := Nat.le_trans Zs31 Kc40.1
  have Kp43 : Keep h0 T35.heap [b0] := Keep.trans Kp32 Kc40 (allS (Or.inl (List.mem_of_getElem? (i := 0) rfl)) all0)
  have N44 := Fr.app N33 Nq39
  show Goes _ _ _ _ _ _ 29 _ []
  exact g_retV C X37 rfl d10_29 rfl (by decide) (by decide) ⟨rfl, N44, Kp43, F41⟩
theorem d14_0 : decode method_6_code 0 = .ok (.aload_n 0, 1) := by decide +kernel
theorem d14_1 : decode method_6_code 1 = .ok (.iload_n 2, 1) := by decide +kernel
theorem d14_2 : decode method_6_code 2 = .ok (.baload, 1) := by decide +kernel
theorem d14_3 : decode method_6_code 3 = .ok (.aload_n 1, 1) := by decide +kernel
theorem d14_4 : decode method_6_code 4 = .ok (.iload_n 2, 1) := by decide +kernel
theorem d14_5 : decode method_6_code 5 = .ok (.baload, 1) := by decide +kernel
theorem d14_6 : decode method_6_code 6 = .ok (.if_icmp .ne 102, 3) := by decide +kernel
theorem d14_9 : decode method_6_code 9 = .ok (.aload_n 0, 1) := by decide +kernel
theorem d14_10 : decode method_6_code 10 = .ok (.iload_n 2, 1) := by decide +kernel
theorem d14_11 : decode method_6_code 11 = .ok (.iconst 1, 1) := by decide +kernel
theorem d14_12 : decode method_6_code 12 = .ok (.iadd, 1) := by decide +kernel
theorem d14_13 : decode method_6_code 13 = .ok (.baload, 1) := by decide +kernel
theorem d14_14 : decode method_6_code 14 = .ok (.aload_n 1, 1) := by decide +kernel
theorem d14_15 : decode method_6_code 15 = .ok (.iload_n 2, 1) := by decide +kernel
theorem d14_16 : decode method_6_code 16 = .ok (.iconst 1, 1) := by decide +kernel
theorem d14_17 : decode method_6_code 17 = .ok (.iadd, 1) := by decide +kernel
theorem d14_18 : decode method_6_code 18 = .ok (.baload, 1) := by decide +kernel
theorem d14_19 : decode method_6_code 19 = .ok (.if_icmp .ne 89, 3) := by decide +kernel
theorem d14_22 : decode method_6_code 22 = .ok (.aload_n 0, 1) := by decide +kernel
theorem d14_23 : decode method_6_code 23 = .ok (.iload_n 2, 1) := by decide +kernel
theorem d14_24 : decode method_6_code 24 = .ok (.iconst 2, 1) := by decide +kernel
theorem d14_25 : decode method_6_code 25 = .ok (.iadd, 1) := by decide +kernel
theorem d14_26 : decode method_6_code 26 = .ok (.baload, 1) := by decide +kernel
theorem d14_27 : decode method_6_code 27 = .ok (.aload_n 1, 1) := by decide +kernel
theorem d14_28 : decode method_6_code 28 = .ok (.iload_n 2, 1) := by decide +kernel
theorem d14_29 : decode method_6_code 29 = .ok (.iconst 2, 1) := by decide +kernel
theorem d14_30 : decode method_6_code 30 = .ok (.iadd, 1) := by decide +kernel
theorem d14_31 : decode method_6_code 31 = .ok (.baload, 1) := by decide +kernel
theorem d14_32 : decode method_6_code 32 = .ok (.if_icmp .ne 76, 3) := by decide +kernel
theorem d14_35 : decode method_6_code 35 = .ok (.aload_n 0, 1) := by decide +kernel
theorem d14_36 : decode method_6_code 36 = .ok (.iload_n 2, 1) := by decide +kernel
theorem d14_37 : decode method_6_code 37 = .ok (.iconst 3, 1) := by decide +kernel
theorem d14_38 : decode method_6_code 38 = .ok (.iadd, 1) := by decide +kernel
theorem d14_39 : decode method_6_code 39 = .ok (.baload, 1) := by decide +kernel
theorem d14_40 : decode method_6_code 40 = .ok (.aload_n 1, 1) := by decide +kernel
theorem d14_41 : decode method_6_code 41 = .ok (.iload_n 2, 1) := by decide +kernel
theorem d14_42 : decode method_6_code 42 = .ok (.iconst 3, 1) := by decide +kernel
theorem d14_43 : decode method_6_code 43 = .ok (.iadd, 1) := by decide +kernel
theorem d14_44 : decode method_6_code 44 = .ok (.baload, 1) := by decide +kernel
theorem d14_45 : decode method_6_code 45 = .ok (.if_icmp .ne 63, 3) := by decide +kernel
theorem d14_48 : decode method_6_code 48 = .ok (.aload_n 0, 1) := by decide +kernel
theorem d14_49 : decode method_6_code 49 = .ok (.iload_n 2, 1) := by decide +kernel
theorem d14_50 : decode method_6_code 50 = .ok (.iconst 4, 1) := by decide +kernel
theorem d14_51 : decode method_6_code 51 = .ok (.iadd, 1) := by decide +kernel
theorem d14_52 : decode method_6_code 52 = .ok (.baload, 1) := by decide +kernel
theorem d14_53 : decode method_6_code 53 = .ok (.aload_n 1, 1) := by decide +kernel
theorem d14_54 : decode method_6_code 54 = .ok (.iload_n 2, 1) := by decide +kernel
theorem d14_55 : decode method_6_code 55 = .ok (.iconst 4, 1) := by decide +kernel
theorem d14_56 : decode method_6_code 56 = .ok (.iadd, 1) := by decide +kernel
theorem d14_57 : decode method_6_code 57 = .ok (.baload, 1) := by decide +kernel
theorem d14_58 : decode method_6_code 58 = .ok (.if_icmp .ne 50, 3) := by decide +kernel
theorem d14_61 : decode method_6_code 61 = .ok (.aload_n 0, 1) := by decide +kernel
theorem d14_62 : decode method_6_code 62 = .ok (.iload_n 2, 1) := by decide +kernel
theorem d14_63 : decode method_6_code 63 = .ok (.iconst 5, 1) := by decide +kernel
theorem d14_64 : decode method_6_code 64 = .ok (.iadd, 1) := by decide +kernel
theorem d14_65 : decode method_6_code 65 = .ok (.baload, 1) := by decide +kernel
theorem d14_66 : decode method_6_code 66 = .ok (.aload_n 1, 1) := by decide +kernel
theorem d14_67 : decode method_6_code 67 = .ok (.iload_n 2, 1) := by decide +kernel
theorem d14_68 : decode method_6_code 68 = .ok (.iconst 5, 1) := by decide +kernel
theorem d14_69 : decode method_6_code 69 = .ok (.iadd, 1) := by decide +kernel
theorem d14_70 : decode method_6_code 70 = .ok (.baload, 1) := by decide +kernel
theorem d14_71 : decode method_6_code 71 = .ok (.if_icmp .ne 37, 3) := by decide +kernel
theorem d14_74 : decode method_6_code 74 = .ok (.aload_n 0, 1) := by decide +kernel
theorem d14_75 : decode method_6_code 75 = .ok (.iload_n 2, 1) := by decide +kernel
theorem d14_76 : decode method_6_code 76 = .ok (.bipush 6, 2) := by decide +kernel
theorem d14_78 : decode method_6_code 78 = .ok (.iadd, 1) := by decide +kernel
theorem d14_79 : decode method_6_code 79 = .ok (.baload, 1) := by decide +kernel
theorem d14_80 : decode method_6_code 80 = .ok (.aload_n 1, 1) := by decide +kernel
theorem d14_81 : decode method_6_code 81 = .ok (.iload_n 2, 1) := by decide +kernel
theorem d14_82 : decode method_6_code 82 = .ok (.bipush 6, 2) := by decide +kernel
theorem d14_84 : decode method_6_code 84 = .ok (.iadd, 1) := by decide +kernel
theorem d14_85 : decode method_6_code 85 = .ok (.baload, 1) := by decide +kernel
theorem d14_86 : decode method_6_code 86 = .ok (.if_icmp .ne 22, 3) := by decide +kernel
theorem d14_89 : decode method_6_code 89 = .ok (.aload_n 0, 1) := by decide +kernel
theorem d14_90 : decode method_6_code 90 = .ok (.iload_n 2, 1) := by decide +kernel
theorem d14_91 : decode method_6_code 91 = .ok (.bipush 7, 2) := by decide +kernel
theorem d14_93 : decode method_6_code 93 = .ok (.iadd, 1) := by decide +kernel
theorem d14_94 : decode method_6_code 94 = .ok (.baload, 1) := by decide +kernel
theorem d14_95 : decode method_6_code 95 = .ok (.aload_n 1, 1) := by decide +kernel
theorem d14_96 : decode method_6_code 96 = .ok (.iload_n 2, 1) := by decide +kernel
theorem d14_97 : decode method_6_code 97 = .ok (.bipush 7, 2) := by decide +kernel
theorem d14_99 : decode method_6_code 99 = .ok (.iadd, 1) := by decide +kernel
theorem d14_100 : decode method_6_code 100 = .ok (.baload, 1) := by decide +kernel
theorem d14_101 : decode method_6_code 101 = .ok (.if_icmp .ne 7, 3) := by decide +kernel
theorem d14_104 : decode method_6_code 104 = .ok (.iconst 1, 1) := by decide +kernel
theorem d14_105 : decode method_6_code 105 = .ok (.goto 4, 3) := by decide +kernel
theorem d14_109 : decode method_6_code 109 = .ok (.ireturn, 1) := by decide +kernel
theorem ef_14_0 (m : MethodId) (b0 : Addr) (b1 : Addr) : entryFrame m #[(.ref b0), (.ref b1), (.int (0 : Int32))] 3 = mkF m 0 #[.val (.ref b0), .val (.ref b1), .val (.int (0 : Int32))] [] := by first | (simp [entryFrame, mkF, argsToLocals, Value.category]; done) | rfl
def Q14_0 (Z : State) (b0 : Addr) (b1 : Addr) (f : Nat → Int32) (g : Nat → Int32) (h0 : Heap) (n0 : Nat) (v : Option Value) (h : Heap) (L : List Loc) : Prop := v = some (.int 1) ∧ Fr n0 L ∧ h = h0
set_option maxRecDepth 65536 in
set_option maxHeartbeats 40000000 in
theorem rm14_0 (l : Launch) (Z : State) (a0 : Array Value) (hw : ∀ d ∈ tables_1, d.before a0 Z = true) (ws : List Jvm.Cond) (b0 : Addr) (b1 : Addr) (f : Nat → Int32) (g : Nat → Int32) (h0 : Heap) (n0 : Nat) (Z0 : n0 ≤ h0.size) (B_b0 : Ba Z h0 b0 .byte 32 f) (B_b1 : Ba Z h0 b1 .byte 32 g) (heq : ∀ k, k < 32 → f k = g k) :
    MetFree l (⟨"com/example/vaglio/vaglio/filter/FilterSnapshotMaskSeedPinLaw", "eq8", "([B[BI)Z"⟩ : MethodName) (head1 (Jvm.Cond.code (⟨"com/example/vaglio/vaglio/filter/FilterSnapshotMaskSeedPinLaw", "eq8", "([B[BI)Z"⟩ : MethodName) method_6_code 3 (some .boolean) :: ws) ({ frames := 0, cells := 0, slots := 0, locals := 0 } : Room)) (fun a U => a = #[(.ref b0), (.ref b1), (.int (0 : Int32))] ∧ Z.Warmed39 U.vm ∧ U.heap = h0) (fun _ _ _ _ _ => True) (fun _ U o U' => ∃ v L, o = .returned v ∧ Q14_0 Z b0 b1 f g h0 n0 v U'.heap L ∧ FrameEnd U o U' L ({ frames := 0, cells := 0, slots := 0, locals := 0 } : Room).cells ({ frames := 0, cells := 0, slots := 0, locals := 0 } : Room).slots) := by
  refine MetFree.of_bodySF (plainFor_of_name pn_58263735) hisR ?_
  intro p e s m args below meth c s₁ Bd hml0 hP hK
  obtain ⟨rfl, hZ, hh⟩ := hP
  have C : Ctx p s m meth c Z "com/example/vaglio/vaglio/filter/FilterSnapshotMaskSeedPinLaw" "eq8" method_6_code 3 (some .boolean) := Ctx.of Bd hml0 hZ
  have X0 : Stand p l e ({ frames := 0, cells := 0, slots := 0, locals := 0 } : Room) s m #[(.ref b0), (.ref b1), (.int (0 : Int32))] below meth c s₁ [] 0 0 := Stand.of_body Bd
  have e0 : s₁.heap = h0 := by rw [← hh, Bd.state]; rfl
  have N0 := Fr.nil n0
  refine Goes.enter (ef_14_0 m b0 b1) ?_
  clear hK hml0 hh
  refine g_aloadN 1 rfl C X0 d14_0 rfl rfl ?_
  refine g_iloadN 2 rfl C X0 d14_1 rfl ?_
  refine g_baload 3 rfl C X0 e0 B_b0 0 (by decide) (by decide) (f 0) rfl d14_2 ?_
  refine g_aloadN 4 rfl C X0 d14_3 rfl rfl ?_
  refine g_iloadN 5 rfl C X0 d14_4 rfl ?_
  refine g_baload 6 rfl C X0 e0 B_b1 0 (by decide) (by decide) (f 0) (heq 0 (by decide)).symm d14_5 ?_
  refine g_icmp_ne_f 9 rfl C X0 d14_6 rfl ?_
  refine g_aloadN 10 rfl C X0 d14_9 rfl rfl ?_
  refine g_iloadN 11 rfl C X0 d14_10 rfl ?_
  refine g_iconst 12 rfl C X0 (1 : Int32) d14_11 rfl ?_
  refine g_iadd 13 rfl C X0 d14_12 ?_
  refine g_baload 14 rfl C X0 e0 B_b0 1 (by decide) (by decide) (f 1) rfl d14_13 ?_
  refine g_aloadN 15 rfl C X0 d14_14 rfl rfl ?_
  refine g_iloadN 16 rfl C X0 d14_15 rfl ?_
  refine g_iconst 17 rfl C X0 (1 : Int32) d14_16 rfl ?_
  refine g_iadd 18 rfl C X0 d14_17 ?_
  refine g_baload 19 rfl C X0 e0 B_b1 1 (by decide) (by decide) (f 1) (heq 1 (by decide)).symm d14_18 ?_
  refine g_icmp_ne_f 22 rfl C X0 d14_19 rfl ?_
  refine g_aloadN 23 rfl C X0 d14_22 rfl rfl ?_
  refine g_iloadN 24 rfl C X0 d14_23 rfl ?_
  refine g_iconst 25 rfl C X0 (2 : Int32) d14_24 rfl ?_
  refine g_iadd 26 rfl C X0 d14_25 ?_
  refine g_baload 27 rfl C X0 e0 B_b0 2 (by decide) (by decide) (f 2) rfl d14_26 ?_
  refine g_aloadN 28 rfl C X0 d14_27 rfl rfl ?_
  refine g_iloadN 29 rfl C X0 d14_28 rfl ?_
  refine g_iconst 30 rfl C X0 (2 : Int32) d14_29 rfl ?_
  refine g_iadd 31 rfl C X0 d14_30 ?_
  refine g_baload 32 rfl C X0 e0 B_b1 2 (by decide) (by decide) (f 2) (heq 2 (by decide)).symm d14_31 ?_
  refine g_icmp_ne_f 35 rfl C X0 d14_32 rfl ?_
  refine g_aloadN 36 rfl C X0 d14_35 rfl rfl ?_
  refine g_iloadN 37 rfl C X0 d14_36 rfl ?_
  refine g_iconst 38 rfl C X0 (3 : Int32) d14_37 rfl ?_
  refine g_iadd 39 rfl C X0 d14_38 ?_
  refine g_baload 40 rfl C X0 e0 B_b0 3 (by decide) (by decide) (f 3) rfl d14_39 ?_
  refine g_aloadN 41 rfl C X0 d14_40 rfl rfl ?_
  refine g_iloadN 42 rfl C X0 d14_41 rfl ?_
  refine g_iconst 43 rfl C X0 (3 : Int32) d14_42 rfl ?_
  refine g_iadd 44 rfl C X0 d14_43 ?_
  refine g_baload 45 rfl C X0 e0 B_b1 3 (by decide) (by decide) (f 3) (heq 3 (by decide)).symm d14_44 ?_
  refine g_icmp_ne_f 48 rfl C X0 d14_45 rfl ?_
  refine g_aloadN 49 rfl C X0 d14_48 rfl rfl ?_
  refine g_iloadN 50 rfl C X0 d14_49 rfl ?_
  refine g_iconst 51 rfl C X0 (4 : Int32) d14_50 rfl ?_
  refine g_iadd 52 rfl C X0 d14_51 ?_
  refine g_baload 53 rfl C X0 e0 B_b0 4 (by decide) (by decide) (f 4) rfl d14_52 ?_
  refine g_aloadN 54 rfl C X0 d14_53 rfl rfl ?_
  refine g_iloadN 55 rfl C X0 d14_54 rfl ?_
  refine g_iconst 56 rfl C X0 (4 : Int32) d14_55 rfl ?_
  refine g_iadd 57 rfl C X0 d14_56 ?_
  refine g_baload 58 rfl C X0 e0 B_b1 4 (by decide) (by decide) (f 4) (heq 4 (by decide)).symm d14_57 ?_
  refine g_icmp_ne_f 61 rfl C X0 d14_58 rfl ?_
  refine g_aloadN 62 rfl C X0 d14_61 rfl rfl ?_
  refine g_iloadN 63 rfl C X0 d14_62 rfl ?_
  refine g_iconst 64 rfl C X0 (5 : Int32) d14_63 rfl ?_
  refine g_iadd 65 rfl C X0 d14_64 ?_
  refine g_baload 66 rfl C X0 e0 B_b0 5 (by decide) (by decide) (f 5) rfl d14_65 ?_
  refine g_aloadN 67 rfl C X0 d14_66 rfl rfl ?_
  refine g_iloadN 68 rfl C X0 d14_67 rfl ?_
  refine g_iconst 69 rfl C X0 (5 : Int32) d14_68 rfl ?_
  refine g_iadd 70 rfl C X0 d14_69 ?_
  refine g_baload 71 rfl C X0 e0 B_b1 5 (by decide) (by decide) (f 5) (heq 5 (by decide)).symm d14_70 ?_
  refine g_icmp_ne_f 74 rfl C X0 d14_71 rfl ?_
  refine g_aloadN 75 rfl C X0 d14_74 rfl rfl ?_
  refine g_iloadN 76 rfl C X0 d14_75 rfl ?_
  refine g_bipush 78 rfl C X0 (6 : Int32) d14_76 rfl ?_
  refine g_iadd 79 rfl C X0 d14_78 ?_
  refine g_baload 80 rfl C X0 e0 B_b0 6 (by decide) (by decide) (f 6) rfl d14_79 ?_
  refine g_aloadN 81 rfl C X0 d14_80 rfl rfl ?_
  refine g_iloadN 82 rfl C X0 d14_81 rfl ?_
  refine g_bipush 84 rfl C X0 (6 : Int32) d14_82 rfl ?_
  refine g_iadd 85 rfl C X0 d14_84 ?_
  refine g_baload 86 rfl C X0 e0 B_b1 6 (by decide) (by decide) (f 6) (heq 6 (by decide)).symm d14_85 ?_
  refine g_icmp_ne_f 89 rfl C X0 d14_86 rfl ?_
  refine g_aloadN 90 rfl C X0 d14_89 rfl rfl ?_
  refine g_iloadN 91 rfl C X0 d14_90 rfl ?_
  refine g_bipush 93 rfl C X0 (7 : Int32) d14_91 rfl ?_
  refine g_iadd 94 rfl C X0 d14_93 ?_
  refine g_baload 95 rfl C X0 e0 B_b0 7 (by decide) (by decide) (f 7) rfl d14_94 ?_
  refine g_aloadN 96 rfl C X0 d14_95 rfl rfl ?_
  refine g_iloadN 97 rfl C X0 d14_96 rfl ?_
  refine g_bipush 99 rfl C X0 (7 : Int32) d14_97 rfl ?_
  refine g_iadd 100 rfl C X0 d14_99 ?_
  refine g_baload 101 rfl C X0 e0 B_b1 7 (by decide) (by decide) (f 7) (heq 7 (by decide)).symm d14_100 ?_
  refine g_icmp_ne_f 104 rfl C X0 d14_101 rfl ?_
  refine g_iconst 105 rfl C X0 (1 : Int32) d14_104 rfl ?_
  refine g_goto 109 C X0 d14_105 (by decide) (by decide) ?_
  exact g_retN C X0 (z' := (1 : Int32)) rfl (Or.inl rfl) d14_109 e0 (by decide) (by decide) rfl ⟨rfl, N0, rfl⟩
theorem ef_14_8 (m : MethodId) (b0 : Addr) (b1 : Addr) : entryFrame m #[(.ref b0), (.ref b1), (.int (8 : Int32))] 3 = mkF m 0 #[.val (.ref b0), .val (.ref b1), .val (.int (8 : Int32))] [] := by first | (simp [entryFrame, mkF, argsToLocals, Value.category]; done) | rfl
def Q14_8 (Z : State) (b0 : Addr) (b1 : Addr) (f : Nat → Int32) (g : Nat → Int32) (h0 : Heap) (n0 : Nat) (v : Option Value) (h : Heap) (L : List Loc) : Prop := v = some (.int 1) ∧ Fr n0 L ∧ h = h0
set_option maxRecDepth 65536 in
set_option maxHeartbeats 40000000 in
theorem rm14_8 (l : Launch) (Z : State) (a0 : Array Value) (hw : ∀ d ∈ tables_1, d.before a0 Z = true) (ws : List Jvm.Cond) (b0 : Addr) (b1 : Addr) (f : Nat → Int32) (g : Nat → Int32) (h0 : Heap) (n0 : Nat) (Z0 : n0 ≤ h0.size) (B_b0 : Ba Z h0 b0 .byte 32 f) (B_b1 : Ba Z h0 b1 .byte 32 g) (heq : ∀ k, k < 32 → f k = g k) :
    MetFree l (⟨"com/example/vaglio/vaglio/filter/FilterSnapshotMaskSeedPinLaw", "eq8", "([B[BI)Z"⟩ : MethodName) (head1 (Jvm.Cond.code (⟨"com/example/vaglio/vaglio/filter/FilterSnapshotMaskSeedPinLaw", "eq8", "([B[BI)Z"⟩ : MethodName) method_6_code 3 (some .boolean) :: ws) ({ frames := 0, cells := 0, slots := 0, locals := 0 } : Room)) (fun a U => a = #[(.ref b0), (.ref b1), (.int (8 : Int32))] ∧ Z.Warmed39 U.vm ∧ U.heap = h0) (fun _ _ _ _ _ => True) (fun _ U o U' => ∃ v L, o = .returned v ∧ Q14_8 Z b0 b1 f g h0 n0 v U'.heap L ∧ FrameEnd U o U' L ({ frames := 0, cells := 0, slots := 0, locals := 0 } : Room).cells ({ frames := 0, cells := 0, slots := 0, locals := 0 } : Room).slots) := by
  refine MetFree.of_bodySF (plainFor_of_name pn_58263735) hisR ?_
  intro p e s m args below meth c s₁ Bd hml0 hP hK
  obtain ⟨rfl, hZ, hh⟩ := hP
  have C : Ctx p s m meth c Z "com/example/vaglio/vaglio/filter/FilterSnapshotMaskSeedPinLaw" "eq8" method_6_code 3 (some .boolean) := Ctx.of Bd hml0 hZ
  have X0 : Stand p l e ({ frames := 0, cells := 0, slots := 0, locals := 0 } : Room) s m #[(.ref b0), (.ref b1), (.int (8 : Int32))] below meth c s₁ [] 0 0 := Stand.of_body Bd
  have e0 : s₁.heap = h0 := by rw [← hh, Bd.state]; rfl
  have N0 := Fr.nil n0
  refine Goes.enter (ef_14_8 m b0 b1) ?_
  clear hK hml0 hh
  refine g_aloadN 1 rfl C X0 d14_0 rfl rfl ?_
  refine g_iloadN 2 rfl C X0 d14_1 rfl ?_
  refine g_baload 3 rfl C X0 e0 B_b0 8 (by decide) (by decide) (f 8) rfl d14_2 ?_
  refine g_aloadN 4 rfl C X0 d14_3 rfl rfl ?_
  refine g_iloadN 5 rfl C X0 d14_4 rfl ?_
  refine g_baload 6 rfl C X0 e0 B_b1 8 (by decide) (by decide) (f 8) (heq 8 (by decide)).symm d14_5 ?_
  refine g_icmp_ne_f 9 rfl C X0 d14_6 rfl ?_
  refine g_aloadN 10 rfl C X0 d14_9 rfl rfl ?_
  refine g_iloadN 11 rfl C X0 d14_10 rfl ?_
  refine g_iconst 12 rfl C X0 (1 : Int32) d14_11 rfl ?_
  refine g_iadd 13 rfl C X0 d14_12 ?_
  refine g_baload 14 rfl C X0 e0 B_b0 9 (by decide) (by decide) (f 9) rfl d14_13 ?_
  refine g_aloadN 15 rfl C X0 d14_14 rfl rfl ?_
  refine g_iloadN 16 rfl C X0 d14_15 rfl ?_
  refine g_iconst 17 rfl C X0 (1 : Int32) d14_16 rfl ?_
  refine g_iadd 18 rfl C X0 d14_17 ?_
  refine g_baload 19 rfl C X0 e0 B_b1 9 (by decide) (by decide) (f 9) (heq 9 (by decide)).symm d14_18 ?_
  refine g_icmp_ne_f 22 rfl C X0 d14_19 rfl ?_
  refine g_aloadN 23 rfl C X0 d14_22 rfl rfl ?_
  refine g_iloadN 24 rfl C X0 d14_23 rfl ?_
  refine g_iconst 25 rfl C X0 (2 : Int32) d14_24 rfl ?_
  refine g_iadd 26 rfl C X0 d14_25 ?_
  refine g_baload 27 rfl C X0 e0 B_b0 10 (by decide) (by decide) (f 10) rfl d14_26 ?_
  refine g_aloadN 28 rfl C X0 d14_27 rfl rfl ?_
  refine g_iloadN 29 rfl C X0 d14_28 rfl ?_
  refine g_iconst 30 rfl C X0 (2 : Int32) d14_29 rfl ?_
  refine g_iadd 31 rfl C X0 d14_30 ?_
  refine g_baload 32 rfl C X0 e0 B_b1 10 (by decide) (by decide) (f 10) (heq 10 (by decide)).symm d14_31 ?_
  refine g_icmp_ne_f 35 rfl C X0 d14_32 rfl ?_
  refine g_aloadN 36 rfl C X0 d14_35 rfl rfl ?_
  refine g_iloadN 37 rfl C X0 d14_36 rfl ?_
  refine g_iconst 38 rfl C X0 (3 : Int32) d14_37 rfl ?_
  refine g_iadd 39 rfl C X0 d14_38 ?_
  refine g_baload 40 rfl C X0 e0 B_b0 11 (by decide) (by decide) (f 11) rfl d14_39 ?_
  refine g_aloadN 41 rfl C X0 d14_40 rfl rfl ?_
  refine g_iloadN 42 rfl C X0 d14_41 rfl ?_
  refine g_iconst 43 rfl C X0 (3 : Int32) d14_42 rfl ?_
  refine g_iadd 44 rfl C X0 d14_43 ?_
  refine g_baload 45 rfl C X0 e0 B_b1 11 (by decide) (by decide) (f 11) (heq 11 (by decide)).symm d14_44 ?_
  refine g_icmp_ne_f 48 rfl C X0 d14_45 rfl ?_
  refine g_aloadN 49 rfl C X0 d14_48 rfl rfl ?_
  refine g_iloadN 50 rfl C X0 d14_49 rfl ?_
  refine g_iconst 51 rfl C X0 (4 : Int32) d14_50 rfl ?_
  refine g_iadd 52 rfl C X0 d14_51 ?_
  refine g_baload 53 rfl C X0 e0 B_b0 12 (by decide) (by decide) (f 12) rfl d14_52 ?_
  refine g_aloadN 54 rfl C X0 d14_53 rfl rfl ?_
  refine g_iloadN 55 rfl C X0 d14_54 rfl ?_
  refine g_iconst 56 rfl C X0 (4 : Int32) d14_55 rfl ?_
  refine g_iadd 57 rfl C X0 d14_56 ?_
  refine g_baload 58 rfl C X0 e0 B_b1 12 (by decide) (by decide) (f 12) (heq 12 (by decide)).symm d14_57 ?_
  refine g_icmp_ne_f 61 rfl C X0 d14_58 rfl ?_
  refine g_aloadN 62 rfl C X0 d14_61 rfl rfl ?_
  refine g_iloadN 63 rfl C X0 d14_62 rfl ?_
  refine g_iconst 64 rfl C X0 (5 : Int32) d14_63 rfl ?_
  refine g_iadd 65 rfl C X0 d14_64 ?_
  refine g_baload 66 rfl C X0 e0 B_b0 13 (by decide) (by decide) (f 13) rfl d14_65 ?_
  refine g_aloadN 67 rfl C X0 d14_66 rfl rfl ?_
  refine g_iloadN 68 rfl C X0 d14_67 rfl ?_
  refine g_iconst 69 rfl C X0 (5 : Int32) d14_68 rfl ?_
  refine g_iadd 70 rfl C X0 d14_69 ?_
  refine g_baload 71 rfl C X0 e0 B_b1 13 (by decide) (by decide) (f 13) (heq 13 (by decide)).symm d14_70 ?_
  refine g_icmp_ne_f 74 rfl C X0 d14_71 rfl ?_
  refine g_aloadN 75 rfl C X0 d14_74 rfl rfl ?_
  refine g_iloadN 76 rfl C X0 d14_75 rfl ?_
  refine g_bipush 78 rfl C X0 (6 : Int32) d14_76 rfl ?_
  refine g_iadd 79 rfl C X0 d14_78 ?_
  refine g_baload 80 rfl C X0 e0 B_b0 14 (by decide) (by decide) (f 14) rfl d14_79 ?_
  refine g_aloadN 81 rfl C X0 d14_80 rfl rfl ?_
  refine g_iloadN 82 rfl C X0 d14_81 rfl ?_
  refine g_bipush 84 rfl C X0 (6 : Int32) d14_82 rfl ?_
  refine g_iadd 85 rfl C X0 d14_84 ?_
  refine g_baload 86 rfl C X0 e0 B_b1 14 (by decide) (by decide) (f 14) (heq 14 (by decide)).symm d14_85 ?_
  refine g_icmp_ne_f 89 rfl C X0 d14_86 rfl ?_
  refine g_aloadN 90 rfl C X0 d14_89 rfl rfl ?_
  refine g_iloadN 91 rfl C X0 d14_90 rfl ?_
  refine g_bipush 93 rfl C X0 (7 : Int32) d14_91 rfl ?_
  refine g_iadd 94 rfl C X0 d14_93 ?_
  refine g_baload 95 rfl C X0 e0 B_b0 15 (by decide) (by decide) (f 15) rfl d14_94 ?_
  refine g_aloadN 96 rfl C X0 d14_95 rfl rfl ?_
  refine g_iloadN 97 rfl C X0 d14_96 rfl ?_
  refine g_bipush 99 rfl C X0 (7 : Int32) d14_97 rfl ?_
  refine g_iadd 100 rfl C X0 d14_99 ?_
  refine g_baload 101 rfl C X0 e0 B_b1 15 (by decide) (by decide) (f 15) (heq 15 (by decide)).symm d14_100 ?_
  refine g_icmp_ne_f 104 rfl C X0 d14_101 rfl ?_
  refine g_iconst 105 rfl C X0 (1 : Int32) d14_104 rfl ?_
  refine g_goto 109 C X0 d14_105 (by decide) (by decide) ?_
  exact g_retN C X0 (z' := (1 : Int32)) rfl (Or.inl rfl) d14_109 e0 (by decide) (by decide) rfl ⟨rfl, N0, rfl⟩
theorem ef_14_16 (m : MethodId) (b0 : Addr) (b1 : Addr) : entryFrame m #[(.ref b0), (.ref b1), (.int (16 : Int32))] 3 = mkF m 0 #[.val (.ref b0), .val (.ref b1), .val (.int (16 : Int32))] [] := by first | (simp [entryFrame, mkF, argsToLocals, Value.category]; done) | rfl
def Q14_16 (Z : State) (b0 : Addr) (b1 : Addr) (f : Nat → Int32) (g : Nat → Int32) (h0 : Heap) (n0 : Nat) (v : Option Value) (h : Heap) (L : List Loc) : Prop := v = some (.int 1) ∧ Fr n0 L ∧ h = h0
set_option maxRecDepth 65536 in
set_option maxHeartbeats 40000000 in
theorem rm14_16 (l : Launch) (Z : State) (a0 : Array Value) (hw : ∀ d ∈ tables_1, d.before a0 Z = true) (ws : List Jvm.Cond) (b0 : Addr) (b1 : Addr) (f : Nat → Int32) (g : Nat → Int32) (h0 : Heap) (n0 : Nat) (Z0 : n0 ≤ h0.size) (B_b0 : Ba Z h0 b0 .byte 32 f) (B_b1 : Ba Z h0 b1 .byte 32 g) (heq : ∀ k, k < 32 → f k = g k) :
    MetFree l (⟨"com/example/vaglio/vaglio/filter/FilterSnapshotMaskSeedPinLaw", "eq8", "([B[BI)Z"⟩ : MethodName) (head1 (Jvm.Cond.code (⟨"com/example/vaglio/vaglio/filter/FilterSnapshotMaskSeedPinLaw", "eq8", "([B[BI)Z"⟩ : MethodName) method_6_code 3 (some .boolean) :: ws) ({ frames := 0, cells := 0, slots := 0, locals := 0 } : Room)) (fun a U => a = #[(.ref b0), (.ref b1), (.int (16 : Int32))] ∧ Z.Warmed39 U.vm ∧ U.heap = h0) (fun _ _ _ _ _ => True) (fun _ U o U' => ∃ v L, o = .returned v ∧ Q14_16 Z b0 b1 f g h0 n0 v U'.heap L ∧ FrameEnd U o U' L ({ frames := 0, cells := 0, slots := 0, locals := 0 } : Room).cells ({ frames := 0, cells := 0, slots := 0, locals := 0 } : Room).slots) := by
  refine MetFree.of_bodySF (plainFor_of_name pn_58263735) hisR ?_
  intro p e s m args below meth c s₁ Bd hml0 hP hK
  obtain ⟨rfl, hZ, hh⟩ := hP
  have C : Ctx p s m meth c Z "com/example/vaglio/vaglio/filter/FilterSnapshotMaskSeedPinLaw" "eq8" method_6_code 3 (some .boolean) := Ctx.of Bd hml0 hZ
  have X0 : Stand p l e ({ frames := 0, cells := 0, slots := 0, locals := 0 } : Room) s m #[(.ref b0), (.ref b1), (.int (16 : Int32))] below meth c s₁ [] 0 0 := Stand.of_body Bd
  have e0 : s₁.heap = h0 := by rw [← hh, Bd.state]; rfl
  have N0 := Fr.nil n0
  refine Goes.enter (ef_14_16 m b0 b1) ?_
  clear hK hml0 hh
  refine g_aloadN 1 rfl C X0 d14_0 rfl rfl ?_
  refine g_iloadN 2 rfl C X0 d14_1 rfl ?_
  refine g_baload 3 rfl C X0 e0 B_b0 16 (by decide) (by decide) (f 16) rfl d14_2 ?_
  refine g_aloadN 4 rfl C X0 d14_3 rfl rfl ?_
  refine g_iloadN 5 rfl C X0 d14_4 rfl ?_
  refine g_baload 6 rfl C X0 e0 B_b1 16 (by decide) (by decide) (f 16) (heq 16 (by decide)).symm d14_5 ?_
  refine g_icmp_ne_f 9 rfl C X0 d14_6 rfl ?_
  refine g_aloadN 10 rfl C X0 d14_9 rfl rfl ?_
  refine g_iloadN 11 rfl C X0 d14_10 rfl ?_
  refine g_iconst 12 rfl C X0 (1 : Int32) d14_11 rfl ?_
  refine g_iadd 13 rfl C X0 d14_12 ?_
  refine g_baload 14 rfl C X0 e0 B_b0 17 (by decide) (by decide) (f 17) rfl d14_13 ?_
  refine g_aloadN 15 rfl C X0 d14_14 rfl rfl ?_
  refine g_iloadN 16 rfl C X0 d14_15 rfl ?_
  refine g_iconst 17 rfl C X0 (1 : Int32) d14_16 rfl ?_
  refine g_iadd 18 rfl C X0 d14_17 ?_
  refine g_baload 19 rfl C X0 e0 B_b1 17 (by decide) (by decide) (f 17) (heq 17 (by decide)).symm d14_18 ?_
  refine g_icmp_ne_f 22 rfl C X0 d14_19 rfl ?_
  refine g_aloadN 23 rfl C X0 d14_22 rfl rfl ?_
  refine g_iloadN 24 rfl C X0 d14_23 rfl ?_
  refine g_iconst 25 rfl C X0 (2 : Int32) d14_24 rfl ?_
  refine g_iadd 26 rfl C X0 d14_25 ?_
  refine g_baload 27 rfl C X0 e0 B_b0 18 (by decide) (by decide) (f 18) rfl d14_26 ?_
  refine g_aloadN 28 rfl C X0 d14_27 rfl rfl ?_
  refine g_iloadN 29 rfl C X0 d14_28 rfl ?_
  refine g_iconst 30 rfl C X0 (2 : Int32) d14_29 rfl ?_
  refine g_iadd 31 rfl C X0 d14_30 ?_
  refine g_baload 32 rfl C X0 e0 B_b1 18 (by decide) (by decide) (f 18) (heq 18 (by decide)).symm d14_31 ?_
  refine g_icmp_ne_f 35 rfl C X0 d14_32 rfl ?_
  refine g_aloadN 36 rfl C X0 d14_35 rfl rfl ?_
  refine g_iloadN 37 rfl C X0 d14_36 rfl ?_
  refine g_iconst 38 rfl C X0 (3 : Int32) d14_37 rfl ?_
  refine g_iadd 39 rfl C X0 d14_38 ?_
  refine g_baload 40 rfl C X0 e0 B_b0 19 (by decide) (by decide) (f 19) rfl d14_39 ?_
  refine g_aloadN 41 rfl C X0 d14_40 rfl rfl ?_
  refine g_iloadN 42 rfl C X0 d14_41 rfl ?_
  refine g_iconst 43 rfl C X0 (3 : Int32) d14_42 rfl ?_
  refine g_iadd 44 rfl C X0 d14_43 ?_
  refine g_baload 45 rfl C X0 e0 B_b1 19 (by decide) (by decide) (f 19) (heq 19 (by decide)).symm d14_44 ?_
  refine g_icmp_ne_f 48 rfl C X0 d14_45 rfl ?_
  refine g_aloadN 49 rfl C X0 d14_48 rfl rfl ?_
  refine g_iloadN 50 rfl C X0 d14_49 rfl ?_
  refine g_iconst 51 rfl C X0 (4 : Int32) d14_50 rfl ?_
  refine g_iadd 52 rfl C X0 d14_51 ?_
  refine g_baload 53 rfl C X0 e0 B_b0 20 (by decide) (by decide) (f 20) rfl d14_52 ?_
  refine g_aloadN 54 rfl C X0 d14_53 rfl rfl ?_
  refine g_iloadN 55 rfl C X0 d14_54 rfl ?_
  refine g_iconst 56 rfl C X0 (4 : Int32) d14_55 rfl ?_
  refine g_iadd 57 rfl C X0 d14_56 ?_
  refine g_baload 58 rfl C X0 e0 B_b1 20 (by decide) (by decide) (f 20) (heq 20 (by decide)).symm d14_57 ?_
  refine g_icmp_ne_f 61 rfl C X0 d14_58 rfl ?_
  refine g_aloadN 62 rfl C X0 d14_61 rfl rfl ?_
  refine g_iloadN 63 rfl C X0 d14_62 rfl ?_
  refine g_iconst 64 rfl C X0 (5 : Int32) d14_63 rfl ?_
  refine g_iadd 65 rfl C X0 d14_64 ?_
  refine g_baload 66 rfl C X0 e0 B_b0 21 (by decide) (by decide) (f 21) rfl d14_65 ?_
  refine g_aloadN 67 rfl C X0 d14_66 rfl rfl ?_
  refine g_iloadN 68 rfl C X0 d14_67 rfl ?_
  refine g_iconst 69 rfl C X0 (5 : Int32) d14_68 rfl ?_
  refine g_iadd 70 rfl C X0 d14_69 ?_
  refine g_baload 71 rfl C X0 e0 B_b1 21 (by decide) (by decide) (f 21) (heq 21 (by decide)).symm d14_70 ?_
  refine g_icmp_ne_f 74 rfl C X0 d14_71 rfl ?_
  refine g_aloadN 75 rfl C X0 d14_74 rfl rfl ?_
  refine g_iloadN 76 rfl C X0 d14_75 rfl ?_
  refine g_bipush 78 rfl C X0 (6 : Int32) d14_76 rfl ?_
  refine g_iadd 79 rfl C X0 d14_78 ?_
  refine g_baload 80 rfl C X0 e0 B_b0 22 (by decide) (by decide) (f 22) rfl d14_79 ?_
  refine g_aloadN 81 rfl C X0 d14_80 rfl rfl ?_
  refine g_iloadN 82 rfl C X0 d14_81 rfl ?_
  refine g_bipush 84 rfl C X0 (6 : Int32) d14_82 rfl ?_
  refine g_iadd 85 rfl C X0 d14_84 ?_
  refine g_baload 86 rfl C X0 e0 B_b1 22 (by decide) (by decide) (f 22) (heq 22 (by decide)).symm d14_85 ?_
  refine g_icmp_ne_f 89 rfl C X0 d14_86 rfl ?_
  refine g_aloadN 90 rfl C X0 d14_89 rfl rfl ?_
  refine g_iloadN 91 rfl C X0 d14_90 rfl ?_
  refine g_bipush 93 rfl C X0 (7 : Int32) d14_91 rfl ?_
  refine g_iadd 94 rfl C X0 d14_93 ?_
  refine g_baload 95 rfl C X0 e0 B_b0 23 (by decide) (by decide) (f 23) rfl d14_94 ?_
  refine g_aloadN 96 rfl C X0 d14_95 rfl rfl ?_
  refine g_iloadN 97 rfl C X0 d14_96 rfl ?_
  refine g_bipush 99 rfl C X0 (7 : Int32) d14_97 rfl ?_
  refine g_iadd 100 rfl C X0 d14_99 ?_
  refine g_baload 101 rfl C X0 e0 B_b1 23 (by decide) (by decide) (f 23) (heq 23 (by decide)).symm d14_100 ?_
  refine g_icmp_ne_f 104 rfl C X0 d14_101 rfl ?_
  refine g_iconst 105 rfl C X0 (1 : Int32) d14_104 rfl ?_
  refine g_goto 109 C X0 d14_105 (by decide) (by decide) ?_
  exact g_retN C X0 (z' := (1 : Int32)) rfl (Or.inl rfl) d14_109 e0 (by decide) (by decide) rfl ⟨rfl, N0, rfl⟩
theorem ef_14_24 (m : MethodId) (b0 : Addr) (b1 : Addr) : entryFrame m #[(.ref b0), (.ref b1), (.int (24 : Int32))] 3 = mkF m 0 #[.val (.ref b0), .val (.ref b1), .val (.int (24 : Int32))] [] := by first | (simp [entryFrame, mkF, argsToLocals, Value.category]; done) | rfl
def Q14_24 (Z : State) (b0 : Addr) (b1 : Addr) (f : Nat → Int32) (g : Nat → Int32) (h0 : Heap) (n0 : Nat) (v : Option Value) (h : Heap) (L : List Loc) : Prop := v = some (.int 1) ∧ Fr n0 L ∧ h = h0
set_option maxRecDepth 65536 in
set_option maxHeartbeats 40000000 in
theorem rm14_24 (l : Launch) (Z : State) (a0 : Array Value) (hw : ∀ d ∈ tables_1, d.before a0 Z = true) (ws : List Jvm.Cond) (b0 : Addr) (b1 : Addr) (f : Nat → Int32) (g : Nat → Int32) (h0 : Heap) (n0 : Nat) (Z0 : n0 ≤ h0.size) (B_b0 : Ba Z h0 b0 .byte 32 f) (B_b1 : Ba Z h0 b1 .byte 32 g) (heq : ∀ k, k < 32 → f k = g k) :
    MetFree l (⟨"com/example/vaglio/vaglio/filter/FilterSnapshotMaskSeedPinLaw", "eq8", "([B[BI)Z"⟩ : MethodName) (head1 (Jvm.Cond.code (⟨"com/example/vaglio/vaglio/filter/FilterSnapshotMaskSeedPinLaw", "eq8", "([B[BI)Z"⟩ : MethodName) method_6_code 3 (some .boolean) :: ws) ({ frames := 0, cells := 0, slots := 0, locals := 0 } : Room)) (fun a U => a = #[(.ref b0), (.ref b1), (.int (24 : Int32))] ∧ Z.Warmed39 U.vm ∧ U.heap = h0) (fun _ _ _ _ _ => True) (fun _ U o U' => ∃ v L, o = .returned v ∧ Q14_24 Z b0 b1 f g h0 n0 v U'.heap L ∧ FrameEnd U o U' L ({ frames := 0, cells := 0, slots := 0, locals := 0 } : Room).cells ({ frames := 0, cells := 0, slots := 0, locals := 0 } : Room).slots) := by
  refine MetFree.of_bodySF (plainFor_of_name pn_58263735) hisR ?_
  intro p e s m args below meth c s₁ Bd hml0 hP hK
  obtain ⟨rfl, hZ, hh⟩ := hP
  have C : Ctx p s m meth c Z "com/example/vaglio/vaglio/filter/FilterSnapshotMaskSeedPinLaw" "eq8" method_6_code 3 (some .boolean) := Ctx.of Bd hml0 hZ
  have X0 : Stand p l e ({ frames := 0, cells := 0, slots := 0, locals := 0 } : Room) s m #[(.ref b0), (.ref b1), (.int (24 : Int32))] below meth c s₁ [] 0 0 := Stand.of_body Bd
  have e0 : s₁.heap = h0 := by rw [← hh, Bd.state]; rfl
  have N0 := Fr.nil n0
  refine Goes.enter (ef_14_24 m b0 b1) ?_
  clear hK hml0 hh
  refine g_aloadN 1 rfl C X0 d14_0 rfl rfl ?_
  refine g_iloadN 2 rfl C X0 d14_1 rfl ?_
  refine g_baload 3 rfl C X0 e0 B_b0 24 (by decide) (by decide) (f 24) rfl d14_2 ?_
  refine g_aloadN 4 rfl C X0 d14_3 rfl rfl ?_
  refine g_iloadN 5 rfl C X0 d14_4 rfl ?_
  refine g_baload 6 rfl C X0 e0 B_b1 24 (by decide) (by decide) (f 24) (heq 24 (by decide)).symm d14_5 ?_
  refine g_icmp_ne_f 9 rfl C X0 d14_6 rfl ?_
  refine g_aloadN 10 rfl C X0 d14_9 rfl rfl ?_
  refine g_iloadN 11 rfl C X0 d14_10 rfl ?_
  refine g_iconst 12 rfl C X0 (1 : Int32) d14_11 rfl ?_
  refine g_iadd 13 rfl C X0 d14_12 ?_
  refine g_baload 14 rfl C X0 e0 B_b0 25 (by decide) (by decide) (f 25) rfl d14_13 ?_
  refine g_aloadN 15 rfl C X0 d14_14 rfl rfl ?_
  refine g_iloadN 16 rfl C X0 d14_15 rfl ?_
  refine g_iconst 17 rfl C X0 (1 : Int32) d14_16 rfl ?_
  refine g_iadd 18 rfl C X0 d14_17 ?_
  refine g_baload 19 rfl C X0 e0 B_b1 25 (by decide) (by decide) (f 25) (heq 25 (by decide)).symm d14_18 ?_
  refine g_icmp_ne_f 22 rfl C X0 d14_19 rfl ?_
  refine g_aloadN 23 rfl C X0 d14_22 rfl rfl ?_
  refine g_iloadN 24 rfl C X0 d14_23 rfl ?_
  refine g_iconst 25 rfl C X0 (2 : Int32) d14_24 rfl ?_
  refine g_iadd 26 rfl C X0 d14_25 ?_
  refine g_baload 27 rfl C X0 e0 B_b0 26 (by decide) (by decide) (f 26) rfl d14_26 ?_
  refine g_aloadN 28 rfl C X0 d14_27 rfl rfl ?_
  refine g_iloadN 29 rfl C X0 d14_28 rfl ?_
  refine g_iconst 30 rfl C X0 (2 : Int32) d14_29 rfl ?_
  refine g_iadd 31 rfl C X0 d14_30 ?_
  refine g_baload 32 rfl C X0 e0 B_b1 26 (by decide) (by decide) (f 26) (heq 26 (by decide)).symm d14_31 ?_
  refine g_icmp_ne_f 35 rfl C X0 d14_32 rfl ?_
  refine g_aloadN 36 rfl C X0 d14_35 rfl rfl ?_
  refine g_iloadN 37 rfl C X0 d14_36 rfl ?_
  refine g_iconst 38 rfl C X0 (3 : Int32) d14_37 rfl ?_
  refine g_iadd 39 rfl C X0 d14_38 ?_
  refine g_baload 40 rfl C X0 e0 B_b0 27 (by decide) (by decide) (f 27) rfl d14_39 ?_
  refine g_aloadN 41 rfl C X0 d14_40 rfl rfl ?_
  refine g_iloadN 42 rfl C X0 d14_41 rfl ?_
  refine g_iconst 43 rfl C X0 (3 : Int32) d14_42 rfl ?_
  refine g_iadd 44 rfl C X0 d14_43 ?_
  refine g_baload 45 rfl C X0 e0 B_b1 27 (by decide) (by decide) (f 27) (heq 27 (by decide)).symm d14_44 ?_
  refine g_icmp_ne_f 48 rfl C X0 d14_45 rfl ?_
  refine g_aloadN 49 rfl C X0 d14_48 rfl rfl ?_
  refine g_iloadN 50 rfl C X0 d14_49 rfl ?_
  refine g_iconst 51 rfl C X0 (4 : Int32) d14_50 rfl ?_
  refine g_iadd 52 rfl C X0 d14_51 ?_
  refine g_baload 53 rfl C X0 e0 B_b0 28 (by decide) (by decide) (f 28) rfl d14_52 ?_
  refine g_aloadN 54 rfl C X0 d14_53 rfl rfl ?_
  refine g_iloadN 55 rfl C X0 d14_54 rfl ?_
  refine g_iconst 56 rfl C X0 (4 : Int32) d14_55 rfl ?_
  refine g_iadd 57 rfl C X0 d14_56 ?_
  refine g_baload 58 rfl C X0 e0 B_b1 28 (by decide) (by decide) (f 28) (heq 28 (by decide)).symm d14_57 ?_
  refine g_icmp_ne_f 61 rfl C X0 d14_58 rfl ?_
  refine g_aloadN 62 rfl C X0 d14_61 rfl rfl ?_
  refine g_iloadN 63 rfl C X0 d14_62 rfl ?_
  refine g_iconst 64 rfl C X0 (5 : Int32) d14_63 rfl ?_
  refine g_iadd 65 rfl C X0 d14_64 ?_
  refine g_baload 66 rfl C X0 e0 B_b0 29 (by decide) (by decide) (f 29) rfl d14_65 ?_
  refine g_aloadN 67 rfl C X0 d14_66 rfl rfl ?_
  refine g_iloadN 68 rfl C X0 d14_67 rfl ?_
  refine g_iconst 69 rfl C X0 (5 : Int32) d14_68 rfl ?_
  refine g_iadd 70 rfl C X0 d14_69 ?_
  refine g_baload 71 rfl C X0 e0 B_b1 29 (by decide) (by decide) (f 29) (heq 29 (by decide)).symm d14_70 ?_
  refine g_icmp_ne_f 74 rfl C X0 d14_71 rfl ?_
  refine g_aloadN 75 rfl C X0 d14_74 rfl rfl ?_
  refine g_iloadN 76 rfl C X0 d14_75 rfl ?_
  refine g_bipush 78 rfl C X0 (6 : Int32) d14_76 rfl ?_
  refine g_iadd 79 rfl C X0 d14_78 ?_
  refine g_baload 80 rfl C X0 e0 B_b0 30 (by decide) (by decide) (f 30) rfl d14_79 ?_
  refine g_aloadN 81 rfl C X0 d14_80 rfl rfl ?_
  refine g_iloadN 82 rfl C X0 d14_81 rfl ?_
  refine g_bipush 84 rfl C X0 (6 : Int32) d14_82 rfl ?_
  refine g_iadd 85 rfl C X0 d14_84 ?_
  refine g_baload 86 rfl C X0 e0 B_b1 30 (by decide) (by decide) (f 30) (heq 30 (by decide)).symm d14_85 ?_
  refine g_icmp_ne_f 89 rfl C X0 d14_86 rfl ?_
  refine g_aloadN 90 rfl C X0 d14_89 rfl rfl ?_
  refine g_iloadN 91 rfl C X0 d14_90 rfl ?_
  refine g_bipush 93 rfl C X0 (7 : Int32) d14_91 rfl ?_
  refine g_iadd 94 rfl C X0 d14_93 ?_
  refine g_baload 95 rfl C X0 e0 B_b0 31 (by decide) (by decide) (f 31) rfl d14_94 ?_
  refine g_aloadN 96 rfl C X0 d14_95 rfl rfl ?_
  refine g_iloadN 97 rfl C X0 d14_96 rfl ?_
  refine g_bipush 99 rfl C X0 (7 : Int32) d14_97 rfl ?_
  refine g_iadd 100 rfl C X0 d14_99 ?_
  refine g_baload 101 rfl C X0 e0 B_b1 31 (by decide) (by decide) (f 31) (heq 31 (by decide)).symm d14_100 ?_
  refine g_icmp_ne_f 104 rfl C X0 d14_101 rfl ?_
  refine g_iconst 105 rfl C X0 (1 : Int32) d14_104 rfl ?_
  refine g_goto 109 C X0 d14_105 (by decide) (by decide) ?_
  exact g_retN C X0 (z' := (1 : Int32)) rfl (Or.inl rfl) d14_109 e0 (by decide) (by decide) rfl ⟨rfl, N0, rfl⟩
theorem d13_0 : decode method_5_code 0 = .ok (.aload_n 0, 1) := by decide +kernel
theorem d13_1 : decode method_5_code 1 = .ok (.aload_n 1, 1) := by decide +kernel
theorem d13_2 : decode method_5_code 2 = .ok (.iconst 0, 1) := by decide +kernel
theorem d13_3 : decode method_5_code 3 = .ok (.invokestatic 42, 3) := by decide +kernel
theorem pd_50647695 : parseMethodDescriptor "([B[BI)Z" = some ⟨[(.array .byte), (.array .byte), .int], some .boolean⟩ := by decide +kernel
theorem d13_6 : decode method_5_code 6 = .ok (.ifCond .eq 37, 3) := by decide +kernel
theorem d13_9 : decode method_5_code 9 = .ok (.aload_n 0, 1) := by decide +kernel
theorem d13_10 : decode method_5_code 10 = .ok (.aload_n 1, 1) := by decide +kernel
theorem d13_11 : decode method_5_code 11 = .ok (.bipush 8, 2) := by decide +kernel
theorem d13_13 : decode method_5_code 13 = .ok (.invokestatic 42, 3) := by decide +kernel
theorem d13_16 : decode method_5_code 16 = .ok (.ifCond .eq 27, 3) := by decide +kernel
theorem d13_19 : decode method_5_code 19 = .ok (.aload_n 0, 1) := by decide +kernel
theorem d13_20 : decode method_5_code 20 = .ok (.aload_n 1, 1) := by decide +kernel
theorem d13_21 : decode method_5_code 21 = .ok (.bipush 16, 2) := by decide +kernel
theorem d13_23 : decode method_5_code 23 = .ok (.invokestatic 42, 3) := by decide +kernel
theorem d13_26 : decode method_5_code 26 = .ok (.ifCond .eq 17, 3) := by decide +kernel
theorem d13_29 : decode method_5_code 29 = .ok (.aload_n 0, 1) := by decide +kernel
theorem d13_30 : decode method_5_code 30 = .ok (.aload_n 1, 1) := by decide +kernel
theorem d13_31 : decode method_5_code 31 = .ok (.bipush 24, 2) := by decide +kernel
theorem d13_33 : decode method_5_code 33 = .ok (.invokestatic 42, 3) := by decide +kernel
theorem d13_36 : decode method_5_code 36 = .ok (.ifCond .eq 7, 3) := by decide +kernel
theorem d13_39 : decode method_5_code 39 = .ok (.iconst 1, 1) := by decide +kernel
theorem d13_40 : decode method_5_code 40 = .ok (.goto 4, 3) := by decide +kernel
theorem d13_44 : decode method_5_code 44 = .ok (.ireturn, 1) := by decide +kernel
theorem ef_13 (m : MethodId) (b0 : Addr) (b1 : Addr) : entryFrame m #[(.ref b0), (.ref b1)] 2 = mkF m 0 #[.val (.ref b0), .val (.ref b1)] [] := by first | (simp [entryFrame, mkF, argsToLocals, Value.category]; done) | rfl
def Q13 (Z : State) (b0 : Addr) (b1 : Addr) (f : Nat → Int32) (g : Nat → Int32) (h0 : Heap) (n0 : Nat) (v : Option Value) (h : Heap) (L : List Loc) : Prop := v = some (.int 1) ∧ Fr n0 L ∧ h = h0
set_option maxRecDepth 65536 in
set_option maxHeartbeats 40000000 in
theorem rm13 (l : Launch) (Z : State) (a0 : Array Value) (hw : ∀ d ∈ tables_1, d.before a0 Z = true) (ws : List Jvm.Cond) (b0 : Addr) (b1 : Addr) (f : Nat → Int32) (g : Nat → Int32) (h0 : Heap) (n0 : Nat) (Z0 : n0 ≤ h0.size) (B_b0 : Ba Z h0 b0 .byte 32 f) (B_b1 : Ba Z h0 b1 .byte 32 g) (heq : ∀ k, k < 32 → f k = g k) :
    MetFree l (⟨"com/example/vaglio/vaglio/filter/FilterSnapshotMaskSeedPinLaw", "same", "([B[B)Z"⟩ : MethodName) (head1 (Jvm.Cond.code (⟨"com/example/vaglio/vaglio/filter/FilterSnapshotMaskSeedPinLaw", "same", "([B[B)Z"⟩ : MethodName) method_5_code 2 (some .boolean) :: ws) ({ frames := 1, cells := 0, slots := 0, locals := 14 } : Room)) (fun a U => a = #[(.ref b0), (.ref b1)] ∧ Z.Warmed39 U.vm ∧ U.heap = h0) (fun _ _ _ _ _ => True) (fun _ U o U' => ∃ v L, o = .returned v ∧ Q13 Z b0 b1 f g h0 n0 v U'.heap L ∧ FrameEnd U o U' L ({ frames := 1, cells := 0, slots := 0, locals := 14 } : Room).cells ({ frames := 1, cells := 0, slots := 0, locals := 14 } : Room).slots) := by
  refine MetFree.of_bodySF (plainFor_of_name pn_58263735) hisR ?_
  intro p e s m args below meth c s₁ Bd hml0 hP hK
  obtain ⟨rfl, hZ, hh⟩ := hP
  have C : Ctx p s m meth c Z "com/example/vaglio/vaglio/filter/FilterSnapshotMaskSeedPinLaw" "same" method_5_code 2 (some .boolean) := Ctx.of Bd hml0 hZ
  have X0 : Stand p l e ({ frames := 1, cells := 0, slots := 0, locals := 14 } : Room) s m #[(.ref b0), (.ref b1)] below meth c s₁ [] 0 0 := Stand.of_body Bd
  have e0 : s₁.heap = h0 := by rw [← hh, Bd.state]; rfl
  have N0 := Fr.nil n0
  refine Goes.enter (ef_13 m b0 b1) ?_
  clear hK hml0 hh
  refine g_aloadN 1 rfl C X0 d13_0 rfl rfl ?_
  refine g_aloadN 2 rfl C X0 d13_1 rfl rfl ?_
  refine g_iconst 3 rfl C X0 (0 : Int32) d13_2 rfl ?_
  refine g_callS 6 rfl C X0 (argsL := [(.ref b0), (.ref b1), (.int (0 : Int32))]) (hw _ (List.mem_of_getElem? (i := 99) rfl)) (hw _ (List.mem_of_getElem? (i := 100) rfl)) (hw _ (List.mem_of_getElem? (i := 101) rfl)) (hw _ (List.mem_of_getElem? (i := 76) rfl)) e0 (rm14_0 l Z a0 hw [] b0 b1 f g h0 n0 Z0 B_b0 B_b1 heq) (lenOf pd_50647695 rfl) (by decide) (by decide) (by decide) (by decide) rfl (W := 0) (Nat.le_of_eq rfl) (by decide) d13_3 rfl fun r1 T2 Lc3 X4 hQ5 => ?_
  obtain ⟨rfl, Nq6, eh7⟩ := hQ5
  have N8 := Fr.app N0 Nq6
  show Goes _ _ _ _ _ _ 6 _ [(.int (1 : Int32))]
  refine g_if_eq_f 9 rfl C X4 d13_6 (by decide) ?_
  refine g_aloadN 10 rfl C X4 d13_9 rfl rfl ?_
  refine g_aloadN 11 rfl C X4 d13_10 rfl rfl ?_
  refine g_bipush 13 rfl C X4 (8 : Int32) d13_11 rfl ?_
  refine g_callS 16 rfl C X4 (argsL := [(.ref b0), (.ref b1), (.int (8 : Int32))]) (hw _ (List.mem_of_getElem? (i := 99) rfl)) (hw _ (List.mem_of_getElem? (i := 100) rfl)) (hw _ (List.mem_of_getElem? (i := 101) rfl)) (hw _ (List.mem_of_getElem? (i := 76) rfl)) eh7 (rm14_8 l Z a0 hw [] b0 b1 f g h0 n0 Z0 B_b0 B_b1 heq) (lenOf pd_50647695 rfl) (by decide) (by decide) (by decide) (by decide) rfl (W := 0) (Nat.le_of_eq rfl) (by decide) d13_13 rfl fun r9 T10 Lc11 X12 hQ13 => ?_
  obtain ⟨rfl, Nq14, eh15⟩ := hQ13
  have N16 := Fr.app N8 Nq14
  show Goes _ _ _ _ _ _ 16 _ [(.int (1 : Int32))]
  refine g_if_eq_f 19 rfl C X12 d13_16 (by decide) ?_
  refine g_aloadN 20 rfl C X12 d13_19 rfl rfl ?_
  refine g_aloadN 21 rfl C X12 d13_20 rfl rfl ?_
  refine g_bipush 23 rfl C X12 (16 : Int32) d13_21 rfl ?_
  refine g_callS 26 rfl C X12 (argsL := [(.ref b0), (.ref b1), (.int (16 : Int32))]) (hw _ (List.mem_of_getElem? (i := 99) rfl)) (hw _ (List.mem_of_getElem? (i := 100) rfl)) (hw _ (List.mem_of_getElem? (i := 101) rfl)) (hw _ (List.mem_of_getElem? (i := 76) rfl)) eh15 (rm14_16 l Z a0 hw [] b0 b1 f g h0 n0 Z0 B_b0 B_b1 heq) (lenOf pd_50647695 rfl) (by decide) (by decide) (by decide) (by decide) rfl (W := 0) (Nat.le_of_eq rfl) (by decide) d13_23 rfl fun r17 T18 Lc19 X20 hQ21 => ?_
  obtain ⟨rfl, Nq22, eh23⟩ := hQ21
  have N24 := Fr.app N16 Nq22
  show Goes _ _ _ _ _ _ 26 _ [(.int (1 : Int32))]
  refine g_if_eq_f 29 rfl C X20 d13_26 (by decide) ?_
  refine g_aloadN 30 rfl C X20 d13_29 rfl rfl ?_
  refine g_aloadN 31 rfl C X20 d13_30 rfl rfl ?_
  refine g_bipush 33 rfl C X20 (24 : Int32) d13_31 rfl ?_
  refine g_callS 36 rfl C X20 (argsL := [(.ref b0), (.ref b1), (.int (24 : Int32))]) (hw _ (List.mem_of_getElem? (i := 99) rfl)) (hw _ (List.mem_of_getElem? (i := 100) rfl)) (hw _ (List.mem_of_getElem? (i := 101) rfl)) (hw _ (List.mem_of_getElem? (i := 76) rfl)) eh23 (rm14_24 l Z a0 hw [] b0 b1 f g h0 n0 Z0 B_b0 B_b1 heq) (lenOf pd_50647695 rfl) (by decide) (by decide) (by decide) (by decide) rfl (W := 0) (Nat.le_of_eq rfl) (by decide) d13_33 rfl fun r25 T26 Lc27 X28 hQ29 => ?_
  obtain ⟨rfl, Nq30, eh31⟩ := hQ29
  have N32 := Fr.app N24 Nq30
  show Goes _ _ _ _ _ _ 36 _ [(.int (1 : Int32))]
  refine g_if_eq_f 39 rfl C X28 d13_36 (by decide) ?_
  refine g_iconst 40 rfl C X28 (1 : Int32) d13_39 rfl ?_
  refine g_goto 44 C X28 d13_40 (by decide) (by decide) ?_
  exact g_retN C X28 (z' := (1 : Int32)) rfl (Or.inl rfl) d13_44 eh31 (by decide) (by decide) rfl ⟨rfl, N32, rfl⟩
theorem pd_1793250 : parseMethodDescriptor "(II)V" = some ⟨[.int, .int], none⟩ := by decide +kernel
theorem pd_28114320 : parseMethodDescriptor "(Lcom/example/vaglio/vaglio/filter/FilterShape;)V" = some ⟨[(.object "com/example/vaglio/vaglio/filter/FilterShape")], none⟩ := by decide +kernel
theorem pd_11076584 : parseMethodDescriptor "(Lcom/example/vaglio/vaglio/filter/Filter;J[B)V" = some ⟨[(.object "com/example/vaglio/vaglio/filter/Filter"), .long, (.array .byte)], none⟩ := by decide +kernel
theorem pd_52138675 : parseMethodDescriptor "()[B" = some ⟨[], some (.array .byte)⟩ := by decide +kernel
theorem pd_49349145 : parseMethodDescriptor "([BJJJJ)V" = some ⟨[(.array .byte), .long, .long, .long, .long], none⟩ := by decide +kernel
theorem pd_55344312 : parseMethodDescriptor "([B[B)Z" = some ⟨[(.array .byte), (.array .byte)], some .boolean⟩ := by decide +kernel
theorem ef_0 (m : MethodId) (p0 : Int64) (p1 : Int64) (p2 : Int64) (p3 : Int64) (p4 : Int32) (p5 : Int32) : entryFrame m #[(.long p0), (.long p1), (.long p2), (.long p3), (.int p4), (.int p5)] maxLocals = mkF m 0 #[.val (.long p0), .second, .val (.long p1), .second, .val (.long p2), .second, .val (.long p3), .second, .val (.int p4), .val (.int p5), .unset, .unset, .unset, .unset, .unset, .unset, .unset, .unset, .unset] [] := by first | (simp [entryFrame, mkF, argsToLocals, Value.category, maxLocals]; done) | rfl
def Q0 (Z : State) (p0 : Int64) (p1 : Int64) (p2 : Int64) (p3 : Int64) (p4 : Int32) (p5 : Int32) (h0 : Heap) (n0 : Nat) (v : Option Value) (h : Heap) (L : List Loc) : Prop := v = some (.int 1) ∧ Fr n0 L
set_option maxRecDepth 65536 in
set_option maxHeartbeats 40000000 in
theorem rm0 (l : Launch) (Z : State) (a0 : Array Value) (hw : ∀ d ∈ tables_1, d.before a0 Z = true) (ws : List Jvm.Cond) (p0 : Int64) (p1 : Int64) (p2 : Int64) (p3 : Int64) (p4 : Int32) (p5 : Int32) (h0 : Heap) (n0 : Nat) (Z0 : n0 ≤ h0.size) :
    MetFree l x (head1 (Jvm.Cond.code x code maxLocals ret :: ws) room_1) (fun a U => a = #[(.long p0), (.long p1), (.long p2), (.long p3), (.int p4), (.int p5)] ∧ Z.Warmed39 U.vm ∧ U.heap = h0) (fun _ _ _ _ _ => True) (fun _ U o U' => ∃ v L, o = .returned v ∧ Q0 Z p0 p1 p2 p3 p4 p5 h0 n0 v U'.heap L ∧ ReturnedEndW U o U' L 32 3776) := by
  refine MetFree.of_bodySF (plainFor_of_name pn_58263735) hisR ?_
  intro p e s m args below meth c s₁ Bd hml0 hP hK
  obtain ⟨rfl, hZ, hh⟩ := hP
  have C : Ctx p (s.setVm s.vm) m meth c Z "com/example/vaglio/vaglio/filter/FilterSnapshotMaskSeedPinLaw" "law" code maxLocals ret := Ctx.of Bd hml0 hZ
  have X0 : Stand p l e room_1 (s.setVm s.vm) m #[(.long p0), (.long p1), (.long p2), (.long p3), (.int p4), (.int p5)] below meth c s₁ [] 0 0 := Stand.of_body Bd
  have e0 : s₁.heap = h0 := by rw [← hh, Bd.state]; rfl
  have N0 := Fr.nil n0
  have hS0 : s.Since s.vm 0 := (State.WarmedH.refl s).since 0
  have own_strW := own_strA a0 hw
  refine Goes.enterW (ef_0 m p0 p1 p2 p3 p4 p5) ?_
  clear hK hml0 hh
  refine g_iload 2 rfl C X0 at_0 rfl ?_
  refine g_i2l 3 rfl C X0 at_2 ?_
  refine g_ldc2 6 rfl C X0 (hw _ (List.mem_of_getElem? (i := 0) rfl)) at_3 ?_
  refine g_land 7 rfl C X0 at_6 ?_
  obtain ⟨v1, hv1⟩ : ∃ z : Int64, (((p4).toInt64) &&& (4294967295 : Int64)) = z := ⟨_, rfl⟩
  refine g_lstore 9 rfl C X0 v1 hv1 #[.val (.long p0), .second, .val (.long p1), .second, .val (.long p2), .second, .val (.long p3), .second, .val (.int p4), .val (.int p5), .val (.long v1), .second, .unset, .unset, .unset, .unset, .unset, .unset, .unset] at_7 rfl ?_
  refine g_new 12 rfl C X0 (hw _ (List.mem_of_getElem? (i := 1) rfl)) (hw _ (List.mem_of_getElem? (i := 2) rfl)) (hw _ (List.mem_of_getElem? (i := 3) rfl)) e0 at_9 (by decide) (by decide) fun T2 h3 o4 g5 X6 e7 E8 A9 D10 => ?_
  have gn11 : n0 ≤ o4 := by rw [g5]; exact Z0
  have Zs12 := Nat.le_trans Z0 E8.1
  have Ks13 := Nat.le_trans (Nat.zero_le _) E8.1
  have F14 : Fld Z h3 o4 "com/example/vaglio/vaglio/filter/Filter" "shape" "Lcom/example/vaglio/vaglio/filter/FilterShape;" .null := D10 (Or.inr (hw _ (List.mem_of_getElem? (i := 50) rfl))) (ty := (.object "com/example/vaglio/vaglio/filter/FilterShape")) (by decide)
  have F15 : Fld Z h3 o4 "com/example/vaglio/vaglio/filter/Filter" "bits" "[B" .null := D10 (Or.inr (hw _ (List.mem_of_getElem? (i := 52) rfl))) (ty := (.array .byte)) (by decide)
  refine g_dup 13 rfl C X6 at_12 rfl ?_
  refine g_new 16 rfl C X6 (hw _ (List.mem_of_getElem? (i := 4) rfl)) (hw _ (List.mem_of_getElem? (i := 5) rfl)) (hw _ (List.mem_of_getElem? (i := 6) rfl)) e7 at_13 (by decide) (by decide) fun T16 h17 o18 g19 X20 e21 E22 A23 D24 => ?_
  have ne25 : o4 ≠ o18 := by rw [g19]; exact Nat.ne_of_lt A9.lt
  have gn26 : n0 ≤ o18 := by rw [g19]; exact Zs12
  have F27 := A9.ext E22
  have F28 := F14.ext E22
  have F29 := F15.ext E22
  have Zs30 := Nat.le_trans Zs12 E22.1
  have Ks31 := Nat.le_trans Ks13 E22.1
  have F32 : Fld Z h17 o18 "com/example/vaglio/vaglio/filter/FilterShape" "hashes" "I" (.int (0 : Int32)) := D24 (Or.inr (hw _ (List.mem_of_getElem? (i := 20) rfl))) (ty := .int) (by decide)
  have F33 : Fld Z h17 o18 "com/example/vaglio/vaglio/filter/FilterShape" "rows" "I" (.int (0 : Int32)) := D24 (Or.inr (hw _ (List.mem_of_getElem? (i := 22) rfl))) (ty := .int) (by decide)
  refine g_dup 17 rfl C X20 at_16 rfl ?_
  refine g_iconst 18 rfl C X20 (1 : Int32) at_17 rfl ?_
  refine g_iconst 19 rfl C X20 (1 : Int32) at_18 rfl ?_
  have hq34 : 1 ≤ (1 : Int32).toInt ∧ (1 : Int32).toInt ≤ 8 := by
    have fc35 : (1 : Int32).toInt = 1 := rfl
    omega
  have hq36 : 1 ≤ (1 : Int32).toInt ∧ (1 : Int32).toInt ≤ 1024 := by
    have fc37 : (1 : Int32).toInt = 1 := rfl
    omega
  refine g_callN 22 rfl C X20 (argsL := [(.int (1 : Int32)), (.int (1 : Int32))]) rfl rfl (hw _ (List.mem_of_getElem? (i := 7) rfl)) (hw _ (List.mem_of_getElem? (i := 8) rfl)) (hw _ (List.mem_of_getElem? (i := 9) rfl)) (hw _ (List.mem_of_getElem? (i := 6) rfl)) e21 (rm1 l Z a0 hw [] o18 (1 : Int32) (1 : Int32) h17 n0 Zs30 A23 F32 F33 gn26 hq34 hq36) (lenOf pd_1793250 rfl) (by decide) (by decide) (by decide) (by decide) rfl (W := 3) (Nat.le_of_eq rfl) (by decide) at_19 rfl fun r38 T39 Lc40 X41 hQ42 => ?_
  obtain ⟨rfl, Nq43, Kc44, F45, F46, F47⟩ := hQ42
  have F48 := F27.keep Kc44
  have F49 := F28.keep Kc44 (ninS ne25 nin0)
  have F50 := F29.keep Kc44 (ninS ne25 nin0)
  have F51 := A23.keep Kc44
  have Zs52 := Nat.le_trans Zs30 Kc44.1
  have Ks53 := Nat.le_trans Ks31 Kc44.1
  have N54 := Fr.app N0 Nq43
  show Goes _ _ _ _ _ _ 22 _ [(.ref o18), (.ref o4), (.ref o4)]
  have hq55 : 1 ≤ (1 : Int32).toInt ∧ (1 : Int32).toInt ≤ 1 := by
    have fc56 : (1 : Int32).toInt = 1 := rfl
    omega
  refine w_callN 25 rfl C X41 hS0 Ks53 (argsL := [(.ref o18)]) rfl rfl (hw _ (List.mem_of_getElem? (i := 23) rfl)) (hw _ (List.mem_of_getElem? (i := 24) rfl)) (hw _ (List.mem_of_getElem? (i := 25) rfl)) (hw _ (List.mem_of_getElem? (i := 3) rfl)) rfl (rm4 l Z a0 hw [] o4 o18 (1 : Int32) (T39.heap) n0 Zs52 F48 F49 F50 gn11 F45 F47 hq55 (Ne.symm ne25)) (lenOf pd_28114320 rfl) (by decide) (by decide) (by decide) (by decide) rfl (W := 1) (Nat.le_of_eq rfl) (by decide) at_22 rfl fun r57 T58 Lc59 k62 C X60 S63 hk64 hQ61 => ?_
  obtain ⟨rfl, Nq65, Kc66, F67, F68⟩ := hQ61
  have F69 := F48.keep Kc66
  have F70 := F45.keep Kc66
  have F71 := F46.keep Kc66 (ninS (Ne.symm ne25) nin0)
  have F72 := F47.keep Kc66 (ninS (Ne.symm ne25) nin0)
  have Zs73 := Nat.le_trans Zs52 Kc66.1
  have Ks74 := Nat.le_trans Ks53 Kc66.1
  have N75 := Fr.app N54 Nq65
  show Goes _ _ _ _ _ _ 25 _ [(.ref o4)]
  refine g_astore 27 rfl C X60 #[.val (.long p0), .second, .val (.long p1), .second, .val (.long p2), .second, .val (.long p3), .second, .val (.int p4), .val (.int p5), .val (.long v1), .second, .val (.ref o4), .unset, .unset, .unset, .unset, .unset, .unset] at_25 rfl rfl ?_
  refine g_iload 29 rfl C X60 at_27 rfl ?_
  refine g_iconst 30 rfl C X60 (1 : Int32) at_29 rfl ?_
  refine g_iand 31 rfl C X60 at_30 ?_
  by_cases hb76 : (p5 &&& (1 : Int32)).toInt = 0
  · skip
    refine g_if_ne_f 34 rfl C X60 at_31 hb76 ?_
    refine g_new 37 rfl C X60 (hw _ (List.mem_of_getElem? (i := 53) rfl)) (hw _ (List.mem_of_getElem? (i := 54) rfl)) (hw _ (List.mem_of_getElem? (i := 55) rfl)) rfl at_34 (by decide) (by decide) fun T77 h78 o79 g80 X81 e82 E83 A84 D85 => ?_
    have ne86 : o18 ≠ o79 := by rw [g80]; exact Nat.ne_of_lt F70.lt
    have ne87 : o4 ≠ o79 := by rw [g80]; exact Nat.ne_of_lt F67.lt
    have gn88 : n0 ≤ o79 := by rw [g80]; exact Zs73
    have F89 := F67.ext E83
    have F90 := F70.ext E83
    have F91 := F71.ext E83
    have F92 := F72.ext E83
    have F93 := F68.ext E83
    have Zs94 := Nat.le_trans Zs73 E83.1
    have Ks95 := Nat.le_trans hk64 E83.1
    have F96 : Fld Z h78 o79 "com/example/vaglio/vaglio/filter/FilterSnapshot" "filter" "Lcom/example/vaglio/vaglio/filter/Filter;" .null := D85 (Or.inr (hw _ (List.mem_of_getElem? (i := 64) rfl))) (ty := (.object "com/example/vaglio/vaglio/filter/Filter")) (by decide)
    have F97 : Fld Z h78 o79 "com/example/vaglio/vaglio/filter/FilterSnapshot" "height" "J" (.long (0 : Int64)) := D85 (Or.inr (hw _ (List.mem_of_getElem? (i := 66) rfl))) (ty := .long) (by decide)
    have F98 : Fld Z h78 o79 "com/example/vaglio/vaglio/filter/FilterSnapshot" "maskSeed" "[B" .null := D85 (Or.inr (hw _ (List.mem_of_getElem? (i := 68) rfl))) (ty := (.array .byte)) (by decide)
    refine g_dup 38 rfl C X81 at_37 rfl ?_
    refine g_aload 40 rfl C X81 at_38 rfl rfl ?_
    refine g_lload 42 rfl C X81 at_40 rfl ?_
    refine g_null 43 rfl C X81 at_42 ?_
    have hq99 : 0 ≤ v1.toInt ∧ v1.toInt ≤ 4294967295 := by
      have fr100 := rng64 v1
      have fr101 := rng32 p4
      have fo102 := c_i2l p4
      have fc103 : (4294967295 : Int64).toInt = 4294967295 := rfl
      have fo104 : (((p4).toInt64) &&& (4294967295 : Int64)).toInt = ((p4).toInt64).toInt % 4294967296 := c_maskL ((p4).toInt64) (4294967295 : Int64) 32 (by decide) (by decide)
      have fe105 : (((p4).toInt64) &&& (4294967295 : Int64)).toInt = v1.toInt := congrArg Int64.toInt hv1
      omega
    refine w_callN 46 rfl C X81 S63 (by rw [e82]; exact Ks95) (argsL := [(.ref o4), (.long v1), .null]) rfl rfl (hw _ (List.mem_of_getElem? (i := 56) rfl)) (hw _ (List.mem_of_getElem? (i := 57) rfl)) (hw _ (List.mem_of_getElem? (i := 58) rfl)) (hw _ (List.mem_of_getElem? (i := 55) rfl)) e82 (rm8_0 l Z a0 hw [] o79 o4 v1 h78 n0 Zs94 A84 F96 F97 F98 gn88 hq99) (lenOf pd_11076584 rfl) (by decide) (by decide) (by decide) (by decide) rfl (W := 1) (Nat.le_of_eq rfl) (by decide) at_43 rfl fun r106 T107 Lc108 k111 C X109 S112 hk113 hQ110 => ?_
    obtain ⟨rfl, Nq114, Kc115, F116, F117, F118, F119⟩ := hQ110
    have F120 := F89.keep Kc115
    have F121 := F90.keep Kc115
    have F122 := F91.keep Kc115 (ninS ne86 nin0)
    have F123 := F92.keep Kc115 (ninS ne86 nin0)
    have F124 := F93.keep Kc115 (ninS ne87 nin0)
    have F125 := A84.keep Kc115
    have Zs126 := Nat.le_trans Zs94 Kc115.1
    have Ks127 := Nat.le_trans Ks95 Kc115.1
    have N128 := Fr.app N75 Nq114
    show Goes _ _ _ _ _ _ 46 _ [(.ref o79)]
    refine g_astore 48 rfl C X109 #[.val (.long p0), .second, .val (.long p1), .second, .val (.long p2), .second, .val (.long p3), .second, .val (.int p4), .val (.int p5), .val (.long v1), .second, .val (.ref o4), .val (.ref o79), .unset, .unset, .unset, .unset, .unset] at_46 rfl rfl ?_
    refine g_aload 50 rfl C X109 at_48 rfl rfl ?_
    refine g_callV 53 rfl C X109 (argsL := []) (hw _ (List.mem_of_getElem? (i := 69) rfl)) (hw _ (List.mem_of_getElem? (i := 70) rfl)) (hw _ (List.mem_of_getElem? (i := 72) rfl)) (hw _ (List.mem_of_getElem? (i := 71) rfl)) (hw _ (List.mem_of_getElem? (i := 73) rfl)) (hw _ (List.mem_of_getElem? (i := 55) rfl)) rfl F116 (rm9_0 l Z a0 hw [] o79 (T107.heap) n0 Zs126 F119) (lenOf pd_52138675 rfl) (by decide) (by decide) (by decide) (by decide) rfl (W := 0) (Nat.le_of_eq rfl) (by decide) at_50 rfl fun r129 T130 Lc131 X132 hQ133 => ?_
    obtain ⟨rfl, Nq134, eh135⟩ := hQ133
    have N136 := Fr.app N128 Nq134
    show Goes _ _ _ _ _ _ 53 _ [.null]
    refine g_ifnonnull_f 56 rfl C X132 at_53 ?_
    refine g_iconst 57 rfl C X132 (1 : Int32) at_56 rfl ?_
    refine g_goto 61 C X132 at_57 (by decide) (by decide) ?_
    exact w_retN C X132 S112 (by rw [eh135]; exact hk113) (z' := (1 : Int32)) rfl (Or.inl rfl) at_61 eh135 (by decide) (by decide) rfl ⟨rfl, N136⟩
  · skip
    refine g_if_ne_t 62 C X60 at_31 (by decide) (by decide) hb76 ?_
    refine g_bipush 64 rfl C X60 (32 : Int32) at_62 rfl ?_
    refine g_newPE 66 rfl C X60 32 (by decide) 32 (by decide) (by decide) rfl (hw _ (List.mem_of_getElem? (i := 29) rfl)) rfl at_64 (by decide) (by decide) (ad := "[B") (by decide) fun T137 h138 o139 g140 X141 e142 E143 B144 AB144 => ?_
    have ne145 : o18 ≠ o139 := by rw [g140]; exact Nat.ne_of_lt F70.lt
    have ne146 : o4 ≠ o139 := by rw [g140]; exact Nat.ne_of_lt F67.lt
    have gn147 : n0 ≤ o139 := by rw [g140]; exact Zs73
    have F148 := F67.ext E143
    have F149 := F70.ext E143
    have F150 := F71.ext E143
    have F151 := F72.ext E143
    have F152 := F68.ext E143
    have Zs153 := Nat.le_trans Zs73 E143.1
    have Ks154 := Nat.le_trans hk64 E143.1
    refine g_astore 68 rfl C X141 #[.val (.long p0), .second, .val (.long p1), .second, .val (.long p2), .second, .val (.long p3), .second, .val (.int p4), .val (.int p5), .val (.long v1), .second, .val (.ref o4), .val (.ref o139), .unset, .unset, .unset, .unset, .unset] at_66 rfl rfl ?_
    refine g_aload 70 rfl C X141 at_68 rfl rfl ?_
    refine g_lloadN 71 rfl C X141 at_70 rfl ?_
    refine g_lloadN 72 rfl C X141 at_71 rfl ?_
    refine g_lload 74 rfl C X141 at_72 rfl ?_
    refine g_lload 76 rfl C X141 at_74 rfl ?_
    refine g_callS 79 rfl C X141 (argsL := [(.ref o139), (.long p0), (.long p1), (.long p2), (.long p3)]) (hw _ (List.mem_of_getElem? (i := 74) rfl)) (hw _ (List.mem_of_getElem? (i := 75) rfl)) (hw _ (List.mem_of_getElem? (i := 77) rfl)) (hw _ (List.mem_of_getElem? (i := 76) rfl)) e142 (rm10 l Z a0 hw [] o139 p0 p1 p2 p3 h138 n0 Zs153 B144 gn147) (lenOf pd_49349145 rfl) (by decide) (by decide) (by decide) (by decide) rfl (W := 0) (Nat.le_of_eq rfl) (by decide) at_76 rfl fun r155 T156 Lc157 X158 hQ159 => ?_
    obtain ⟨rfl, Nq160, Kc161, F162⟩ := hQ159
    have F163 := F148.keep Kc161
    have F164 := F149.keep Kc161
    have F165 := F150.keep Kc161 (ninS ne145 nin0)
    have F166 := F151.keep Kc161 (ninS ne145 nin0)
    have F167 := F152.keep Kc161 (ninS ne146 nin0)
    have F168 := AB144.keep Kc161
    have Zs169 := Nat.le_trans Zs153 Kc161.1
    have Ks170 := Nat.le_trans Ks154 Kc161.1
    have N171 := Fr.app N75 Nq160
    show Goes _ _ _ _ _ _ 79 _ []
    refine g_bipush 81 rfl C X158 (32 : Int32) at_79 rfl ?_
    refine g_newPE 83 rfl C X158 32 (by decide) 32 (by decide) (by decide) rfl (hw _ (List.mem_of_getElem? (i := 29) rfl)) rfl at_81 (by decide) (by decide) (ad := "[B") (by decide) fun T172 h173 o174 g175 X176 e177 E178 B179 AB179 => ?_
    have ne180 : o139 ≠ o174 := by rw [g175]; exact Nat.ne_of_lt F168.lt
    have ne181 : o18 ≠ o174 := by rw [g175]; exact Nat.ne_of_lt F164.lt
    have ne182 : o4 ≠ o174 := by rw [g175]; exact Nat.ne_of_lt F163.lt
    have gn183 : n0 ≤ o174 := by rw [g175]; exact Zs169
    have F184 := F163.ext E178
    have F185 := F164.ext E178
    have F186 := F165.ext E178
    have F187 := F166.ext E178
    have F188 := F167.ext E178
    have F189 := F168.ext E178
    have F190 := F162.ext E178
    have Zs191 := Nat.le_trans Zs169 E178.1
    have Ks192 := Nat.le_trans Ks170 E178.1
    refine g_astore 85 rfl C X176 #[.val (.long p0), .second, .val (.long p1), .second, .val (.long p2), .second, .val (.long p3), .second, .val (.int p4), .val (.int p5), .val (.long v1), .second, .val (.ref o4), .val (.ref o139), .val (.ref o174), .unset, .unset, .unset, .unset] at_83 rfl rfl ?_
    refine g_aload 87 rfl C X176 at_85 rfl rfl ?_
    refine g_lloadN 88 rfl C X176 at_87 rfl ?_
    refine g_lloadN 89 rfl C X176 at_88 rfl ?_
    refine g_lload 91 rfl C X176 at_89 rfl ?_
    refine g_lload 93 rfl C X176 at_91 rfl ?_
    refine g_callS 96 rfl C X176 (argsL := [(.ref o174), (.long p0), (.long p1), (.long p2), (.long p3)]) (hw _ (List.mem_of_getElem? (i := 74) rfl)) (hw _ (List.mem_of_getElem? (i := 75) rfl)) (hw _ (List.mem_of_getElem? (i := 77) rfl)) (hw _ (List.mem_of_getElem? (i := 76) rfl)) e177 (rm10 l Z a0 hw [] o174 p0 p1 p2 p3 h173 n0 Zs191 B179 gn183) (lenOf pd_49349145 rfl) (by decide) (by decide) (by decide) (by decide) rfl (W := 0) (Nat.le_of_eq rfl) (by decide) at_93 rfl fun r193 T194 Lc195 X196 hQ197 => ?_
    obtain ⟨rfl, Nq198, Kc199, F200⟩ := hQ197
    have F201 := F184.keep Kc199
    have F202 := F185.keep Kc199
    have F203 := F186.keep Kc199 (ninS ne181 nin0)
    have F204 := F187.keep Kc199 (ninS ne181 nin0)
    have F205 := F188.keep Kc199 (ninS ne182 nin0)
    have F206 := F189.keep Kc199
    have F207 := F190.keep Kc199 (ninS ne180 nin0)
    have F208 := AB179.keep Kc199
    have Zs209 := Nat.le_trans Zs191 Kc199.1
    have Ks210 := Nat.le_trans Ks192 Kc199.1
    have N211 := Fr.app N171 Nq198
    show Goes _ _ _ _ _ _ 96 _ []
    refine g_new 99 rfl C X196 (hw _ (List.mem_of_getElem? (i := 53) rfl)) (hw _ (List.mem_of_getElem? (i := 54) rfl)) (hw _ (List.mem_of_getElem? (i := 55) rfl)) rfl at_96 (by decide) (by decide) fun T212 h213 o214 g215 X216 e217 E218 A219 D220 => ?_
    have ne221 : o139 ≠ o214 := by rw [g215]; exact Nat.ne_of_lt F206.lt
    have ne222 : o174 ≠ o214 := by rw [g215]; exact Nat.ne_of_lt F208.lt
    have ne223 : o18 ≠ o214 := by rw [g215]; exact Nat.ne_of_lt F202.lt
    have ne224 : o4 ≠ o214 := by rw [g215]; exact Nat.ne_of_lt F201.lt
    have gn225 : n0 ≤ o214 := by rw [g215]; exact Zs209
    have F226 := F201.ext E218
    have F227 := F202.ext E218
    have F228 := F203.ext E218
    have F229 := F204.ext E218
    have F230 := F205.ext E218
    have F231 := F206.ext E218
    have F232 := F207.ext E218
    have F233 := F208.ext E218
    have F234 := F200.ext E218
    have Zs235 := Nat.le_trans Zs209 E218.1
    have Ks236 := Nat.le_trans Ks210 E218.1
    have F237 : Fld Z h213 o214 "com/example/vaglio/vaglio/filter/FilterSnapshot" "filter" "Lcom/example/vaglio/vaglio/filter/Filter;" .null := D220 (Or.inr (hw _ (List.mem_of_getElem? (i := 64) rfl))) (ty := (.object "com/example/vaglio/vaglio/filter/Filter")) (by decide)
    have F238 : Fld Z h213 o214 "com/example/vaglio/vaglio/filter/FilterSnapshot" "height" "J" (.long (0 : Int64)) := D220 (Or.inr (hw _ (List.mem_of_getElem? (i := 66) rfl))) (ty := .long) (by decide)
    have F239 : Fld Z h213 o214 "com/example/vaglio/vaglio/filter/FilterSnapshot" "maskSeed" "[B" .null := D220 (Or.inr (hw _ (List.mem_of_getElem? (i := 68) rfl))) (ty := (.array .byte)) (by decide)
    refine g_dup 100 rfl C X216 at_99 rfl ?_
    refine g_aload 102 rfl C X216 at_100 rfl rfl ?_
    refine g_lload 104 rfl C X216 at_102 rfl ?_
    refine g_aload 106 rfl C X216 at_104 rfl rfl ?_
    have hq240 : 0 ≤ v1.toInt ∧ v1.toInt ≤ 4294967295 := by
      have fr241 := rng64 v1
      have fr242 := rng32 p4
      have fo243 := c_i2l p4
      have fc244 : (4294967295 : Int64).toInt = 4294967295 := rfl
      have fo245 : (((p4).toInt64) &&& (4294967295 : Int64)).toInt = ((p4).toInt64).toInt % 4294967296 := c_maskL ((p4).toInt64) (4294967295 : Int64) 32 (by decide) (by decide)
      have fe246 : (((p4).toInt64) &&& (4294967295 : Int64)).toInt = v1.toInt := congrArg Int64.toInt hv1
      omega
    refine w_callN 109 rfl C X216 S63 (by rw [e217]; exact Ks236) (argsL := [(.ref o4), (.long v1), (.ref o139)]) rfl rfl (hw _ (List.mem_of_getElem? (i := 56) rfl)) (hw _ (List.mem_of_getElem? (i := 57) rfl)) (hw _ (List.mem_of_getElem? (i := 58) rfl)) (hw _ (List.mem_of_getElem? (i := 55) rfl)) e217 (rm8_1 l Z a0 hw [] o214 o4 v1 o139 (own_fill p0 p1 p2 p3) h213 n0 Zs235 A219 F237 F238 F239 gn225 hq240 F232 F231 (own_fillfit p0 p1 p2 p3) ne221) (lenOf pd_11076584 rfl) (by decide) (by decide) (by decide) (by decide) rfl (W := 1) (Nat.le_of_eq rfl) (by decide) at_106 rfl fun r247 T248 Lc249 k252 C X250 S253 hk254 hQ251 => ?_
    obtain ⟨o255, rfl, Nq256, Kc257, F258, F259, F260, F261, sz262, B263, A264⟩ := hQ251
    have ne265 : o139 ≠ o255 := Nat.ne_of_lt (Nat.lt_of_lt_of_le F231.lt sz262)
    have ne266 : o174 ≠ o255 := Nat.ne_of_lt (Nat.lt_of_lt_of_le F233.lt sz262)
    have ne267 : o18 ≠ o255 := Nat.ne_of_lt (Nat.lt_of_lt_of_le F227.lt sz262)
    have ne268 : o214 ≠ o255 := Nat.ne_of_lt (Nat.lt_of_lt_of_le A219.lt sz262)
    have ne269 : o4 ≠ o255 := Nat.ne_of_lt (Nat.lt_of_lt_of_le F226.lt sz262)
    have gn270 : n0 ≤ o255 := Nat.le_trans Zs235 sz262
    have F271 := F226.keep Kc257
    have F272 := F227.keep Kc257
    have F273 := F228.keep Kc257 (ninS ne223 nin0)
    have F274 := F229.keep Kc257 (ninS ne223 nin0)
    have F275 := F230.keep Kc257 (ninS ne224 nin0)
    have F276 := F231.keep Kc257
    have F277 := F232.keep Kc257 (ninS ne221 nin0)
    have F278 := F233.keep Kc257
    have F279 := F234.keep Kc257 (ninS ne222 nin0)
    have F280 := A219.keep Kc257
    have Zs281 := Nat.le_trans Zs235 Kc257.1
    have Ks282 := Nat.le_trans Ks236 Kc257.1
    have N283 := Fr.app N211 Nq256
    show Goes _ _ _ _ _ _ 109 _ [(.ref o214)]
    refine g_astore 111 rfl C X250 #[.val (.long p0), .second, .val (.long p1), .second, .val (.long p2), .second, .val (.long p3), .second, .val (.int p4), .val (.int p5), .val (.long v1), .second, .val (.ref o4), .val (.ref o139), .val (.ref o174), .val (.ref o214), .unset, .unset, .unset] at_109 rfl rfl ?_
    refine g_iload 113 rfl C X250 at_111 rfl ?_
    refine g_iconst 114 rfl C X250 (1 : Int32) at_113 rfl ?_
    refine g_iushr 115 rfl C X250 at_114 ?_
    refine g_bipush 117 rfl C X250 (31 : Int32) at_115 rfl ?_
    refine g_iand 118 rfl C X250 at_117 ?_
    obtain ⟨v284, hv284⟩ : ∃ z : Int32, ((((p5).toUInt32 >>> ((1 : Int32) &&& 31).toUInt32).toInt32) &&& (31 : Int32)) = z := ⟨_, rfl⟩
    refine g_istore 120 rfl C X250 v284 hv284 #[.val (.long p0), .second, .val (.long p1), .second, .val (.long p2), .second, .val (.long p3), .second, .val (.int p4), .val (.int p5), .val (.long v1), .second, .val (.ref o4), .val (.ref o139), .val (.ref o174), .val (.ref o214), .val (.int v284), .unset, .unset] at_118 rfl ?_
    refine g_aload 122 rfl C X250 at_120 rfl rfl ?_
    refine g_iload 124 rfl C X250 at_122 rfl ?_
    refine g_aload 126 rfl C X250 at_124 rfl rfl ?_
    refine g_iload 128 rfl C X250 at_126 rfl ?_
    have hq286 : 0 ≤ v284.toInt ∧ v284.toInt ≤ 31 := by
      have fr287 := rng32 v284
      have fr288 := rng32 p5
      have fc289 : (1 : Int32).toInt = 1 := rfl
      have fo290 : ((((p5).toUInt32 >>> ((1 : Int32) &&& 31).toUInt32).toInt32)).toInt = (p5.toInt % 4294967296) / 2 := c_iushr p5 (1 : Int32) 1 (by decide) (by decide)
      have fc291 : (31 : Int32).toInt = 31 := rfl
      have fo292 : ((((p5).toUInt32 >>> ((1 : Int32) &&& 31).toUInt32).toInt32) &&& (31 : Int32)).toInt = (((p5).toUInt32 >>> ((1 : Int32) &&& 31).toUInt32).toInt32).toInt % 32 := c_mask (((p5).toUInt32 >>> ((1 : Int32) &&& 31).toUInt32).toInt32) (31 : Int32) 5 (by decide) (by decide)
      have fe293 : ((((p5).toUInt32 >>> ((1 : Int32) &&& 31).toUInt32).toInt32) &&& (31 : Int32)).toInt = v284.toInt := congrArg Int32.toInt hv284
      omega
    obtain ⟨n285, hn285⟩ : ∃ n : Nat, v284.toInt = n := ⟨v284.toInt.toNat, by omega⟩
    have hn285m : n285 ≤ 31 := by omega
    refine g_baload 129 rfl C X250 rfl F277 (n285) hn285 (by omega) ((own_fill p0 p1 p2 p3) n285) rfl at_128 ?_
    refine g_iconst 130 rfl C X250 (1 : Int32) at_129 rfl ?_
    refine g_iadd 131 rfl C X250 at_130 ?_
    refine g_i2b 132 rfl C X250 at_131 ?_
    obtain ⟨w294, hw294⟩ : ∃ z : Int32, (((((((own_fill p0 p1 p2 p3) n285) + (1 : Int32))).toInt8.toInt32)).toInt8.toInt32) = z := ⟨_, rfl⟩
    refine g_bastore 133 rfl C X250 rfl F277 (n285) hn285 (by omega) w294 hw294 at_132 N283 gn147 fun T295 h296 ls297 X298 e299 W300 B301 N302 => ?_
    have F303 := F271.wr W300
    have F304 := F272.wr W300
    have F305 := F273.other W300 (Or.inl ne145)
    have F306 := F274.other W300 (Or.inl ne145)
    have F307 := F275.other W300 (Or.inl ne146)
    have F308 := F276.wr W300
    have F309 := F278.wr W300
    have F310 := F279.other W300 (Ne.symm ne180)
    have F311 := F258.wr W300
    have F312 := F259.other W300 (Or.inl (Ne.symm ne221))
    have F313 := F260.other W300 (Or.inl (Ne.symm ne221))
    have F314 := F261.other W300 (Or.inl (Ne.symm ne221))
    have F315 := B263.other W300 (Ne.symm ne265)
    have F316 := A264.wr W300
    have Zs317 := Nat.le_trans Zs281 (Nat.le_of_eq W300.size.symm)
    have Ks318 := Nat.le_trans hk254 (Nat.le_of_eq W300.size.symm)
    refine g_aload 135 rfl C X298 at_133 rfl rfl ?_
    refine g_callV 138 rfl C X298 (argsL := []) (hw _ (List.mem_of_getElem? (i := 69) rfl)) (hw _ (List.mem_of_getElem? (i := 70) rfl)) (hw _ (List.mem_of_getElem? (i := 72) rfl)) (hw _ (List.mem_of_getElem? (i := 71) rfl)) (hw _ (List.mem_of_getElem? (i := 73) rfl)) (hw _ (List.mem_of_getElem? (i := 55) rfl)) e299 F311 (rm9_1 l Z a0 hw [] o214 o255 (own_fill p0 p1 p2 p3) h296 n0 Zs317 F314 F315 F316 (own_fillfit p0 p1 p2 p3)) (lenOf pd_52138675 rfl) (by decide) (by decide) (by decide) (by decide) rfl (W := 0) (Nat.le_of_eq rfl) (by decide) at_135 rfl fun r319 T320 Lc321 X322 hQ323 => ?_
    obtain ⟨o324, rfl, Nq325, Kc326, sz327, B328⟩ := hQ323
    have ne329 : o139 ≠ o324 := Nat.ne_of_lt (Nat.lt_of_lt_of_le F308.lt sz327)
    have ne330 : o174 ≠ o324 := Nat.ne_of_lt (Nat.lt_of_lt_of_le F309.lt sz327)
    have ne331 : o18 ≠ o324 := Nat.ne_of_lt (Nat.lt_of_lt_of_le F304.lt sz327)
    have ne332 : o214 ≠ o324 := Nat.ne_of_lt (Nat.lt_of_lt_of_le F311.lt sz327)
    have ne333 : o255 ≠ o324 := Nat.ne_of_lt (Nat.lt_of_lt_of_le F315.lt sz327)
    have ne334 : o4 ≠ o324 := Nat.ne_of_lt (Nat.lt_of_lt_of_le F303.lt sz327)
    have gn335 : n0 ≤ o324 := Nat.le_trans Zs317 sz327
    have F336 := F303.keep Kc326
    have F337 := F304.keep Kc326
    have F338 := F305.keep Kc326 nin0
    have F339 := F306.keep Kc326 nin0
    have F340 := F307.keep Kc326 nin0
    have F341 := F308.keep Kc326
    have F342 := B301.keep Kc326 nin0
    have F343 := F309.keep Kc326
    have F344 := F310.keep Kc326 nin0
    have F345 := F311.keep Kc326
    have F346 := F312.keep Kc326 nin0
    have F347 := F313.keep Kc326 nin0
    have F348 := F314.keep Kc326 nin0
    have F349 := F315.keep Kc326 nin0
    have F350 := F316.keep Kc326
    have Zs351 := Nat.le_trans Zs317 Kc326.1
    have Ks352 := Nat.le_trans Ks318 Kc326.1
    have N353 := Fr.app N302 Nq325
    show Goes _ _ _ _ _ _ 138 _ [(.ref o324)]
    refine g_astore 140 rfl C X322 #[.val (.long p0), .second, .val (.long p1), .second, .val (.long p2), .second, .val (.long p3), .second, .val (.int p4), .val (.int p5), .val (.long v1), .second, .val (.ref o4), .val (.ref o139), .val (.ref o174), .val (.ref o214), .val (.int v284), .val (.ref o324), .unset] at_138 rfl rfl ?_
    refine g_aload 142 rfl C X322 at_140 rfl rfl ?_
    refine g_ifnull_f 145 rfl C X322 at_142 ?_
    refine g_aload 147 rfl C X322 at_145 rfl rfl ?_
    refine g_aload 149 rfl C X322 at_147 rfl rfl ?_
    refine g_acmp_eq_f 152 rfl C X322 at_149 (Ne.symm ne329) ?_
    refine g_aload 154 rfl C X322 at_152 rfl rfl ?_
    refine g_len 155 rfl C X322 rfl B328 (32 : Int32) rfl at_154 ?_
    refine g_bipush 157 rfl C X322 (32 : Int32) at_155 rfl ?_
    refine g_icmp_ne_f 160 rfl C X322 at_157 (by decide) ?_
    refine g_aload 162 rfl C X322 at_160 rfl rfl ?_
    refine g_aload 164 rfl C X322 at_162 rfl rfl ?_
    refine g_callS 167 rfl C X322 (argsL := [(.ref o324), (.ref o174)]) (hw _ (List.mem_of_getElem? (i := 96) rfl)) (hw _ (List.mem_of_getElem? (i := 97) rfl)) (hw _ (List.mem_of_getElem? (i := 98) rfl)) (hw _ (List.mem_of_getElem? (i := 76) rfl)) rfl (rm13 l Z a0 hw [] o324 o174 (own_fill p0 p1 p2 p3) (own_fill p0 p1 p2 p3) (T320.heap) n0 Zs351 B328 F344 (fun _ _ => rfl)) (lenOf pd_55344312 rfl) (by decide) (by decide) (by decide) (by decide) rfl (W := 0) (Nat.le_of_eq rfl) (by decide) at_164 rfl fun r354 T355 Lc356 X357 hQ358 => ?_
    obtain ⟨rfl, Nq359, eh360⟩ := hQ358
    have N361 := Fr.app N353 Nq359
    show Goes _ _ _ _ _ _ 167 _ [(.int (1 : Int32))]
    refine g_if_ne_t 172 C X357 at_167 (by decide) (by decide) (by decide) ?_
    refine g_aload 174 rfl C X357 at_172 rfl rfl ?_
    refine g_iload 176 rfl C X357 at_174 rfl ?_
    refine g_aload 178 rfl C X357 at_176 rfl rfl ?_
    refine g_iload 180 rfl C X357 at_178 rfl ?_
    refine g_baload 181 rfl C X357 eh360 B328 (n285) hn285 (by omega) ((own_fill p0 p1 p2 p3) n285) rfl at_180 ?_
    refine g_iconst 182 rfl C X357 (1 : Int32) at_181 rfl ?_
    refine g_iadd 183 rfl C X357 at_182 ?_
    refine g_i2b 184 rfl C X357 at_183 ?_
    refine g_bastore 185 rfl C X357 eh360 B328 (n285) hn285 (by omega) w294 hw294 at_184 N361 gn335 fun T362 h363 ls364 X365 e366 W367 B368 N369 => ?_
    have F370 := F336.wr W367
    have F371 := F337.wr W367
    have F372 := F338.other W367 (Or.inl ne331)
    have F373 := F339.other W367 (Or.inl ne331)
    have F374 := F340.other W367 (Or.inl ne334)
    have F375 := F341.wr W367
    have F376 := F342.other W367 ne329
    have F377 := F343.wr W367
    have F378 := F344.other W367 ne330
    have F379 := F345.wr W367
    have F380 := F346.other W367 (Or.inl ne332)
    have F381 := F347.other W367 (Or.inl ne332)
    have F382 := F348.other W367 (Or.inl ne332)
    have F383 := F349.other W367 ne333
    have F384 := F350.wr W367
    have Zs385 := Nat.le_trans Zs351 (Nat.le_of_eq W367.size.symm)
    have Ks386 := Nat.le_trans Ks352 (Nat.le_of_eq W367.size.symm)
    refine g_aload 187 rfl C X365 at_185 rfl rfl ?_
    refine g_callV 190 rfl C X365 (argsL := []) (hw _ (List.mem_of_getElem? (i := 69) rfl)) (hw _ (List.mem_of_getElem? (i := 70) rfl)) (hw _ (List.mem_of_getElem? (i := 72) rfl)) (hw _ (List.mem_of_getElem? (i := 71) rfl)) (hw _ (List.mem_of_getElem? (i := 73) rfl)) (hw _ (List.mem_of_getElem? (i := 55) rfl)) e366 F379 (rm9_1 l Z a0 hw [] o214 o255 (own_fill p0 p1 p2 p3) h363 n0 Zs385 F382 F383 F384 (own_fillfit p0 p1 p2 p3)) (lenOf pd_52138675 rfl) (by decide) (by decide) (by decide) (by decide) rfl (W := 0) (Nat.le_of_eq rfl) (by decide) at_187 rfl fun r387 T388 Lc389 X390 hQ391 => ?_
    obtain ⟨o392, rfl, Nq393, Kc394, sz395, B396⟩ := hQ391
    have ne397 : o139 ≠ o392 := Nat.ne_of_lt (Nat.lt_of_lt_of_le F375.lt sz395)
    have ne398 : o174 ≠ o392 := Nat.ne_of_lt (Nat.lt_of_lt_of_le F377.lt sz395)
    have ne399 : o18 ≠ o392 := Nat.ne_of_lt (Nat.lt_of_lt_of_le F371.lt sz395)
    have ne400 : o214 ≠ o392 := Nat.ne_of_lt (Nat.lt_of_lt_of_le F379.lt sz395)
    have ne401 : o255 ≠ o392 := Nat.ne_of_lt (Nat.lt_of_lt_of_le F383.lt sz395)
    have ne402 : o324 ≠ o392 := Nat.ne_of_lt (Nat.lt_of_lt_of_le B368.lt sz395)
    have ne403 : o4 ≠ o392 := Nat.ne_of_lt (Nat.lt_of_lt_of_le F370.lt sz395)
    have gn404 : n0 ≤ o392 := Nat.le_trans Zs385 sz395
    have F405 := F370.keep Kc394
    have F406 := F371.keep Kc394
    have F407 := F372.keep Kc394 nin0
    have F408 := F373.keep Kc394 nin0
    have F409 := F374.keep Kc394 nin0
    have F410 := F375.keep Kc394
    have F411 := F376.keep Kc394 nin0
    have F412 := F377.keep Kc394
    have F413 := F378.keep Kc394 nin0
    have F414 := F379.keep Kc394
    have F415 := F380.keep Kc394 nin0
    have F416 := F381.keep Kc394 nin0
    have F417 := F382.keep Kc394 nin0
    have F418 := F383.keep Kc394 nin0
    have F419 := F384.keep Kc394
    have F420 := B368.keep Kc394 nin0
    have Zs421 := Nat.le_trans Zs385 Kc394.1
    have Ks422 := Nat.le_trans Ks386 Kc394.1
    have N423 := Fr.app N369 Nq393
    show Goes _ _ _ _ _ _ 190 _ [(.ref o392)]
    refine g_astore 192 rfl C X390 #[.val (.long p0), .second, .val (.long p1), .second, .val (.long p2), .second, .val (.long p3), .second, .val (.int p4), .val (.int p5), .val (.long v1), .second, .val (.ref o4), .val (.ref o139), .val (.ref o174), .val (.ref o214), .val (.int v284), .val (.ref o324), .val (.ref o392)] at_190 rfl rfl ?_
    refine g_aload 194 rfl C X390 at_192 rfl rfl ?_
    refine g_ifnull_f 197 rfl C X390 at_194 ?_
    refine g_aload 199 rfl C X390 at_197 rfl rfl ?_
    refine g_aload 201 rfl C X390 at_199 rfl rfl ?_
    refine g_acmp_eq_f 204 rfl C X390 at_201 (Ne.symm ne402) ?_
    refine g_aload 206 rfl C X390 at_204 rfl rfl ?_
    refine g_aload 208 rfl C X390 at_206 rfl rfl ?_
    refine g_acmp_eq_f 211 rfl C X390 at_208 (Ne.symm ne397) ?_
    refine g_aload 213 rfl C X390 at_211 rfl rfl ?_
    refine g_len 214 rfl C X390 rfl B396 (32 : Int32) rfl at_213 ?_
    refine g_bipush 216 rfl C X390 (32 : Int32) at_214 rfl ?_
    refine g_icmp_ne_f 219 rfl C X390 at_216 (by decide) ?_
    refine g_aload 221 rfl C X390 at_219 rfl rfl ?_
    refine g_aload 223 rfl C X390 at_221 rfl rfl ?_
    refine g_callS 226 rfl C X390 (argsL := [(.ref o392), (.ref o174)]) (hw _ (List.mem_of_getElem? (i := 96) rfl)) (hw _ (List.mem_of_getElem? (i := 97) rfl)) (hw _ (List.mem_of_getElem? (i := 98) rfl)) (hw _ (List.mem_of_getElem? (i := 76) rfl)) rfl (rm13 l Z a0 hw [] o392 o174 (own_fill p0 p1 p2 p3) (own_fill p0 p1 p2 p3) (T388.heap) n0 Zs421 B396 F413 (fun _ _ => rfl)) (lenOf pd_55344312 rfl) (by decide) (by decide) (by decide) (by decide) rfl (W := 0) (Nat.le_of_eq rfl) (by decide) at_223 rfl fun r424 T425 Lc426 X427 hQ428 => ?_
    obtain ⟨rfl, Nq429, eh430⟩ := hQ428
    have N431 := Fr.app N423 Nq429
    show Goes _ _ _ _ _ _ 226 _ [(.int (1 : Int32))]
    refine g_if_eq_f 229 rfl C X427 at_226 (by decide) ?_
    refine g_iconst 230 rfl C X427 (1 : Int32) at_229 rfl ?_
    refine g_goto 234 C X427 at_230 (by decide) (by decide) ?_
    exact w_retN C X427 S253 (by rw [eh430]; exact Ks422) (z' := (1 : Int32)) rfl (Or.inl rfl) at_234 eh430 (by decide) (by decide) rfl ⟨rfl, N431⟩
set_option maxRecDepth 65536 in
set_option maxHeartbeats 40000000 in
theorem comes_1 {Post : Tables → Env → Array Value → State → Outcome → State → Prop} (hpost : ∀ tb e args s v u, (limb_1_1.after args s (.returned v) u = true ∧ limb_1_2.after args s (.returned v) u = true ∧ True) → ReturnedEndW s (.returned v) u (Jvm.fieldLocs frame_1_writes args s ++ Jvm.arrayLocs frame_1_arrays args s ++ Jvm.staticLocs frame_1_statics s) 32 3776 → Post tb e args s (.returned v) u) :
    ArmFor flags0 classFile x code maxLocals ret World_1 tables_1 room_1 Calls_1 rest_1 Pre_1 Post := by
  intro l hfl _ _ p e ha hc hk s m args below hf hA hF happ hP
  obtain ⟨hcalls, hrest, hpre⟩ := hP
  obtain ⟨-, -, -, hnamed, -, -, -, hat⟩ := (Spec.applies_iff hf).mp happ
  obtain ⟨hg, hn⟩ := and_e (Cond.before_iff.mp (show (Jvm.Cond.and given_1 narrow_1).before args s = true from hpre))
  obtain ⟨g1, g2⟩ := and_e hg
  obtain ⟨g3, g4⟩ := and_e g2
  obtain ⟨g5, g6⟩ := and_e g4
  obtain ⟨g7, g8⟩ := and_e g6
  obtain ⟨g9, g10⟩ := and_e g8
  obtain ⟨g11, g12⟩ := and_e g10
  obtain ⟨w0, w1, w2, w3, w4, w5, rfl⟩ : ∃ w0 w1 w2 w3 w4 w5 : Value, args = #[w0, w1, w2, w3, w4, w5] := by
    have hs : args.size = 6 := by simpa [Cond.value, given_1] using g1
    obtain ⟨L⟩ := args
    match L, hs with
    | [w0, w1, w2, w3, w4, w5], _ => exact ⟨w0, w1, w2, w3, w4, w5, rfl⟩
  have hw := fun d (hd : d ∈ tables_1) => atoms_spec (ws := Jvm.Cond.code x code maxLocals ret :: tables_1) hat d (List.mem_cons_of_mem _ hd)
  obtain ⟨i0, ei0⟩ := isL_v g3
  obtain rfl : w0 = (.long i0) := Option.some.inj ei0
  obtain ⟨i1, ei1⟩ := isL_v g5
  obtain rfl : w1 = (.long i1) := Option.some.inj ei1
  obtain ⟨i2, ei2⟩ := isL_v g7
  obtain rfl : w2 = (.long i2) := Option.some.inj ei2
  obtain ⟨i3, ei3⟩ := isL_v g9
  obtain rfl : w3 = (.long i3) := Option.some.inj ei3
  obtain ⟨i4, ei4⟩ := is_v g11
  obtain rfl : w4 = (.int i4) := Option.some.inj ei4
  obtain ⟨i5, ei5⟩ := is_v g12
  obtain rfl : w5 = (.int i5) := Option.some.inj ei5
  obtain ⟨n, o, h1, h2, h3, _, L, rfl, ⟨rfl, N⟩, hq⟩ := rm0 l s _ hw tables_1 i0 i1 i2 i3 i4 i5 s.heap s.heap.size (Nat.le_refl _) p e ha hc hk s m _ below hf ((Spec.applies_iff_loose hf).mp happ).1 ⟨rfl, State.Warmed39.refl s, rfl⟩ trivial
  refine ⟨n, _, h1, h2, h3, hpost _ _ _ _ _ _ ⟨Cond.after_iff.mpr rfl, Cond.after_iff.mpr (eq_i res_at (Term.int_eval (1)) rfl), trivial⟩ ⟨hq.1, hq.2.1, hq.2.2.1, (hq.2.2.2.sift fun y hy => Or.inr (N y hy)).mono (by decide) (by decide)⟩⟩
theorem main_1_1 : Claimed_1_1 := comes_1 fun _ _ _ _ _ _ h hF => ⟨h.1, hF⟩
theorem main_1_2 : Claimed_1_2 := comes_1 fun _ _ _ _ _ _ h hF => ⟨h.2.1, hF⟩
end Jvm.Pilot.@@N@@
namespace Jvm.Pilot.@@N@@
open Jvm Jvm.ClassFile Sem Op Lib Jvm.Free Jvm.Stand Jvm.Pilot.@@N@@.Jvm.D
/-! MADE BY PROGRAM (witnessworld.py) out of the Statement's table words and the real class files: 19 classes; the members and pool entries that the words name. The judged class is class 1, her method 1. -/
namespace start1
open Jvm.ClassFile
def u (s : String) : CpInfo := .utf8 (stringToUtf16 s)
/-- a pool by its gaps: so many unusable entries, then the entry; so many at the end -/
def gap : Nat → List CpInfo → List CpInfo
  | 0, r => r
  | n + 1, r => .unusable :: gap n r
def poolList (es : List (Nat × CpInfo)) (last : Nat) : List CpInfo := es.foldr (fun e r => gap e.1 (e.2 :: r)) (gap last [])
def pool (es : List (Nat × CpInfo)) (last : Nat) : Array CpInfo := ⟨poolList es last⟩
def fileOf (pool : Array CpInfo) (this : Nat) (attrs : Array Attribute := #[]) (ms : Array MethodInfo := #[]) (fl : Nat := 33) (sup : Nat := 0) (ifs : Array Nat := #[]) (fds : Array FieldInfo := #[]) : ClassFile where
  minorVersion := 0
  majorVersion := 65
  constantPool := pool
  accessFlags := fl
  thisClass := this
  superClass := sup
  interfaces := ifs
  fields := fds
  methods := ms
  attributes := attrs
def plain (name : String) (sup : Option ClassId) : Class where
  name := name
  kind := .ordinary
  loader := none
  accessFlags := 33
  super := sup
  interfaces := #[]
  cf := none
  fields := #[]
  methods := #[]
  instanceTypes := #[]
  staticTypes := #[]
  resolved := #[]
  callSites := []
  init := .initialized
  statics := none
  mirror := none

def pool0 : Array CpInfo := pool [(5, u "<init>"), (0, u "()V"), (1, .class_ 10), (1, u "java/lang/Object"), (85, u "clone"), (0, u "()Ljava/lang/Object;")] 26

def k0c0 : Code := { maxStack := 0, maxLocals := 1, code := object_method_1_code, exceptionTable := #[], attributes := #[] }
def k0m0 : Method := { name := "<init>", desc := "()V", sig := { parameters := [], returnType := none }, accessFlags := 1, code := some k0c0 }
def k0m1 : Method := { name := "clone", desc := "()Ljava/lang/Object;", sig := { parameters := [], returnType := some (.object "java/lang/Object") }, accessFlags := 260, code := none }
/-- java/lang/Object -/
def k0 : Class := { plain "java/lang/Object" none with
  accessFlags := 33
  interfaces := #[]
  cf := some (fileOf pool0 8 #[] #[{ accessFlags := 1, nameIndex := 5, descriptorIndex := 6, attributes := #[] }, { accessFlags := 260, nameIndex := 96, descriptorIndex := 97, attributes := #[] }] 33 0 #[] #[])
  fields := #[]
  methods := #[k0m0, k0m1]
  instanceTypes := #[]
  staticTypes := #[]
  resolved := Array.replicate 124 none
  statics := none }

def pool1 : Array CpInfo := pool [(2, .class_ 4), (1, u "java/lang/Object"), (0, u "<init>"), (0, u "()V"), (0, .long 4294967295), (1, .class_ 10), (0, u "com/example/vaglio/vaglio/filter/Filter"), (0, .class_ 12), (0, u "com/example/vaglio/vaglio/filter/FilterShape"), (0, .methodref 11 14), (0, .nameAndType 5 15), (0, u "(II)V"), (0, .methodref 9 17), (0, .nameAndType 5 18), (0, u "(Lcom/example/vaglio/vaglio/filter/FilterShape;)V"), (0, .class_ 20), (0, u "com/example/vaglio/vaglio/filter/FilterSnapshot"), (0, .methodref 19 22), (0, .nameAndType 5 23), (0, u "(Lcom/example/vaglio/vaglio/filter/Filter;J[B)V"), (0, .methodref 19 25), (0, .nameAndType 26 27), (0, u "maskSeed"), (0, u "()[B"), (0, .methodref 29 30), (0, .class_ 31), (0, .nameAndType 32 33), (0, u "com/example/vaglio/vaglio/filter/FilterSnapshotMaskSeedPinLaw"), (0, u "fill"), (0, u "([BJJJJ)V"), (0, .methodref 29 35), (0, .nameAndType 36 37), (0, u "same"), (0, u "([B[B)Z"), (0, .methodref 29 39), (0, .nameAndType 40 41), (0, u "put8"), (0, u "([BIJ)V"), (0, .methodref 29 43), (0, .nameAndType 44 45), (0, u "eq8"), (0, u "([B[BI)Z"), (2, u "law"), (0, u "(JJJJII)Z")] 5

def k1m0 : Method := { name := "<init>", desc := "()V", sig := { parameters := [], returnType := none }, accessFlags := 1, code := none }
def k1c1 : Code := { maxStack := 9, maxLocals := 19, code := code, exceptionTable := #[], attributes := #[] }
def k1m1 : Method := { name := "law", desc := "(JJJJII)Z", sig := { parameters := [.long, .long, .long, .long, .int, .int], returnType := some .boolean }, accessFlags := 9, code := some k1c1 }
def k1c2 : Code := { maxStack := 4, maxLocals := 9, code := method_3_code, exceptionTable := #[], attributes := #[] }
def k1m2 : Method := { name := "fill", desc := "([BJJJJ)V", sig := { parameters := [(.array .byte), .long, .long, .long, .long], returnType := none }, accessFlags := 10, code := some k1c2 }
def k1c3 : Code := { maxStack := 5, maxLocals := 4, code := method_4_code, exceptionTable := #[], attributes := #[] }
def k1m3 : Method := { name := "put8", desc := "([BIJ)V", sig := { parameters := [(.array .byte), .int, .long], returnType := none }, accessFlags := 10, code := some k1c3 }
def k1c4 : Code := { maxStack := 3, maxLocals := 2, code := method_5_code, exceptionTable := #[], attributes := #[] }
def k1m4 : Method := { name := "same", desc := "([B[B)Z", sig := { parameters := [(.array .byte), (.array .byte)], returnType := some .boolean }, accessFlags := 10, code := some k1c4 }
def k1c5 : Code := { maxStack := 4, maxLocals := 3, code := method_6_code, exceptionTable := #[], attributes := #[] }
def k1m5 : Method := { name := "eq8", desc := "([B[BI)Z", sig := { parameters := [(.array .byte), (.array .byte), .int], returnType := some .boolean }, accessFlags := 10, code := some k1c5 }
/-- com/example/vaglio/vaglio/filter/FilterSnapshotMaskSeedPinLaw -/
def k1 : Class := { plain "com/example/vaglio/vaglio/filter/FilterSnapshotMaskSeedPinLaw" (some 0) with
  accessFlags := 49
  interfaces := #[]
  cf := some (fileOf pool1 29 #[] #[{ accessFlags := 1, nameIndex := 5, descriptorIndex := 6, attributes := #[] }, { accessFlags := 9, nameIndex := 48, descriptorIndex := 49, attributes := #[] }, { accessFlags := 10, nameIndex := 32, descriptorIndex := 33, attributes := #[] }, { accessFlags := 10, nameIndex := 40, descriptorIndex := 41, attributes := #[] }, { accessFlags := 10, nameIndex := 36, descriptorIndex := 37, attributes := #[] }, { accessFlags := 10, nameIndex := 44, descriptorIndex := 45, attributes := #[] }] 49 2 #[] #[])
  fields := #[]
  methods := #[k1m0, k1m1, k1m2, k1m3, k1m4, k1m5]
  instanceTypes := #[]
  staticTypes := #[]
  resolved := Array.replicate 55 none
  statics := none }

def pool2 : Array CpInfo := pool [(1, .class_ 2), (0, u "com/example/vaglio/vaglio/filter/FilterShape"), (2, .string 6), (0, u "shape"), (0, .methodref 8 9), (0, .class_ 10), (0, .nameAndType 11 12), (0, u "java/util/Objects"), (0, u "requireNonNull"), (0, u "(Ljava/lang/Object;Ljava/lang/String;)Ljava/lang/Object;"), (0, .methodref 1 14), (0, .nameAndType 15 16), (0, u "rows"), (0, u "()I"), (0, .class_ 18), (0, u "com/example/vaglio/vaglio/filter/Filter"), (0, .methodref 17 20), (0, .nameAndType 21 22), (0, u "<init>"), (0, u "(Lcom/example/vaglio/vaglio/filter/FilterShape;[B)V"), (0, .methodref 24 25), (0, .class_ 26), (0, .nameAndType 21 27), (0, u "java/lang/Object"), (0, u "()V"), (9, .fieldref 17 38), (0, .nameAndType 6 39), (0, u "Lcom/example/vaglio/vaglio/filter/FilterShape;"), (0, .fieldref 17 41), (0, .nameAndType 42 43), (0, u "bits"), (0, u "[B"), (52, u "ROW_BYTES"), (0, u "I"), (2, u "(Lcom/example/vaglio/vaglio/filter/FilterShape;)V")] 40

def k2c0 : Code := { maxStack := 4, maxLocals := 2, code := prog_15_method_1_code, exceptionTable := #[], attributes := #[] }
def k2m0 : Method := { name := "<init>", desc := "(Lcom/example/vaglio/vaglio/filter/FilterShape;)V", sig := { parameters := [(.object "com/example/vaglio/vaglio/filter/FilterShape")], returnType := none }, accessFlags := 1, code := some k2c0 }
def k2c1 : Code := { maxStack := 5, maxLocals := 3, code := prog_15_method_2_code, exceptionTable := #[], attributes := #[] }
def k2m1 : Method := { name := "<init>", desc := "(Lcom/example/vaglio/vaglio/filter/FilterShape;[B)V", sig := { parameters := [(.object "com/example/vaglio/vaglio/filter/FilterShape"), (.array .byte)], returnType := none }, accessFlags := 0, code := some k2c1 }
/-- com/example/vaglio/vaglio/filter/Filter -/
def k2 : Class := { plain "com/example/vaglio/vaglio/filter/Filter" (some 0) with
  accessFlags := 49
  interfaces := #[]
  cf := some (fileOf pool2 17 #[] #[{ accessFlags := 1, nameIndex := 21, descriptorIndex := 100, attributes := #[] }, { accessFlags := 0, nameIndex := 21, descriptorIndex := 22, attributes := #[] }] 49 24 #[] #[{ accessFlags := 25, nameIndex := 96, descriptorIndex := 97, attributes := #[] }, { accessFlags := 18, nameIndex := 6, descriptorIndex := 39, attributes := #[] }, { accessFlags := 18, nameIndex := 42, descriptorIndex := 43, attributes := #[] }])
  fields := #[{ name := "ROW_BYTES", type := .int, accessFlags := 25, slot := 0, constantValue := 0 }, { name := "shape", type := (.object "com/example/vaglio/vaglio/filter/FilterShape"), accessFlags := 18, slot := 0, constantValue := 0 }, { name := "bits", type := (.array .byte), accessFlags := 18, slot := 1, constantValue := 0 }]
  methods := #[k2m0, k2m1]
  instanceTypes := #[(.object "com/example/vaglio/vaglio/filter/FilterShape"), (.array .byte)]
  staticTypes := #[.int]
  resolved := Array.replicate 141 none
  statics := none }

def pool3 : Array CpInfo := pool [(1, .methodref 2 3), (0, .class_ 4), (0, .nameAndType 5 6), (0, u "java/lang/Object"), (0, u "<init>"), (0, u "()V"), (0, .class_ 8), (0, u "java/lang/Record")] 13

def k3c0 : Code := { maxStack := 1, maxLocals := 1, code := jdk_30_method_1_code, exceptionTable := #[], attributes := #[] }
def k3m0 : Method := { name := "<init>", desc := "()V", sig := { parameters := [], returnType := none }, accessFlags := 4, code := some k3c0 }
/-- java/lang/Record -/
def k3 : Class := { plain "java/lang/Record" (some 0) with
  accessFlags := 1057
  interfaces := #[]
  cf := some (fileOf pool3 7 #[] #[{ accessFlags := 4, nameIndex := 5, descriptorIndex := 6, attributes := #[] }] 1057 2 #[] #[])
  fields := #[]
  methods := #[k3m0]
  instanceTypes := #[]
  staticTypes := #[]
  resolved := Array.replicate 22 none
  statics := none }

def pool4 : Array CpInfo := pool [(1, .class_ 2), (0, u "com/example/vaglio/vaglio/filter/FilterShape"), (0, .methodref 4 5), (0, .class_ 6), (0, .nameAndType 7 8), (0, u "java/lang/Record"), (0, u "<init>"), (0, u "()V"), (9, .integer 4194304), (1, .fieldref 1 21), (0, .nameAndType 22 23), (0, u "hashes"), (0, u "I"), (0, .fieldref 1 25), (0, .nameAndType 26 23), (0, u "rows"), (13, u "(II)V"), (56, u "ROW_BITS"), (2, u "MAX_HASHES"), (1, u "MAX_ROWS"), (0, u "MAX_BITS"), (0, u "J"), (0, u "MAX_KEY_BYTES"), (15, u "()I")] 40

def k4c0 : Code := { maxStack := 3, maxLocals := 3, code := prog_19_method_1_code, exceptionTable := #[], attributes := #[] }
def k4m0 : Method := { name := "<init>", desc := "(II)V", sig := { parameters := [.int, .int], returnType := none }, accessFlags := 1, code := some k4c0 }
def k4c1 : Code := { maxStack := 1, maxLocals := 1, code := prog_19_method_12_code, exceptionTable := #[], attributes := #[] }
def k4m1 : Method := { name := "rows", desc := "()I", sig := { parameters := [], returnType := some .int }, accessFlags := 1, code := some k4c1 }
/-- com/example/vaglio/vaglio/filter/FilterShape -/
def k4 : Class := { plain "com/example/vaglio/vaglio/filter/FilterShape" (some 3) with
  accessFlags := 49
  interfaces := #[]
  cf := some (fileOf pool4 1 #[] #[{ accessFlags := 1, nameIndex := 7, descriptorIndex := 40, attributes := #[] }, { accessFlags := 1, nameIndex := 26, descriptorIndex := 121, attributes := #[] }] 49 4 #[] #[{ accessFlags := 18, nameIndex := 22, descriptorIndex := 23, attributes := #[] }, { accessFlags := 18, nameIndex := 26, descriptorIndex := 23, attributes := #[] }, { accessFlags := 25, nameIndex := 97, descriptorIndex := 23, attributes := #[] }, { accessFlags := 25, nameIndex := 100, descriptorIndex := 23, attributes := #[] }, { accessFlags := 25, nameIndex := 102, descriptorIndex := 23, attributes := #[] }, { accessFlags := 25, nameIndex := 103, descriptorIndex := 104, attributes := #[] }, { accessFlags := 25, nameIndex := 105, descriptorIndex := 23, attributes := #[] }])
  fields := #[{ name := "hashes", type := .int, accessFlags := 18, slot := 0, constantValue := 0 }, { name := "rows", type := .int, accessFlags := 18, slot := 1, constantValue := 0 }, { name := "ROW_BITS", type := .int, accessFlags := 25, slot := 0, constantValue := 0 }, { name := "MAX_HASHES", type := .int, accessFlags := 25, slot := 1, constantValue := 0 }, { name := "MAX_ROWS", type := .int, accessFlags := 25, slot := 2, constantValue := 0 }, { name := "MAX_BITS", type := .long, accessFlags := 25, slot := 3, constantValue := 0 }, { name := "MAX_KEY_BYTES", type := .int, accessFlags := 25, slot := 4, constantValue := 0 }]
  methods := #[k4m0, k4m1]
  instanceTypes := #[.int, .int]
  staticTypes := #[.int, .int, .int, .long, .int]
  resolved := Array.replicate 162 none
  statics := none }

def pool5 : Array CpInfo := pool [(1, .class_ 2), (0, u "java/io/Serializable"), (0, .class_ 4), (0, u "java/lang/Object")] 2

/-- java/io/Serializable -/
def k5 : Class := { plain "java/io/Serializable" (some 0) with
  accessFlags := 1537
  interfaces := #[]
  cf := some (fileOf pool5 1 #[] #[] 1537 3 #[] #[])
  fields := #[]
  methods := #[]
  instanceTypes := #[]
  staticTypes := #[]
  resolved := Array.replicate 7 none
  statics := none }

def pool6 : Array CpInfo := pool [(1, .class_ 2), (0, u "java/lang/Comparable"), (0, .class_ 4), (0, u "java/lang/Object")] 7

/-- java/lang/Comparable -/
def k6 : Class := { plain "java/lang/Comparable" (some 0) with
  accessFlags := 1537
  interfaces := #[]
  cf := some (fileOf pool6 1 #[] #[] 1537 3 #[] #[])
  fields := #[]
  methods := #[]
  instanceTypes := #[]
  staticTypes := #[]
  resolved := Array.replicate 12 none
  statics := none }

def pool7 : Array CpInfo := pool [(2, .class_ 4), (1, u "java/lang/CharSequence"), (42, .class_ 48), (0, u "java/lang/CharSequence$1CodePointIterator"), (10, .class_ 60), (0, u "java/lang/CharSequence$1CharIterator"), (5, .class_ 67), (0, u "java/lang/Object")] 63

/-- java/lang/CharSequence -/
def k7 : Class := { plain "java/lang/CharSequence" (some 0) with
  accessFlags := 1537
  interfaces := #[]
  cf := some (fileOf pool7 2 #[.nestMembers #[47, 59]] #[] 1537 66 #[] #[])
  fields := #[]
  methods := #[]
  instanceTypes := #[]
  staticTypes := #[]
  resolved := Array.replicate 131 none
  statics := none }

def pool8 : Array CpInfo := pool [(1, .class_ 2), (0, u "java/lang/constant/Constable"), (0, .class_ 4), (0, u "java/lang/Object")] 6

/-- java/lang/constant/Constable -/
def k8 : Class := { plain "java/lang/constant/Constable" (some 0) with
  accessFlags := 1537
  interfaces := #[]
  cf := some (fileOf pool8 1 #[] #[] 1537 3 #[] #[])
  fields := #[]
  methods := #[]
  instanceTypes := #[]
  staticTypes := #[]
  resolved := Array.replicate 11 none
  statics := none }

def pool9 : Array CpInfo := pool [(1, .class_ 2), (0, u "java/lang/constant/ConstantDesc"), (0, .class_ 4), (0, u "java/lang/Object")] 32

/-- java/lang/constant/ConstantDesc -/
def k9 : Class := { plain "java/lang/constant/ConstantDesc" (some 0) with
  accessFlags := 1537
  interfaces := #[]
  cf := some (fileOf pool9 1 #[] #[] 1537 3 #[] #[])
  fields := #[]
  methods := #[]
  instanceTypes := #[]
  staticTypes := #[]
  resolved := Array.replicate 37 none
  statics := none }

def pool10 : Array CpInfo := pool [(2, .class_ 4), (1, u "java/lang/Object"), (0, u "<init>"), (0, u "()V"), (3, .class_ 12), (1, u "java/lang/String"), (0, u "value"), (0, u "[B"), (2, u "coder"), (0, u "B"), (2, u "hash"), (0, u "I"), (2, u "hashIsZero"), (0, u "Z"), (13, u "COMPACT_STRINGS"), (534, .class_ 576), (0, u "java/lang/CharSequence"), (22, u "CASE_INSENSITIVE_ORDER"), (0, u "Ljava/util/Comparator;"), (500, u "serialPersistentFields"), (0, u "[Ljava/io/ObjectStreamField;"), (0, .class_ 1104), (0, u "java/lang/String$CaseInsensitiveComparator"), (1, .class_ 1107), (0, u "java/io/Serializable"), (0, .class_ 1109), (0, u "java/lang/Comparable"), (0, .class_ 1111), (0, u "java/lang/constant/Constable"), (0, .class_ 1113), (0, u "java/lang/constant/ConstantDesc"), (2, u "serialVersionUID"), (0, u "J"), (3, u "REPL"), (0, u "C"), (2, u "LATIN1"), (1, u "UTF16")] 323

def k10m0 : Method := { name := "<init>", desc := "()V", sig := { parameters := [], returnType := none }, accessFlags := 1, code := none }
/-- java/lang/String -/
def k10 : Class := { plain "java/lang/String" (some 0) with
  accessFlags := 49
  interfaces := #[5, 6, 7, 8, 9]
  cf := some (fileOf pool10 10 #[.nestMembers #[1103]] #[{ accessFlags := 1, nameIndex := 5, descriptorIndex := 6, attributes := #[] }] 49 2 #[1106, 1108, 575, 1110, 1112] #[{ accessFlags := 18, nameIndex := 13, descriptorIndex := 14, attributes := #[] }, { accessFlags := 18, nameIndex := 17, descriptorIndex := 18, attributes := #[] }, { accessFlags := 2, nameIndex := 21, descriptorIndex := 22, attributes := #[] }, { accessFlags := 2, nameIndex := 25, descriptorIndex := 26, attributes := #[] }, { accessFlags := 26, nameIndex := 1116, descriptorIndex := 1117, attributes := #[] }, { accessFlags := 24, nameIndex := 40, descriptorIndex := 26, attributes := #[] }, { accessFlags := 26, nameIndex := 1101, descriptorIndex := 1102, attributes := #[] }, { accessFlags := 26, nameIndex := 1121, descriptorIndex := 1122, attributes := #[] }, { accessFlags := 25, nameIndex := 599, descriptorIndex := 600, attributes := #[] }, { accessFlags := 24, nameIndex := 1125, descriptorIndex := 18, attributes := #[] }, { accessFlags := 24, nameIndex := 1127, descriptorIndex := 18, attributes := #[] }])
  fields := #[{ name := "value", type := (.array .byte), accessFlags := 18, slot := 0, constantValue := 0 }, { name := "coder", type := .byte, accessFlags := 18, slot := 1, constantValue := 0 }, { name := "hash", type := .int, accessFlags := 2, slot := 2, constantValue := 0 }, { name := "hashIsZero", type := .boolean, accessFlags := 2, slot := 3, constantValue := 0 }, { name := "serialVersionUID", type := .long, accessFlags := 26, slot := 0, constantValue := 0 }, { name := "COMPACT_STRINGS", type := .boolean, accessFlags := 24, slot := 1, constantValue := 0 }, { name := "serialPersistentFields", type := (.array (.object "java/io/ObjectStreamField")), accessFlags := 26, slot := 2, constantValue := 0 }, { name := "REPL", type := .char, accessFlags := 26, slot := 3, constantValue := 0 }, { name := "CASE_INSENSITIVE_ORDER", type := (.object "java/util/Comparator"), accessFlags := 25, slot := 4, constantValue := 0 }, { name := "LATIN1", type := .byte, accessFlags := 24, slot := 5, constantValue := 0 }, { name := "UTF16", type := .byte, accessFlags := 24, slot := 6, constantValue := 0 }]
  methods := #[k10m0]
  instanceTypes := #[(.array .byte), .byte, .int, .boolean]
  staticTypes := #[.long, .boolean, (.array (.object "java/io/ObjectStreamField")), .char, (.object "java/util/Comparator"), .byte, .byte]
  resolved := Array.replicate 1451 none
  statics := none }

def pool11 : Array CpInfo := pool [(2, .class_ 4), (1, u "java/lang/Object"), (0, u "<init>"), (0, u "()V"), (35, .class_ 44), (1, u "java/util/Objects"), (0, u "requireNonNull"), (48, u "(Ljava/lang/Object;Ljava/lang/String;)Ljava/lang/Object;")] 89

def k11m0 : Method := { name := "<init>", desc := "()V", sig := { parameters := [], returnType := none }, accessFlags := 2, code := none }
def k11c1 : Code := { maxStack := 3, maxLocals := 2, code := jdk_31_method_11_code, exceptionTable := #[], attributes := #[] }
def k11m1 : Method := { name := "requireNonNull", desc := "(Ljava/lang/Object;Ljava/lang/String;)Ljava/lang/Object;", sig := { parameters := [(.object "java/lang/Object"), (.object "java/lang/String")], returnType := some (.object "java/lang/Object") }, accessFlags := 9, code := some k11c1 }
/-- java/util/Objects -/
def k11 : Class := { plain "java/util/Objects" (some 0) with
  accessFlags := 49
  interfaces := #[]
  cf := some (fileOf pool11 42 #[] #[{ accessFlags := 2, nameIndex := 5, descriptorIndex := 6, attributes := #[] }, { accessFlags := 9, nameIndex := 45, descriptorIndex := 94, attributes := #[] }] 49 2 #[] #[])
  fields := #[]
  methods := #[k11m0, k11m1]
  instanceTypes := #[]
  staticTypes := #[]
  resolved := Array.replicate 184 none
  statics := none }

def pool12 : Array CpInfo := pool [(1, .class_ 2), (0, u "com/example/vaglio/vaglio/filter/FilterMask"), (0, .methodref 4 5), (0, .class_ 6), (0, .nameAndType 7 8), (0, u "java/lang/Record"), (0, u "<init>"), (0, u "()V"), (0, .string 10), (0, u "filter"), (0, .methodref 12 13), (0, .class_ 14), (0, .nameAndType 15 16), (0, u "java/util/Objects"), (0, u "requireNonNull"), (0, u "(Ljava/lang/Object;Ljava/lang/String;)Ljava/lang/Object;"), (0, .class_ 18), (0, u "com/example/vaglio/vaglio/filter/FilterSnapshot"), (0, .long 4294967295), (10, .methodref 1 31), (0, .nameAndType 32 33), (0, u "checkSeed"), (0, u "([B)[B"), (0, .methodref 35 36), (0, .class_ 37), (0, .nameAndType 38 39), (0, u "[B"), (0, u "clone"), (0, u "()Ljava/lang/Object;"), (0, .fieldref 17 41), (0, .nameAndType 10 42), (0, u "Lcom/example/vaglio/vaglio/filter/Filter;"), (0, .fieldref 17 44), (0, .nameAndType 45 46), (0, u "height"), (0, u "J"), (0, .fieldref 17 48), (0, .nameAndType 49 37), (0, u "maskSeed"), (2, u "(Lcom/example/vaglio/vaglio/filter/Filter;J[B)V"), (35, u "()[B"), (21, u "HEADER_BYTES"), (0, u "I"), (8, u "MASKED_TAG_BYTES"), (2, u "TAG_BYTES"), (184, u "TAG"), (0, u "Ljava/lang/String;"), (1, u "MASKED_TAG"), (0, u "MASK_SEED_BYTES"), (1, u "MAX_HEIGHT"), (0, u "CHUNK_BYTES"), (0, u "PIECE_BYTES"), (0, u "CUT_SHORT")] 50

def k12c0 : Code := { maxStack := 4, maxLocals := 5, code := prog_20_method_1_code, exceptionTable := #[], attributes := #[] }
def k12m0 : Method := { name := "<init>", desc := "(Lcom/example/vaglio/vaglio/filter/Filter;J[B)V", sig := { parameters := [(.object "com/example/vaglio/vaglio/filter/Filter"), .long, (.array .byte)], returnType := none }, accessFlags := 1, code := some k12c0 }
def k12c1 : Code := { maxStack := 1, maxLocals := 1, code := prog_20_method_3_code, exceptionTable := #[], attributes := #[] }
def k12m1 : Method := { name := "maskSeed", desc := "()[B", sig := { parameters := [], returnType := some (.array .byte) }, accessFlags := 1, code := some k12c1 }
/-- com/example/vaglio/vaglio/filter/FilterSnapshot -/
def k12 : Class := { plain "com/example/vaglio/vaglio/filter/FilterSnapshot" (some 3) with
  accessFlags := 49
  interfaces := #[]
  cf := some (fileOf pool12 17 #[] #[{ accessFlags := 1, nameIndex := 7, descriptorIndex := 52, attributes := #[] }, { accessFlags := 1, nameIndex := 49, descriptorIndex := 88, attributes := #[] }] 49 4 #[] #[{ accessFlags := 18, nameIndex := 10, descriptorIndex := 42, attributes := #[] }, { accessFlags := 18, nameIndex := 45, descriptorIndex := 46, attributes := #[] }, { accessFlags := 18, nameIndex := 49, descriptorIndex := 37, attributes := #[] }, { accessFlags := 25, nameIndex := 308, descriptorIndex := 309, attributes := #[] }, { accessFlags := 25, nameIndex := 311, descriptorIndex := 309, attributes := #[] }, { accessFlags := 25, nameIndex := 312, descriptorIndex := 111, attributes := #[] }, { accessFlags := 25, nameIndex := 314, descriptorIndex := 46, attributes := #[] }, { accessFlags := 26, nameIndex := 123, descriptorIndex := 37, attributes := #[] }, { accessFlags := 26, nameIndex := 120, descriptorIndex := 37, attributes := #[] }, { accessFlags := 26, nameIndex := 110, descriptorIndex := 111, attributes := #[] }, { accessFlags := 26, nameIndex := 315, descriptorIndex := 111, attributes := #[] }, { accessFlags := 26, nameIndex := 316, descriptorIndex := 111, attributes := #[] }, { accessFlags := 26, nameIndex := 317, descriptorIndex := 309, attributes := #[] }])
  fields := #[{ name := "filter", type := (.object "com/example/vaglio/vaglio/filter/Filter"), accessFlags := 18, slot := 0, constantValue := 0 }, { name := "height", type := .long, accessFlags := 18, slot := 1, constantValue := 0 }, { name := "maskSeed", type := (.array .byte), accessFlags := 18, slot := 2, constantValue := 0 }, { name := "TAG", type := (.object "java/lang/String"), accessFlags := 25, slot := 0, constantValue := 0 }, { name := "MASKED_TAG", type := (.object "java/lang/String"), accessFlags := 25, slot := 1, constantValue := 0 }, { name := "MASK_SEED_BYTES", type := .int, accessFlags := 25, slot := 2, constantValue := 0 }, { name := "MAX_HEIGHT", type := .long, accessFlags := 25, slot := 3, constantValue := 0 }, { name := "TAG_BYTES", type := (.array .byte), accessFlags := 26, slot := 4, constantValue := 0 }, { name := "MASKED_TAG_BYTES", type := (.array .byte), accessFlags := 26, slot := 5, constantValue := 0 }, { name := "HEADER_BYTES", type := .int, accessFlags := 26, slot := 6, constantValue := 0 }, { name := "CHUNK_BYTES", type := .int, accessFlags := 26, slot := 7, constantValue := 0 }, { name := "PIECE_BYTES", type := .int, accessFlags := 26, slot := 8, constantValue := 0 }, { name := "CUT_SHORT", type := (.object "java/lang/String"), accessFlags := 26, slot := 9, constantValue := 0 }]
  methods := #[k12m0, k12m1]
  instanceTypes := #[(.object "com/example/vaglio/vaglio/filter/Filter"), .long, (.array .byte)]
  staticTypes := #[(.object "java/lang/String"), (.object "java/lang/String"), .int, .long, (.array .byte), (.array .byte), .int, .int, .int, (.object "java/lang/String")]
  resolved := Array.replicate 368 none
  statics := none }

def pool13 : Array CpInfo := pool [(7, .class_ 8), (0, u "com/example/vaglio/vaglio/filter/FilterMask"), (1, .class_ 12), (1, u "java/lang/Object"), (4, u "checkSeed"), (0, u "([B)[B"), (8, u "bits"), (0, u "[B"), (39, .string 69), (0, u "seed"), (0, .methodref 71 72), (0, .class_ 73), (0, .nameAndType 74 75), (0, u "java/util/Objects"), (0, u "requireNonNull"), (0, u "(Ljava/lang/Object;Ljava/lang/String;)Ljava/lang/Object;"), (27, u "WORDS"), (0, u "Ljava/lang/invoke/VarHandle;"), (19, .class_ 125), (0, u "com/example/vaglio/vaglio/filter/FilterMask$1"), (37, u "SEED_BYTES"), (0, u "I"), (2, u "BLOCK_ROWS"), (1, u "WORD_BITS"), (1, u "WORDS_PER_ROW")] 31

def k13c0 : Code := { maxStack := 3, maxLocals := 1, code := prog_17_method_2_code, exceptionTable := #[], attributes := #[] }
def k13m0 : Method := { name := "checkSeed", desc := "([B)[B", sig := { parameters := [(.array .byte)], returnType := some (.array .byte) }, accessFlags := 8, code := some k13c0 }
/-- com/example/vaglio/vaglio/filter/FilterMask -/
def k13 : Class := { plain "com/example/vaglio/vaglio/filter/FilterMask" (some 0) with
  accessFlags := 48
  interfaces := #[]
  cf := some (fileOf pool13 7 #[.nestMembers #[124]] #[{ accessFlags := 8, nameIndex := 17, descriptorIndex := 18, attributes := #[] }] 48 10 #[] #[{ accessFlags := 24, nameIndex := 163, descriptorIndex := 164, attributes := #[] }, { accessFlags := 26, nameIndex := 167, descriptorIndex := 164, attributes := #[] }, { accessFlags := 26, nameIndex := 169, descriptorIndex := 164, attributes := #[] }, { accessFlags := 26, nameIndex := 171, descriptorIndex := 164, attributes := #[] }, { accessFlags := 26, nameIndex := 103, descriptorIndex := 104, attributes := #[] }, { accessFlags := 18, nameIndex := 27, descriptorIndex := 28, attributes := #[] }])
  fields := #[{ name := "SEED_BYTES", type := .int, accessFlags := 24, slot := 0, constantValue := 0 }, { name := "BLOCK_ROWS", type := .int, accessFlags := 26, slot := 1, constantValue := 0 }, { name := "WORD_BITS", type := .int, accessFlags := 26, slot := 2, constantValue := 0 }, { name := "WORDS_PER_ROW", type := .int, accessFlags := 26, slot := 3, constantValue := 0 }, { name := "WORDS", type := (.object "java/lang/invoke/VarHandle"), accessFlags := 26, slot := 4, constantValue := 0 }, { name := "bits", type := (.array .byte), accessFlags := 18, slot := 0, constantValue := 0 }]
  methods := #[k13m0]
  instanceTypes := #[(.array .byte)]
  staticTypes := #[.int, .int, .int, .int, (.object "java/lang/invoke/VarHandle")]
  resolved := Array.replicate 203 none
  statics := none }

def pool14 : Array CpInfo := pool [(1, .class_ 2), (0, u "java/lang/Cloneable"), (0, .class_ 4), (0, u "java/lang/Object")] 2

/-- java/lang/Cloneable -/
def k14 : Class := { plain "java/lang/Cloneable" (some 0) with
  accessFlags := 1537
  interfaces := #[]
  cf := some (fileOf pool14 1 #[] #[] 1537 3 #[] #[])
  fields := #[]
  methods := #[]
  instanceTypes := #[]
  staticTypes := #[]
  resolved := Array.replicate 7 none
  statics := none }

/-- the primitive byte -/
def k15 : Class := { plain "byte" none with kind := .primitive 'B', accessFlags := 0x411 }
/-- [B -/
def k16 : Class := { plain "[B" (some 0) with kind := .array 15 .byte, interfaces := #[14, 5], accessFlags := 1041 }

/-- the primitive int -/
def k17 : Class := { plain "int" none with kind := .primitive 'I', accessFlags := 0x411 }
/-- [I -/
def k18 : Class := { plain "[I" (some 0) with kind := .array 17 .int, interfaces := #[14, 5], accessFlags := 1041 }

def heap : Heap := #[]
def classes : Array Class := #[k0, k1, k2, k3, k4, k5, k6, k7, k8, k9, k10, k11, k12, k13, k14, k15, k16, k17, k18]
def interned : List (Array UInt16 × Addr) := []
def slotsUsed : Nat := 0
def theMethod : MethodId := ⟨1, 1⟩
def args0 : Array Value := #[.long 5, .long 7, .long 9, .long 2, .int 3, .int 1]
def aboutOver (below : List Frame) : State where
  vm := { classes := classes, interned := interned.toArray }
  heap := heap
  slotsUsed := slotsUsed
  threads := #[{ frames := .invoking theMethod args0 :: below }]
def below0 : List Frame := [.native { method := ⟨0, 0⟩, args := #[] }]
def about1 : State := aboutOver below0
def p0 : Program := .bare "" "" ""
def e0 : Env := launch0.env 0 0 0
theorem w_frames : about1.frames = Frame.invoking theMethod args0 :: below0 := rfl
set_option maxRecDepth 65536 in
theorem w_args : argsFit about1.vm theMethod args0 = true := by decide +kernel
set_option maxRecDepth 65536 in
theorem w_heap : heapFits about1 = true := by decide +kernel
set_option maxRecDepth 65536 in
theorem w_runnable : about1.curStatus? = some .runnable := by decide +kernel
set_option maxRecDepth 65536 in
theorem w_alone : about1.alone = true := by decide +kernel
set_option maxRecDepth 65536 in
theorem w_named : about1.methodNamed? x = some theMethod := by decide +kernel
set_option maxRecDepth 65536 in
theorem w_hears : about1.hears theMethod below0 = true := by decide +kernel
set_option maxRecDepth 65536 in
theorem w_ripe : about1.ripe theMethod args0 below0 = true := by decide +kernel
theorem w_running : about1.status = .running := rfl
set_option maxRecDepth 65536 in
theorem w_room : about1.hasRoom e0.platform room_1 = true :=
  launch0.hasRoom_least _ room_1 (by decide +kernel) (by decide +kernel) (by decide +kernel) (by decide +kernel) (by decide +kernel) (by decide +kernel)
theorem allAtoms_all (ts : List Jvm.Cond) (a : Array Jvm.Value) (st : Jvm.State) : (allAtoms ts).before a st = ts.all (fun c => c.before a st) := by
  induction ts with
  | nil => rfl
  | cons c t ih =>
    show (Jvm.Cond.and c (allAtoms t)).before a st = _
    rw [Jvm.Cond.before_and, ih, List.all_cons]
def words1 : List Jvm.Cond := Jvm.Cond.code x code maxLocals ret :: tables_1
/-- a 'code' word, met by the world's own term for the bytes: nothing is compared byte by byte -/
theorem code_word {y : MethodName} {bytes : ByteArray} {mx : Nat} {rt : Option FieldType} {a : Array Value} {s : State} {m : MethodId} {meth : Method} {c : Code} (h1 : s.methodNamed? y = some m) (h2 : s.vm.method? m = some meth) (h3 : meth.code = some c) (h4 : c.code = bytes)
    (h5 : (c.maxLocals == mx && c.exceptionTable.isEmpty && decide (c.maxStack ≤ mostOperands) && decide (meth.sig.returnType = rt) && !meth.locks && decide (parseMethodDescriptor y.desc = some meth.sig)) = true) : (Jvm.Cond.code y bytes mx rt).before a s = true := by
  simp only [Bool.and_eq_true, beq_iff_eq, Bool.not_eq_true', decide_eq_true_eq] at h5
  obtain ⟨⟨⟨⟨⟨g1, g2⟩, g3⟩, g4⟩, g5⟩, g6⟩ := h5
  simp [Cond.before, Cond.holds, Cond.value, h1, h2, h3, h4, g1, g2, g3, g4, g5, g6]
def isCode : Jvm.Cond → Bool
  | .code _ _ _ _ => true
  | _ => false
theorem all_split {L : List Jvm.Cond} {P : Jvm.Cond → Bool} (h1 : L.all (fun c => isCode c || P c) = true) (h2 : ∀ c ∈ L.filter isCode, P c = true) : L.all P = true := by
  refine List.all_eq_true.mpr fun c hc => ?_
  have h := List.all_eq_true.mp h1 c hc
  rcases Bool.eq_false_or_eq_true (isCode c) with hi | hi
  · exact h2 c (List.mem_filter.mpr ⟨hc, hi⟩)
  · simpa [hi] using h
set_option maxRecDepth 65536 in
theorem w_c0 : (Jvm.Cond.code x code maxLocals ret).before args0 about1 = true := code_word (m := ⟨1, 1⟩) (meth := k1m1) (c := k1c1) (by decide +kernel) rfl rfl rfl (by decide +kernel)
set_option maxRecDepth 65536 in
theorem w_c1 : (Jvm.Cond.code ({ cls := "com/example/vaglio/vaglio/filter/FilterShape", name := "<init>", desc := "(II)V" } : Jvm.MethodName) prog_19_method_1_code (3 : Nat) (Option.none : Option Jvm.ClassFile.FieldType)).before args0 about1 = true := code_word (m := ⟨4, 0⟩) (meth := k4m0) (c := k4c0) (by decide +kernel) rfl rfl rfl (by decide +kernel)
set_option maxRecDepth 65536 in
theorem w_c2 : (Jvm.Cond.code ({ cls := "java/lang/Record", name := "<init>", desc := "()V" } : Jvm.MethodName) jdk_30_method_1_code (1 : Nat) (Option.none : Option Jvm.ClassFile.FieldType)).before args0 about1 = true := code_word (m := ⟨3, 0⟩) (meth := k3m0) (c := k3c0) (by decide +kernel) rfl rfl rfl (by decide +kernel)
set_option maxRecDepth 65536 in
theorem w_c3 : (Jvm.Cond.code ({ cls := "java/lang/Object", name := "<init>", desc := "()V" } : Jvm.MethodName) object_method_1_code (1 : Nat) (Option.none : Option Jvm.ClassFile.FieldType)).before args0 about1 = true := code_word (m := ⟨0, 0⟩) (meth := k0m0) (c := k0c0) (by decide +kernel) rfl rfl rfl (by decide +kernel)
set_option maxRecDepth 65536 in
theorem w_c4 : (Jvm.Cond.code ({ cls := "com/example/vaglio/vaglio/filter/Filter", name := "<init>", desc := "(Lcom/example/vaglio/vaglio/filter/FilterShape;)V" } : Jvm.MethodName) prog_15_method_1_code (2 : Nat) (Option.none : Option Jvm.ClassFile.FieldType)).before args0 about1 = true := code_word (m := ⟨2, 0⟩) (meth := k2m0) (c := k2c0) (by decide +kernel) rfl rfl rfl (by decide +kernel)
set_option maxRecDepth 65536 in
theorem w_c5 : (Jvm.Cond.code ({ cls := "java/util/Objects", name := "requireNonNull", desc := "(Ljava/lang/Object;Ljava/lang/String;)Ljava/lang/Object;" } : Jvm.MethodName) jdk_31_method_11_code (2 : Nat) (Option.some (Jvm.ClassFile.FieldType.object "java/lang/Object"))).before args0 about1 = true := code_word (m := ⟨11, 1⟩) (meth := k11m1) (c := k11c1) (by decide +kernel) rfl rfl rfl (by decide +kernel)
set_option maxRecDepth 65536 in
theorem w_c6 : (Jvm.Cond.code ({ cls := "com/example/vaglio/vaglio/filter/FilterShape", name := "rows", desc := "()I" } : Jvm.MethodName) prog_19_method_12_code (1 : Nat) (Option.some Jvm.ClassFile.FieldType.int)).before args0 about1 = true := code_word (m := ⟨4, 1⟩) (meth := k4m1) (c := k4c1) (by decide +kernel) rfl rfl rfl (by decide +kernel)
set_option maxRecDepth 65536 in
theorem w_c7 : (Jvm.Cond.code ({ cls := "com/example/vaglio/vaglio/filter/Filter", name := "<init>", desc := "(Lcom/example/vaglio/vaglio/filter/FilterShape;[B)V" } : Jvm.MethodName) prog_15_method_2_code (3 : Nat) (Option.none : Option Jvm.ClassFile.FieldType)).before args0 about1 = true := code_word (m := ⟨2, 1⟩) (meth := k2m1) (c := k2c1) (by decide +kernel) rfl rfl rfl (by decide +kernel)
set_option maxRecDepth 65536 in
theorem w_c8 : (Jvm.Cond.code ({ cls := "com/example/vaglio/vaglio/filter/FilterSnapshot", name := "<init>", desc := "(Lcom/example/vaglio/vaglio/filter/Filter;J[B)V" } : Jvm.MethodName) prog_20_method_1_code (5 : Nat) (Option.none : Option Jvm.ClassFile.FieldType)).before args0 about1 = true := code_word (m := ⟨12, 0⟩) (meth := k12m0) (c := k12c0) (by decide +kernel) rfl rfl rfl (by decide +kernel)
set_option maxRecDepth 65536 in
theorem w_c9 : (Jvm.Cond.code ({ cls := "com/example/vaglio/vaglio/filter/FilterSnapshot", name := "maskSeed", desc := "()[B" } : Jvm.MethodName) prog_20_method_3_code (1 : Nat) (Option.some (Jvm.ClassFile.FieldType.array Jvm.ClassFile.FieldType.byte))).before args0 about1 = true := code_word (m := ⟨12, 1⟩) (meth := k12m1) (c := k12c1) (by decide +kernel) rfl rfl rfl (by decide +kernel)
set_option maxRecDepth 65536 in
theorem w_c10 : (Jvm.Cond.code ({ cls := "com/example/vaglio/vaglio/filter/FilterSnapshotMaskSeedPinLaw", name := "fill", desc := "([BJJJJ)V" } : Jvm.MethodName) method_3_code (9 : Nat) (Option.none : Option Jvm.ClassFile.FieldType)).before args0 about1 = true := code_word (m := ⟨1, 2⟩) (meth := k1m2) (c := k1c2) (by decide +kernel) rfl rfl rfl (by decide +kernel)
set_option maxRecDepth 65536 in
theorem w_c11 : (Jvm.Cond.code ({ cls := "com/example/vaglio/vaglio/filter/FilterSnapshotMaskSeedPinLaw", name := "put8", desc := "([BIJ)V" } : Jvm.MethodName) method_4_code (4 : Nat) (Option.none : Option Jvm.ClassFile.FieldType)).before args0 about1 = true := code_word (m := ⟨1, 3⟩) (meth := k1m3) (c := k1c3) (by decide +kernel) rfl rfl rfl (by decide +kernel)
set_option maxRecDepth 65536 in
theorem w_c12 : (Jvm.Cond.code ({ cls := "com/example/vaglio/vaglio/filter/FilterMask", name := "checkSeed", desc := "([B)[B" } : Jvm.MethodName) prog_17_method_2_code (1 : Nat) (Option.some (Jvm.ClassFile.FieldType.array Jvm.ClassFile.FieldType.byte))).before args0 about1 = true := code_word (m := ⟨13, 0⟩) (meth := k13m0) (c := k13c0) (by decide +kernel) rfl rfl rfl (by decide +kernel)
set_option maxRecDepth 65536 in
theorem w_c13 : (Jvm.Cond.code ({ cls := "com/example/vaglio/vaglio/filter/FilterSnapshotMaskSeedPinLaw", name := "same", desc := "([B[B)Z" } : Jvm.MethodName) method_5_code (2 : Nat) (Option.some Jvm.ClassFile.FieldType.boolean)).before args0 about1 = true := code_word (m := ⟨1, 4⟩) (meth := k1m4) (c := k1c4) (by decide +kernel) rfl rfl rfl (by decide +kernel)
set_option maxRecDepth 65536 in
theorem w_c14 : (Jvm.Cond.code ({ cls := "com/example/vaglio/vaglio/filter/FilterSnapshotMaskSeedPinLaw", name := "eq8", desc := "([B[BI)Z" } : Jvm.MethodName) method_6_code (3 : Nat) (Option.some Jvm.ClassFile.FieldType.boolean)).before args0 about1 = true := code_word (m := ⟨1, 5⟩) (meth := k1m5) (c := k1c5) (by decide +kernel) rfl rfl rfl (by decide +kernel)
def codes1 : List Jvm.Cond := [Jvm.Cond.code x code maxLocals ret, Jvm.Cond.code ({ cls := "com/example/vaglio/vaglio/filter/FilterShape", name := "<init>", desc := "(II)V" } : Jvm.MethodName) prog_19_method_1_code (3 : Nat) (Option.none : Option Jvm.ClassFile.FieldType), Jvm.Cond.code ({ cls := "java/lang/Record", name := "<init>", desc := "()V" } : Jvm.MethodName) jdk_30_method_1_code (1 : Nat) (Option.none : Option Jvm.ClassFile.FieldType), Jvm.Cond.code ({ cls := "java/lang/Object", name := "<init>", desc := "()V" } : Jvm.MethodName) object_method_1_code (1 : Nat) (Option.none : Option Jvm.ClassFile.FieldType), Jvm.Cond.code ({ cls := "com/example/vaglio/vaglio/filter/Filter", name := "<init>", desc := "(Lcom/example/vaglio/vaglio/filter/FilterShape;)V" } : Jvm.MethodName) prog_15_method_1_code (2 : Nat) (Option.none : Option Jvm.ClassFile.FieldType), Jvm.Cond.code ({ cls := "java/util/Objects", name := "requireNonNull", desc := "(Ljava/lang/Object;Ljava/lang/String;)Ljava/lang/Object;" } : Jvm.MethodName) jdk_31_method_11_code (2 : Nat) (Option.some (Jvm.ClassFile.FieldType.object "java/lang/Object")), Jvm.Cond.code ({ cls := "com/example/vaglio/vaglio/filter/FilterShape", name := "rows", desc := "()I" } : Jvm.MethodName) prog_19_method_12_code (1 : Nat) (Option.some Jvm.ClassFile.FieldType.int), Jvm.Cond.code ({ cls := "com/example/vaglio/vaglio/filter/Filter", name := "<init>", desc := "(Lcom/example/vaglio/vaglio/filter/FilterShape;[B)V" } : Jvm.MethodName) prog_15_method_2_code (3 : Nat) (Option.none : Option Jvm.ClassFile.FieldType), Jvm.Cond.code ({ cls := "com/example/vaglio/vaglio/filter/FilterSnapshot", name := "<init>", desc := "(Lcom/example/vaglio/vaglio/filter/Filter;J[B)V" } : Jvm.MethodName) prog_20_method_1_code (5 : Nat) (Option.none : Option Jvm.ClassFile.FieldType), Jvm.Cond.code ({ cls := "com/example/vaglio/vaglio/filter/FilterSnapshot", name := "maskSeed", desc := "()[B" } : Jvm.MethodName) prog_20_method_3_code (1 : Nat) (Option.some (Jvm.ClassFile.FieldType.array Jvm.ClassFile.FieldType.byte)), Jvm.Cond.code ({ cls := "com/example/vaglio/vaglio/filter/FilterSnapshotMaskSeedPinLaw", name := "fill", desc := "([BJJJJ)V" } : Jvm.MethodName) method_3_code (9 : Nat) (Option.none : Option Jvm.ClassFile.FieldType), Jvm.Cond.code ({ cls := "com/example/vaglio/vaglio/filter/FilterSnapshotMaskSeedPinLaw", name := "put8", desc := "([BIJ)V" } : Jvm.MethodName) method_4_code (4 : Nat) (Option.none : Option Jvm.ClassFile.FieldType), Jvm.Cond.code ({ cls := "com/example/vaglio/vaglio/filter/FilterMask", name := "checkSeed", desc := "([B)[B" } : Jvm.MethodName) prog_17_method_2_code (1 : Nat) (Option.some (Jvm.ClassFile.FieldType.array Jvm.ClassFile.FieldType.byte)), Jvm.Cond.code ({ cls := "com/example/vaglio/vaglio/filter/FilterSnapshotMaskSeedPinLaw", name := "same", desc := "([B[B)Z" } : Jvm.MethodName) method_5_code (2 : Nat) (Option.some Jvm.ClassFile.FieldType.boolean), Jvm.Cond.code ({ cls := "com/example/vaglio/vaglio/filter/FilterSnapshotMaskSeedPinLaw", name := "eq8", desc := "([B[BI)Z" } : Jvm.MethodName) method_6_code (3 : Nat) (Option.some Jvm.ClassFile.FieldType.boolean)]
set_option maxRecDepth 65536 in
theorem codes_eq : words1.filter isCode = codes1 := rfl
theorem w_codes : ∀ c ∈ words1.filter isCode, c.before args0 about1 = true := by
  rw [codes_eq]
  intro c hc
  simp only [codes1, List.mem_cons, List.not_mem_nil, or_false] at hc
  rcases hc with rfl | rfl | rfl | rfl | rfl | rfl | rfl | rfl | rfl | rfl | rfl | rfl | rfl | rfl | rfl
  · exact w_c0
  · exact w_c1
  · exact w_c2
  · exact w_c3
  · exact w_c4
  · exact w_c5
  · exact w_c6
  · exact w_c7
  · exact w_c8
  · exact w_c9
  · exact w_c10
  · exact w_c11
  · exact w_c12
  · exact w_c13
  · exact w_c14
set_option maxRecDepth 65536 in
theorem w_t1 : (words1.take 24).all (fun c => isCode c || c.before args0 about1) = true := by decide +kernel
set_option maxRecDepth 65536 in
theorem w_t2 : ((words1.drop 24).take 24).all (fun c => isCode c || c.before args0 about1) = true := by decide +kernel
set_option maxRecDepth 65536 in
theorem w_t3 : (((words1.drop 24).drop 24).take 24).all (fun c => isCode c || c.before args0 about1) = true := by decide +kernel
set_option maxRecDepth 65536 in
theorem w_t4 : ((((words1.drop 24).drop 24).drop 24).take 24).all (fun c => isCode c || c.before args0 about1) = true := by decide +kernel
set_option maxRecDepth 65536 in
theorem w_t5 : ((((words1.drop 24).drop 24).drop 24).drop 24).all (fun c => isCode c || c.before args0 about1) = true := by decide +kernel
theorem w_tables : (allAtoms (Jvm.Cond.code x code maxLocals ret :: tables_1)).before args0 about1 = true := by
  rw [allAtoms_all]
  show words1.all (fun c => c.before args0 about1) = true
  refine all_split ?_ w_codes
  rw [← List.take_append_drop 24 words1, List.all_append, w_t1, ← List.take_append_drop 24 (words1.drop 24), List.all_append, w_t2, ← List.take_append_drop 24 ((words1.drop 24).drop 24), List.all_append, w_t3, ← List.take_append_drop 24 (((words1.drop 24).drop 24).drop 24), List.all_append, w_t4, w_t5]
  rfl
set_option maxRecDepth 65536 in
theorem w_case : (Jvm.Cond.and given_1 narrow_1).before args0 about1 = true := by decide +kernel
theorem w_applies : (headSpec (Jvm.Cond.code x code maxLocals ret :: tables_1) room_1).applies x e0.platform about1 = true :=
  (Spec.applies_iff w_frames).mpr ⟨w_running, w_runnable, w_alone, w_named, w_hears, w_ripe, w_room, w_tables⟩
theorem atStart : AtStart classFile x code maxLocals ret World_1 tables_1 room_1 Calls_1 rest_1 Pre_1 launch0 p0 e0 about1 theMethod args0 below0 :=
  ⟨lists_1, trivial, launch0.admits_env _ _ _, launch0.least_env, fairChoices_fair.cas, fairChoices_fair.clock, w_frames, w_args, w_heap, w_applies, trivial, trivial, w_case⟩
end start1
theorem witness_1 : WitnessClaimed_1 := ⟨start1.p0, start1.e0, start1.about1, start1.theMethod, start1.args0, start1.below0, start1.atStart⟩
end Jvm.Pilot.@@N@@
