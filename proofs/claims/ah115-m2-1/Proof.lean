import JvmDerived
import JvmDerived.Pilot.@@N@@Statement
import JvmDerived.Pilot.@@N@@Code
set_option linter.unusedVariables false
set_option linter.unusedSimpArgs false
namespace Jvm.Pilot.@@N@@
open Jvm Jvm.ClassFile Sem Op Lib Jvm.Free Jvm.Stand Jvm.LawKit Jvm.RoadKit Bundle Jvm.Pilot.@@N@@.Jvm.D
section Own
set_option maxHeartbeats 4000000
variable {p : Program} {l : Launch} {e : Env} {R : Room} {s : State} {m : MethodId} {args : Array Value} {below : List Frame} {meth : Method} {c : Code} {T : State} {locs : List Loc} {cells slots : Nat} {Z : State} {a0 : Array Value} {h : Heap} {own nm : String} {bytes : ByteArray} {ml : Nat} {rt : Option FieldType} {Q : Option Value → Heap → List Loc → Prop} {CC SS : Nat} {E : Outcome → State → Prop} {pc : Nat} {Ls : Array Slot} {St : List Value}
def Ctx (p : Program) (s : State) (m : MethodId) (meth : Method) (c : Code) (Z : State) (own nm : String) (bytes : ByteArray) (ml : Nat) (rt : Option FieldType) : Prop :=
  p.tables.exec = Jvm.exec ∧ Z.Warmed39 s.vm ∧ c.code = bytes ∧ c.maxLocals = ml ∧ s.vm.findClass own = some m.cls ∧ meth.locks = false ∧ meth.sig.returnType = rt ∧ meth.name = nm
theorem Ctx.c_x (C : Ctx p s m meth c Z own nm bytes ml rt) : p.tables.exec = Jvm.exec := C.1
theorem Ctx.c_z (C : Ctx p s m meth c Z own nm bytes ml rt) : Z.Warmed39 s.vm := C.2.1
theorem Ctx.c_by (C : Ctx p s m meth c Z own nm bytes ml rt) : c.code = bytes := C.2.2.1
theorem Ctx.c_ml (C : Ctx p s m meth c Z own nm bytes ml rt) : c.maxLocals = ml := C.2.2.2.1
theorem Ctx.c_own (C : Ctx p s m meth c Z own nm bytes ml rt) : s.vm.findClass own = some m.cls := C.2.2.2.2.1
theorem Ctx.c_lk (C : Ctx p s m meth c Z own nm bytes ml rt) : meth.locks = false := C.2.2.2.2.2.1
theorem Ctx.c_rt (C : Ctx p s m meth c Z own nm bytes ml rt) : meth.sig.returnType = rt := C.2.2.2.2.2.2.1
theorem Ctx.c_nm (C : Ctx p s m meth c Z own nm bytes ml rt) : meth.name = nm := C.2.2.2.2.2.2.2
def EndN (s : State) (Q : Option Value → Heap → List Loc → Prop) (CC SS : Nat) (o : Outcome) (t : State) : Prop := ∃ v L, o = .returned v ∧ Q v t.heap L ∧ FrameEnd s o t L CC SS
def Goes (p : Program) (e : Env) (below : List Frame) (E : Outcome → State → Prop) (T : State) (m : MethodId) (pc : Nat) (Ls : Array Slot) (St : List Value) : Prop :=
  ∃ s₂ o, Steps p.tables e below (T.setTop (mkF m pc Ls St)) s₂ ∧ s₂.status = .running ∧ Ended s₂ below o ∧ E o s₂
theorem Goes.back {T' : State} {q : Nat} {Ls' : Array Slot} {St' : List Value} (k : Goes p e below E T' m q Ls' St') (f : ∀ t, Steps p.tables e below (T'.setTop (mkF m q Ls' St')) t → Steps p.tables e below (T.setTop (mkF m pc Ls St)) t) : Goes p e below E T m pc Ls St := by
  obtain ⟨s2, o, h1, h2⟩ := k
  exact ⟨s2, o, f _ h1, h2⟩
theorem Goes.enter {g : JFrame} (hg : g = mkF m 0 Ls []) (k : Goes p e below (EndN s Q CC SS) T m 0 Ls []) : ∃ s₂ o, Steps p.tables e below (T.setTop g) s₂ ∧ s₂.status = .running ∧ Ended s₂ below o ∧ ∃ v L, o = .returned v ∧ Q v s₂.heap L ∧ FrameEnd s o s₂ L CC SS := by
  subst hg
  exact k
theorem Ctx.of {x : MethodName} {S : Spec} {s₁ : State} (Bd : BodyLoose p l x S bytes ml rt e s m args below meth c s₁) (hml : c.maxLocals = ml) (hZ : Z.Warmed39 s.vm) : Ctx p s m meth c Z x.cls x.name bytes ml rt :=
  ⟨Bd.exec, hZ, Bd.bytes, hml, findClass_of_methodNamed Bd.named, Bd.notSynchronized, Bd.returns, (name_of_methodNamed Bd.named Bd.method).1⟩
theorem g_iadd (q : Nat) (hq : pc + 1 = q) (C : Ctx p s m meth c Z own nm bytes ml rt) (X : Stand p l e R s m args below meth c T locs cells slots) {x y : Int32} (hd : decode bytes pc = .ok (.iadd, 1)) (k : Goes p e below E T m q Ls (.int (x + y) :: St)) : Goes p e below E T m pc Ls (.int y :: .int x :: St) := by
  subst hq
  exact k.back fun t kt => XS.iadd (g := mkF m pc Ls (.int y :: .int x :: St)) X.here C.c_x rfl (hb C.c_by hd) rfl kt
theorem g_isub (q : Nat) (hq : pc + 1 = q) (C : Ctx p s m meth c Z own nm bytes ml rt) (X : Stand p l e R s m args below meth c T locs cells slots) {x y : Int32} (hd : decode bytes pc = .ok (.isub, 1)) (k : Goes p e below E T m q Ls (.int (x - y) :: St)) : Goes p e below E T m pc Ls (.int y :: .int x :: St) := by
  subst hq
  exact k.back fun t kt => XS.isub (g := mkF m pc Ls (.int y :: .int x :: St)) X.here C.c_x rfl (hb C.c_by hd) rfl kt
theorem g_iand (q : Nat) (hq : pc + 1 = q) (C : Ctx p s m meth c Z own nm bytes ml rt) (X : Stand p l e R s m args below meth c T locs cells slots) {x y : Int32} (hd : decode bytes pc = .ok (.iand, 1)) (k : Goes p e below E T m q Ls (.int (x &&& y) :: St)) : Goes p e below E T m pc Ls (.int y :: .int x :: St) := by
  subst hq
  exact k.back fun t kt => XS.iand (g := mkF m pc Ls (.int y :: .int x :: St)) X.here C.c_x rfl (hb C.c_by hd) rfl kt
theorem g_ior (q : Nat) (hq : pc + 1 = q) (C : Ctx p s m meth c Z own nm bytes ml rt) (X : Stand p l e R s m args below meth c T locs cells slots) {x y : Int32} (hd : decode bytes pc = .ok (.ior, 1)) (k : Goes p e below E T m q Ls (.int (x ||| y) :: St)) : Goes p e below E T m pc Ls (.int y :: .int x :: St) := by
  subst hq
  exact k.back fun t kt => XS.ior (g := mkF m pc Ls (.int y :: .int x :: St)) X.here C.c_x rfl (hb C.c_by hd) rfl kt
theorem g_i2b (q : Nat) (hq : pc + 1 = q) (C : Ctx p s m meth c Z own nm bytes ml rt) (X : Stand p l e R s m args below meth c T locs cells slots) {x : Int32} (hd : decode bytes pc = .ok (.i2b, 1)) (k : Goes p e below E T m q Ls (.int (x.toInt8.toInt32) :: St)) : Goes p e below E T m pc Ls (.int x :: St) := by
  subst hq
  exact k.back fun t kt => XS.i2b (g := mkF m pc Ls (.int x :: St)) X.here C.c_x rfl (hb C.c_by hd) rfl kt
theorem g_i2c (q : Nat) (hq : pc + 1 = q) (C : Ctx p s m meth c Z own nm bytes ml rt) (X : Stand p l e R s m args below meth c T locs cells slots) {x : Int32} (hd : decode bytes pc = .ok (.i2c, 1)) (k : Goes p e below E T m q Ls (.int (x.toUInt32.toUInt16.toUInt32.toInt32) :: St)) : Goes p e below E T m pc Ls (.int x :: St) := by
  subst hq
  exact k.back fun t kt => XS.i2c (g := mkF m pc Ls (.int x :: St)) X.here C.c_x rfl (hb C.c_by hd) rfl kt
theorem g_iconst (q : Nat) (hq : pc + 1 = q) (C : Ctx p s m meth c Z own nm bytes ml rt) (X : Stand p l e R s m args below meth c T locs cells slots) {i : Int} (v : Int32) (hd : decode bytes pc = .ok (.iconst i, 1)) (hv : Int32.ofInt i = v) (k : Goes p e below E T m q Ls (.int v :: St)) : Goes p e below E T m pc Ls St := by
  subst hq
  exact k.back fun t kt => XS.iconst (g := mkF m pc Ls St) X.here C.c_x rfl (hb C.c_by hd) (by subst hv; exact kt)
theorem g_bipush (q : Nat) (hq : pc + 2 = q) (C : Ctx p s m meth c Z own nm bytes ml rt) (X : Stand p l e R s m args below meth c T locs cells slots) {i : Int} (v : Int32) (hd : decode bytes pc = .ok (.bipush i, 2)) (hv : (Int8.ofInt i).toInt32 = v) (k : Goes p e below E T m q Ls (.int v :: St)) : Goes p e below E T m pc Ls St := by
  subst hq
  exact k.back fun t kt => XS.bipush (g := mkF m pc Ls St) X.here C.c_x rfl (hb C.c_by hd) (by subst hv; exact kt)
theorem g_sipush (q : Nat) (hq : pc + 3 = q) (C : Ctx p s m meth c Z own nm bytes ml rt) (X : Stand p l e R s m args below meth c T locs cells slots) {i : Int} (v : Int32) (hd : decode bytes pc = .ok (.sipush i, 3)) (hv : (Int16.ofInt i).toInt32 = v) (k : Goes p e below E T m q Ls (.int v :: St)) : Goes p e below E T m pc Ls St := by
  subst hq
  exact k.back fun t kt => XS.sipush (g := mkF m pc Ls St) X.here C.c_x rfl (hb C.c_by hd) (by subst hv; exact kt)
theorem g_iloadN (q : Nat) (hq : pc + 1 = q) (C : Ctx p s m meth c Z own nm bytes ml rt) (X : Stand p l e R s m args below meth c T locs cells slots) {k0 : Fin 4} {v : Int32} (hd : decode bytes pc = .ok (.iload_n k0, 1)) (hl : Ls[k0.val]? = some (.val (.int v))) (k : Goes p e below E T m q Ls (.int v :: St)) : Goes p e below E T m pc Ls St := by
  subst hq
  exact k.back fun t kt => XS.iloadN (g := mkF m pc Ls St) X.here C.c_x rfl (hb C.c_by hd) hl kt
theorem g_iload (q : Nat) (hq : pc + 2 = q) (C : Ctx p s m meth c Z own nm bytes ml rt) (X : Stand p l e R s m args below meth c T locs cells slots) {k0 : Nat} {v : Int32} (hd : decode bytes pc = .ok (.iload k0, 2)) (hl : Ls[k0]? = some (.val (.int v))) (k : Goes p e below E T m q Ls (.int v :: St)) : Goes p e below E T m pc Ls St := by
  subst hq
  exact k.back fun t kt => XS.iload (g := mkF m pc Ls St) X.here C.c_x rfl (hb C.c_by hd) hl kt
theorem g_istoreN (q : Nat) (hq : pc + 1 = q) (C : Ctx p s m meth c Z own nm bytes ml rt) (X : Stand p l e R s m args below meth c T locs cells slots) {k0 : Fin 4} {x : Int32} (v : Int32) (hv : x = v) (Ls' : Array Slot) (hd : decode bytes pc = .ok (.istore_n k0, 1)) (hl : storeLocals Ls k0.val (.int v) = some Ls') (k : Goes p e below E T m q Ls' St) : Goes p e below E T m pc Ls (.int x :: St) := by
  subst hq
  exact k.back fun t kt => XS.istoreN (g := mkF m pc Ls (.int x :: St)) X.here C.c_x rfl (hb C.c_by hd) rfl (by subst hv; exact hl) kt
theorem g_istore (q : Nat) (hq : pc + 2 = q) (C : Ctx p s m meth c Z own nm bytes ml rt) (X : Stand p l e R s m args below meth c T locs cells slots) {k0 : Nat} {x : Int32} (v : Int32) (hv : x = v) (Ls' : Array Slot) (hd : decode bytes pc = .ok (.istore k0, 2)) (hl : storeLocals Ls k0 (.int v) = some Ls') (k : Goes p e below E T m q Ls' St) : Goes p e below E T m pc Ls (.int x :: St) := by
  subst hq
  exact k.back fun t kt => XS.istore (g := mkF m pc Ls (.int x :: St)) X.here C.c_x rfl (hb C.c_by hd) rfl (by subst hv; exact hl) kt
theorem g_goto (q : Nat) (C : Ctx p s m meth c Z own nm bytes ml rt) (X : Stand p l e R s m args below meth c T locs cells slots) {o : Int} (hd : decode bytes pc = .ok (.goto o, 3)) (ho : 0 ≤ (pc : Int) + o) (hp : ((pc : Int) + o).toNat = q) (k : Goes p e below E T m q Ls St) : Goes p e below E T m pc Ls St :=
  k.back fun t kt => XS.goto (g := mkF m pc Ls St) X.here C.c_x rfl (pc0 := pc) (pc' := q) rfl (hb C.c_by hd) ho hp kt
theorem own_z0 : (0 : Int32).toInt = 0 := rfl
theorem g_icmp_lt_t (q : Nat) (C : Ctx p s m meth c Z own nm bytes ml rt) (X : Stand p l e R s m args below meth c T locs cells slots) {o : Int} {x y : Int32} (hd : decode bytes pc = .ok (.if_icmp .lt o, 3)) (ho : 0 ≤ (pc : Int) + o) (hp : ((pc : Int) + o).toNat = q) (h : x.toInt < y.toInt) (k : Goes p e below E T m q Ls St) : Goes p e below E T m pc Ls (.int y :: .int x :: St) :=
  k.back fun t kt => XS.icmpYes (g := mkF m pc Ls (.int y :: .int x :: St)) X.here C.c_x rfl (pc0 := pc) (pc' := q) rfl (hb C.c_by hd) rfl (tlt (Int32.lt_iff_toInt_lt.mpr h)).1 ho hp kt
theorem g_icmp_lt_f (q : Nat) (hq : pc + 3 = q) (C : Ctx p s m meth c Z own nm bytes ml rt) (X : Stand p l e R s m args below meth c T locs cells slots) {o : Int} {x y : Int32} (hd : decode bytes pc = .ok (.if_icmp .lt o, 3)) (h : ¬ x.toInt < y.toInt) (k : Goes p e below E T m q Ls St) : Goes p e below E T m pc Ls (.int y :: .int x :: St) := by
  subst hq
  exact k.back fun t kt => XS.icmpNo (g := mkF m pc Ls (.int y :: .int x :: St)) X.here C.c_x rfl (hb C.c_by hd) rfl (flt (fun r => h (Int32.lt_iff_toInt_lt.mp r))).1 kt
theorem g_icmp_gt_t (q : Nat) (C : Ctx p s m meth c Z own nm bytes ml rt) (X : Stand p l e R s m args below meth c T locs cells slots) {o : Int} {x y : Int32} (hd : decode bytes pc = .ok (.if_icmp .gt o, 3)) (ho : 0 ≤ (pc : Int) + o) (hp : ((pc : Int) + o).toNat = q) (h : y.toInt < x.toInt) (k : Goes p e below E T m q Ls St) : Goes p e below E T m pc Ls (.int y :: .int x :: St) :=
  k.back fun t kt => XS.icmpYes (g := mkF m pc Ls (.int y :: .int x :: St)) X.here C.c_x rfl (pc0 := pc) (pc' := q) rfl (hb C.c_by hd) rfl (tlt (Int32.lt_iff_toInt_lt.mpr h)).2.2.1 ho hp kt
theorem g_icmp_gt_f (q : Nat) (hq : pc + 3 = q) (C : Ctx p s m meth c Z own nm bytes ml rt) (X : Stand p l e R s m args below meth c T locs cells slots) {o : Int} {x y : Int32} (hd : decode bytes pc = .ok (.if_icmp .gt o, 3)) (h : ¬ y.toInt < x.toInt) (k : Goes p e below E T m q Ls St) : Goes p e below E T m pc Ls (.int y :: .int x :: St) := by
  subst hq
  exact k.back fun t kt => XS.icmpNo (g := mkF m pc Ls (.int y :: .int x :: St)) X.here C.c_x rfl (hb C.c_by hd) rfl (flt (fun r => h (Int32.lt_iff_toInt_lt.mp r))).2.2.1 kt
theorem g_icmp_eq_t (q : Nat) (C : Ctx p s m meth c Z own nm bytes ml rt) (X : Stand p l e R s m args below meth c T locs cells slots) {o : Int} {x y : Int32} (hd : decode bytes pc = .ok (.if_icmp .eq o, 3)) (ho : 0 ≤ (pc : Int) + o) (hp : ((pc : Int) + o).toNat = q) (h : x.toInt = y.toInt) (k : Goes p e below E T m q Ls St) : Goes p e below E T m pc Ls (.int y :: .int x :: St) :=
  k.back fun t kt => XS.icmpYes (g := mkF m pc Ls (.int y :: .int x :: St)) X.here C.c_x rfl (pc0 := pc) (pc' := q) rfl (hb C.c_by hd) rfl (teq (Int32.toInt_inj.mp h)).1 ho hp kt
theorem g_if_eq_t (q : Nat) (C : Ctx p s m meth c Z own nm bytes ml rt) (X : Stand p l e R s m args below meth c T locs cells slots) {o : Int} {x : Int32} (hd : decode bytes pc = .ok (.ifCond .eq o, 3)) (ho : 0 ≤ (pc : Int) + o) (hp : ((pc : Int) + o).toNat = q) (h : x.toInt = 0) (k : Goes p e below E T m q Ls St) : Goes p e below E T m pc Ls (.int x :: St) :=
  k.back fun t kt => XS.ifYes (g := mkF m pc Ls (.int x :: St)) X.here C.c_x rfl (pc0 := pc) (pc' := q) rfl (hb C.c_by hd) rfl ((if0 _ _).trans (teq (Int32.toInt_inj.mp h)).1) ho hp kt
theorem g_icmp_eq_f (q : Nat) (hq : pc + 3 = q) (C : Ctx p s m meth c Z own nm bytes ml rt) (X : Stand p l e R s m args below meth c T locs cells slots) {o : Int} {x y : Int32} (hd : decode bytes pc = .ok (.if_icmp .eq o, 3)) (h : ¬ x.toInt = y.toInt) (k : Goes p e below E T m q Ls St) : Goes p e below E T m pc Ls (.int y :: .int x :: St) := by
  subst hq
  exact k.back fun t kt => XS.icmpNo (g := mkF m pc Ls (.int y :: .int x :: St)) X.here C.c_x rfl (hb C.c_by hd) rfl (feq (fun r => h (congrArg Int32.toInt r))).1 kt
theorem g_if_eq_f (q : Nat) (hq : pc + 3 = q) (C : Ctx p s m meth c Z own nm bytes ml rt) (X : Stand p l e R s m args below meth c T locs cells slots) {o : Int} {x : Int32} (hd : decode bytes pc = .ok (.ifCond .eq o, 3)) (h : ¬ x.toInt = 0) (k : Goes p e below E T m q Ls St) : Goes p e below E T m pc Ls (.int x :: St) := by
  subst hq
  exact k.back fun t kt => XS.ifNo (g := mkF m pc Ls (.int x :: St)) X.here C.c_x rfl (hb C.c_by hd) rfl ((if0 _ _).trans (feq (fun r => h (congrArg Int32.toInt r))).1) kt
theorem g_icmp_ne_t (q : Nat) (C : Ctx p s m meth c Z own nm bytes ml rt) (X : Stand p l e R s m args below meth c T locs cells slots) {o : Int} {x y : Int32} (hd : decode bytes pc = .ok (.if_icmp .ne o, 3)) (ho : 0 ≤ (pc : Int) + o) (hp : ((pc : Int) + o).toNat = q) (h : ¬ x.toInt = y.toInt) (k : Goes p e below E T m q Ls St) : Goes p e below E T m pc Ls (.int y :: .int x :: St) :=
  k.back fun t kt => XS.icmpYes (g := mkF m pc Ls (.int y :: .int x :: St)) X.here C.c_x rfl (pc0 := pc) (pc' := q) rfl (hb C.c_by hd) rfl (feq (fun r => h (congrArg Int32.toInt r))).2 ho hp kt
theorem g_icmp_ne_f (q : Nat) (hq : pc + 3 = q) (C : Ctx p s m meth c Z own nm bytes ml rt) (X : Stand p l e R s m args below meth c T locs cells slots) {o : Int} {x y : Int32} (hd : decode bytes pc = .ok (.if_icmp .ne o, 3)) (h : x.toInt = y.toInt) (k : Goes p e below E T m q Ls St) : Goes p e below E T m pc Ls (.int y :: .int x :: St) := by
  subst hq
  exact k.back fun t kt => XS.icmpNo (g := mkF m pc Ls (.int y :: .int x :: St)) X.here C.c_x rfl (hb C.c_by hd) rfl (teq (Int32.toInt_inj.mp h)).2 kt
theorem g_ldc (q : Nat) (hq : pc + 2 = q) (C : Ctx p s m meth c Z own nm bytes ml rt) (X : Stand p l e R s m args below meth c T locs cells slots) {i : Nat} {v : Int32} (w : (Cond.constant own i v).before a0 Z = true) (hd : decode bytes pc = .ok (.ldc i, 2)) (k : Goes p e below E T m q Ls (.int v :: St)) : Goes p e below E T m pc Ls St := by
  subst hq
  exact k.back fun t kt => X.ldcInt C.c_x C.c_own (mvT C.c_z w) (g := mkF m pc Ls St) rfl (hb C.c_by hd) _ kt
theorem g_retW (C : Ctx p s m meth c Z own nm bytes ml rt) (X : Stand p l e R s m args below meth c T locs cells slots) {w : Value} {t : FieldType} {i : Instr} (hrt : rt = some t) (hn : narrow t w = w)
    (hi : (i = .ireturn ∧ (t = .int ∨ t = .boolean ∨ t = .byte ∨ t = .char ∨ t = .short) ∧ ∃ z, w = .int z) ∨ (i = .lreturn ∧ t = .long ∧ ∃ z, w = .long z) ∨ (i = .dreturn ∧ t = .double ∧ ∃ z, w = .double z) ∨ (i = .freturn ∧ t = .float ∧ ∃ z, w = .float z) ∨ (i = .areturn ∧ t.isReference = true ∧ w.isRef = true))
    (hd : decode bytes pc = .ok (i, 1)) (eT : T.heap = h) (hc : cells ≤ CC) (hs : slots ≤ SS) (hQ : Q (some w) h locs) : Goes p e below (EndN s Q CC SS) T m pc Ls (w :: St) := by
  obtain ⟨fs, hr, hrun, hended, hW, hsame⟩ := X.leave (v := some w) (fun r => by rw [C.c_rt, hrt] at r; cases r) C.c_lk
  subst eT
  exact ⟨_, _, retOut X C.c_x (C.c_rt.trans hrt) hn hi (hb C.c_by hd) hr, hrun, hended, _, _, rfl, hQ, ⟨_, rfl⟩, hW, hsame.mono hc hs⟩
theorem g_retI (C : Ctx p s m meth c Z own nm bytes ml rt) (X : Stand p l e R s m args below meth c T locs cells slots) {z : Int32} (hrt : rt = some .int) (hd : decode bytes pc = .ok (.ireturn, 1)) (eT : T.heap = h) (hc : cells ≤ CC) (hs : slots ≤ SS) (hQ : Q (some (.int z)) h locs) : Goes p e below (EndN s Q CC SS) T m pc Ls (.int z :: St) :=
  g_retW C X hrt rfl (Or.inl ⟨rfl, Or.inl rfl, z, rfl⟩) hd eT hc hs hQ
theorem g_retN (C : Ctx p s m meth c Z own nm bytes ml rt) (X : Stand p l e R s m args below meth c T locs cells slots) {z z' : Int32} {t : FieldType} (hrt : rt = some t) (ht : t = .boolean ∨ t = .byte ∨ t = .char ∨ t = .short) (hd : decode bytes pc = .ok (.ireturn, 1)) (eT : T.heap = h) (hc : cells ≤ CC) (hs : slots ≤ SS) (hz : nar t z = z') (hQ : Q (some (.int z')) h locs) : Goes p e below (EndN s Q CC SS) T m pc Ls (.int z :: St) := by
  obtain ⟨fs, hr, hrun, hended, hW, hsame⟩ := X.leave (v := some (.int (nar t z))) (fun r => by rw [C.c_rt, hrt] at r; cases r) C.c_lk
  subst eT
  subst hz
  exact ⟨_, _, retN X C.c_x (C.c_rt.trans hrt) ht (hb C.c_by hd) hr, hrun, hended, _, _, rfl, hQ, ⟨_, rfl⟩, hW, hsame.mono hc hs⟩
def Ba (Z : State) (h : Heap) (a : Addr) (ty : FieldType) (n : Nat) (f : Nat → Int32) : Prop := ∃ c : Cell, Arr Z h a c ty ∧ c.slots.size = n ∧ n < 2 ^ 31 ∧ (∀ k, k < n → c.slots[k]? = some (.int (f k)))
def upd (f : Nat → Int32) (j : Nat) (v : Int32) : Nat → Int32 := fun k => bif Nat.beq k j then v else f k
theorem upd_same {f : Nat → Int32} {j k : Nat} {v : Int32} (q : k = j) : upd f j v k = v := by subst q; simp [upd]
theorem upd_ne {f : Nat → Int32} {j k : Nat} {v : Int32} (q : k ≠ j) : upd f j v k = f k := by
  have : Nat.beq k j = false := by
    cases hb : Nat.beq k j with
    | false => rfl
    | true => exact absurd (Nat.eq_of_beq_eq_true hb) q
  show (bif Nat.beq k j then v else f k) = f k
  rw [this]; rfl
theorem upd_eq (f : Nat → Int32) (j k : Nat) (v : Int32) : upd f j v k = if k = j then v else f k := by
  split
  · rename_i q; exact upd_same q
  · rename_i q; exact upd_ne q
theorem Ba.lt {a : Addr} {ty : FieldType} {n : Nat} {f : Nat → Int32} (F : Ba Z h a ty n f) : a < h.size := by obtain ⟨c, A, -⟩ := F; exact A.lt
theorem Ba.ext {h' : Heap} {a : Addr} {ty : FieldType} {n : Nat} {f : Nat → Int32} (F : Ba Z h a ty n f) (E : Ext h h') : Ba Z h' a ty n f := by obtain ⟨c, A, r⟩ := F; exact ⟨c, A.ext E, r⟩
theorem Ba.other {h' : Heap} {a b : Addr} {ty : FieldType} {n sl : Nat} {v : Value} {f : Nat → Int32} (F : Ba Z h a ty n f) (W : Wr h h' b sl v) (q : a ≠ b) : Ba Z h' a ty n f := by obtain ⟨c, A, r⟩ := F; exact ⟨c, A.other W q, r⟩
theorem Ba.keep {h' : Heap} {a : Addr} {ty : FieldType} {n : Nat} {ws : List Addr} {f : Nat → Int32} (F : Ba Z h a ty n f) (K : Keep h h' ws) (q : a ∉ ws) : Ba Z h' a ty n f := by obtain ⟨c, A, r⟩ := F; exact ⟨c, ⟨K.2.1 a c A.1 q, A.2⟩, r⟩
theorem Ba.same {h' : Heap} {a : Addr} {ty : FieldType} {n j : Nat} {v : Int32} {f : Nat → Int32} (F : Ba Z h a ty n f) (W : Wr h h' a j (.int v)) : Ba Z h' a ty n (upd f j v) := by
  obtain ⟨c, A, hs, hn, hf⟩ := F
  refine ⟨_, A.same W, by simp [Cell.setSlot, hs], hn, fun k hk => ?_⟩
  rw [upd_eq]
  by_cases q : k = j
  · subst q; simp [Cell.setSlot, hs, hk]
  · rw [if_neg q]; simp only [Cell.setSlot]; rw [Array.getElem?_setIfInBounds_ne (Ne.symm q)]; exact hf k hk
theorem Ba.cong {a : Addr} {ty : FieldType} {n : Nat} {f f' : Nat → Int32} (F : Ba Z h a ty n f) (q : ∀ k, k < n → f k = f' k) : Ba Z h a ty n f' := by
  obtain ⟨c, A, hs, hn, hf⟩ := F
  exact ⟨c, A, hs, hn, fun k hk => by rw [← q k hk]; exact hf k hk⟩
theorem Ba.new {a : Addr} {cA : ClassId} {ty : FieldType} {z : Int32} {n : Nat} (A : Arr Z h a (newA cA ty z) ty) (hz : z.toInt = n) (hd : defaultValue ty = .int 0) : Ba Z h a ty n (fun _ => 0) := by
  have hr := rng32 z
  have hn : z.toNatClampNeg = n := by simp only [Int32.toNatClampNeg, hz]; rfl
  exact ⟨_, A, by rw [sz_new, hn], by omega, fun k hk => by simp [newA, hn, hk, hd]⟩
theorem own_clamp {j : Int32} {k : Nat} (hj : j.toInt = k) : j.toNatClampNeg = k ∧ ¬ j < 0 := by
  refine ⟨by simp only [Int32.toNatClampNeg, hj]; rfl, fun r => ?_⟩
  have := Int32.lt_iff_toInt_lt.mp r
  rw [hj, own_z0] at this; omega
theorem own_in {j : Int32} {k n : Nat} {c : Cell} (hs : c.slots.size = n) (hj : j.toInt = k) (hk : k < n) : ¬ (j < 0 ∨ c.slots.size ≤ j.toNatClampNeg) := by
  obtain ⟨h1, h2⟩ := own_clamp hj
  rw [h1, hs]; intro r; rcases r with r | r
  · exact h2 r
  · omega
theorem own_lenI {n : Nat} (hn : n < 2 ^ 31) : (n.toInt32).toInt = n := by
  have := len_toInt hn
  exact this
theorem own_narByte {b : Int32} (h0 : -128 ≤ b.toInt) (h1 : b.toInt < 128) : b.toInt8.toInt32 = b := by
  have := c_i2b b
  exact Int32.toInt_inj.mp (by omega)
theorem own_fitB {x : Int32} (h0 : -128 ≤ x.toInt) (h1 : x.toInt < 128) : fits .byte (.int x) = true := by
  have e := own_narByte h0 h1
  rw [← e]; exact fits_nar_byte x

theorem g_callS (q : Nat) (hq : pc + 3 = q) (C : Ctx p s m meth c Z own nm bytes ml rt) (X : Stand p l e R s m args below meth c T locs cells slots) {y : MethodName} {bytes' : ByteArray} {maxL' : Nat} {ret' : Option FieldType} {rm : Room} {Q' : Option Value → Heap → List Loc → Prop} {i W : Nat} {argsL : List Value} (w1 : (Cond.methodLink own i y).before a0 Z = true) (w2 : (Cond.static y).before a0 Z = true) (wc : (Cond.code y bytes' maxL' ret').before a0 Z = true) (wz : (Cond.initialized y.cls).before a0 Z = true) (eT : T.heap = h) (M : MetFree l y (head1 [Cond.code y bytes' maxL' ret'] rm) (fun a U => a = argsL.toArray ∧ Z.Warmed39 U.vm ∧ U.heap = h) (fun _ _ _ _ _ => True) (fun _ U o U' => ∃ v L, o = .returned v ∧ Q' v U'.heap L ∧ FrameEnd U o U' L rm.cells rm.slots)) (hlen : ∀ sig, parseMethodDescriptor y.desc = some sig → argsL.length = sig.parameters.length) (hf : rm.frames + 1 ≤ R.frames) (hl : W + (maxL' + 11) + rm.locals ≤ R.locals) (hc : cells + rm.cells ≤ R.cells) (hsl : slots + rm.slots ≤ R.slots) (hsz : Ls.size = ml) (hW : (St.map fun v => v.category).sum ≤ W) (hy : y.cls ≠ "java/lang/invoke/MethodHandle" ∧ y.cls ≠ "java/lang/invoke/VarHandle") (hd : decode bytes pc = .ok (.invokestatic i, 3)) {St0 : List Value} (hst : St0 = argsL.reverse ++ St)
    (k : ∀ v T' L, Stand p l e R s m args below meth c T' (locs ++ L) (cells + rm.cells) (slots + rm.slots) → Q' v T'.heap L → Goes p e below E T' m q Ls (v.toList ++ St)) : Goes p e below E T m pc Ls St0 := by
  subst hq hst
  obtain ⟨v, _, ⟨T', L', k', n'⟩, -, X', ⟨Lc, hQ', l', y', z'⟩, st⟩ := Jvm.LawKit.callS X C.c_x (y := y) C.c_own (mvT C.c_z w1) (mvT C.c_z w2) (mvT C.c_z wz) (mvT C.c_z wc) hy (backOf (W := W) M C.c_z wc wz hf hl) (g := mkF m pc Ls (argsL.reverse ++ St)) rfl (hsz.trans C.c_ml.symm) (argsL := argsL) (rest := St) hlen rfl (by show 2 * 0 + _ ≤ _; omega) (hb C.c_by hd) (fun _ _ => ⟨rfl, eT, hc, hsl⟩)
  dsimp only [Pt.U, Pt.locs, Pt.cells, Pt.slots] at X' l' y' z' st hQ'
  subst l' y' z'
  exact (k v T' Lc X' hQ').back fun t kt => st t kt
end Own
section OwnArith
theorem own_mulc (x y : Int32) (k : Int) (hk : y.toInt = k) : ((x * y).toInt - x.toInt * k) % 4294967296 = 0 := hk ▸ c_imul x y
theorem own_mulc' (x y : Int32) (k : Int) (hk : x.toInt = k) : ((x * y).toInt - k * y.toInt) % 4294967296 = 0 := hk ▸ c_imul x y
theorem own_lmulc (x y : Int64) (k : Int) (hk : y.toInt = k) : ((x * y).toInt - x.toInt * k) % 18446744073709551616 = 0 := hk ▸ c_lmul x y
theorem own_lmulc' (x y : Int64) (k : Int) (hk : x.toInt = k) : ((x * y).toInt - k * y.toInt) % 18446744073709551616 = 0 := hk ▸ c_lmul x y
theorem own_bvor (x y : BitVec 32) : (x ||| y) + (x &&& y) = x + y := by
  have h1 : x = (x &&& y) + (x &&& ~~~y) := by
    rw [BitVec.add_eq_or_of_and_eq_zero]
    · ext i; simp; cases x[i] <;> cases y[i] <;> rfl
    · ext i; simp; cases x[i] <;> cases y[i] <;> simp
  have h2 : x ||| y = y + (x &&& ~~~y) := by
    rw [BitVec.add_eq_or_of_and_eq_zero]
    · ext i; simp; cases x[i] <;> cases y[i] <;> rfl
    · ext i; simp; cases x[i] <;> cases y[i] <;> simp
  rw [h2]
  conv => rhs; rw [h1]
  ac_rfl
theorem own_or0 (x y : Int32) : (x ||| y) + (x &&& y) = x + y := Int32.toBitVec_inj.mp (by simpa using own_bvor x.toBitVec y.toBitVec)
theorem own_or (x y : Int32) : ((x ||| y).toInt + (x &&& y).toInt - (x.toInt + y.toInt)) % 4294967296 = 0 := by
  have h1 := c_iadd (x ||| y) (x &&& y)
  have h2 := c_iadd x y
  rw [own_or0] at h1; omega
theorem own_bvblk (x m a b : BitVec 32) (h1 : m ||| a = b) (h2 : m &&& a = 0#32) : (x &&& m) + (x &&& a) = x &&& b := by
  rw [BitVec.add_eq_or_of_and_eq_zero, ← h1]
  · ext i; simp; cases x[i] <;> simp
  · have : (x &&& m) &&& (x &&& a) = x &&& (m &&& a) := by ext i; simp; cases x[i] <;> simp
    rw [this, h2]; simp
theorem own_blk (x m a b : Int32) (h1 : m ||| a = b) (h2 : m &&& a = 0) : ((x &&& m).toInt + (x &&& a).toInt - (x &&& b).toInt) % 4294967296 = 0 := by
  have e : (x &&& m) + (x &&& a) = x &&& b := Int32.toBitVec_inj.mp (by
    have q1 := congrArg Int32.toBitVec h1
    have q2 := congrArg Int32.toBitVec h2
    simpa using own_bvblk x.toBitVec m.toBitVec a.toBitVec b.toBitVec (by simpa using q1) (by simpa using q2))
  have := c_iadd (x &&& m) (x &&& a)
  rw [e] at this; omega
theorem own_andM1 (x : Int32) : x &&& (-1) = x := Int32.toBitVec_inj.mp (by ext i; simp)
theorem own_narZ {b : Int32} (hb : b.toInt = 0 ∨ b.toInt = 1) : nar .boolean b = b := by
  have : b = 0 ∨ b = 1 := by
    rcases hb with q | q
    · exact Or.inl (Int32.toInt_inj.mp q)
    · exact Or.inr (Int32.toInt_inj.mp q)
  rcases this with rfl | rfl <;> decide
theorem own_narC {b : Int32} (h0 : 0 ≤ b.toInt) (h1 : b.toInt < 65536) : nar .char b = b := by
  have := c_i2c b
  exact Int32.toInt_inj.mp (by show b.toUInt32.toUInt16.toUInt32.toInt32.toInt = _; omega)
theorem own_narB {b : Int32} (h0 : -128 ≤ b.toInt) (h1 : b.toInt < 128) : nar .byte b = b := by
  have := c_i2b b
  exact Int32.toInt_inj.mp (by show b.toInt8.toInt32.toInt = _; omega)
theorem own_eq {x y : Int32} (q : x.toInt = y.toInt) : x = y := Int32.toInt_inj.mp q
theorem own_eqL {x y : Int64} (q : x.toInt = y.toInt) : x = y := Int64.toInt_inj.mp q
end OwnArith


theorem d1_0 : decode prog_42_method_5_code 0 = .ok (.iconst (-1), 1) := by decide +kernel
theorem d1_1 : decode prog_42_method_5_code 1 = .ok (.istore_n 1, 1) := by decide +kernel
theorem d1_2 : decode prog_42_method_5_code 2 = .ok (.iload_n 0, 1) := by decide +kernel
theorem d1_3 : decode prog_42_method_5_code 3 = .ok (.ldc 59, 2) := by decide +kernel
theorem d1_5 : decode prog_42_method_5_code 5 = .ok (.if_icmp .lt 14, 3) := by decide +kernel
theorem d1_19 : decode prog_42_method_5_code 19 = .ok (.iload_n 1, 1) := by decide +kernel
theorem d1_20 : decode prog_42_method_5_code 20 = .ok (.ireturn, 1) := by decide +kernel
theorem d1_8 : decode prog_42_method_5_code 8 = .ok (.iload_n 0, 1) := by decide +kernel
theorem d1_9 : decode prog_42_method_5_code 9 = .ok (.ldc 60, 2) := by decide +kernel
theorem d1_11 : decode prog_42_method_5_code 11 = .ok (.if_icmp .gt 8, 3) := by decide +kernel
theorem d1_14 : decode prog_42_method_5_code 14 = .ok (.iload_n 0, 1) := by decide +kernel
theorem d1_15 : decode prog_42_method_5_code 15 = .ok (.ldc 58, 2) := by decide +kernel
theorem d1_17 : decode prog_42_method_5_code 17 = .ok (.isub, 1) := by decide +kernel
theorem d1_18 : decode prog_42_method_5_code 18 = .ok (.istore_n 1, 1) := by decide +kernel
theorem pn_54118089 : plainName "com/example/bot_rules/botrules/model/UrlPath" = true := by first | (simp [plainName, overriddenIn]; done) | decide +kernel
theorem ef_1 (m : MethodId) (p0 : Int32) : entryFrame m #[(.int p0)] 2 = mkF m 0 #[.val (.int p0), .unset] [] := by first | (simp [entryFrame, mkF, argsToLocals, Value.category]; done) | rfl
def Q1 (Z : State) (p0 : Int32) (h0 : Heap) (n0 : Nat) (v : Option Value) (h : Heap) (L : List Loc) : Prop := ∃ r : Int32, v = some (.int r) ∧ ((r.toInt = p0.toInt - 56320 ∧ (56448 ≤ p0.toInt ∧ p0.toInt ≤ 56575)) ∨ (r.toInt = -1 ∧ ¬ (56448 ≤ p0.toInt ∧ p0.toInt ≤ 56575))) ∧ Fr n0 L ∧ h = h0
set_option maxRecDepth 65536 in
set_option maxHeartbeats 40000000 in
theorem rm1 (l : Launch) (Z : State) (a0 : Array Value) (hw : ∀ d ∈ tables_1, d.before a0 Z = true) (ws : List Jvm.Cond) (p0 : Int32) (h0 : Heap) (n0 : Nat) (Z0 : n0 ≤ h0.size) :
    MetFree l (⟨"com/example/bot_rules/botrules/model/UrlPath", "markedOctet", "(I)I"⟩ : MethodName) (head1 (Jvm.Cond.code (⟨"com/example/bot_rules/botrules/model/UrlPath", "markedOctet", "(I)I"⟩ : MethodName) prog_42_method_5_code 2 (some .int) :: ws) ({ frames := 0, cells := 0, slots := 0, locals := 0 } : Room)) (fun a U => a = #[(.int p0)] ∧ Z.Warmed39 U.vm ∧ U.heap = h0) (fun _ _ _ _ _ => True) (fun _ U o U' => ∃ v L, o = .returned v ∧ Q1 Z p0 h0 n0 v U'.heap L ∧ FrameEnd U o U' L ({ frames := 0, cells := 0, slots := 0, locals := 0 } : Room).cells ({ frames := 0, cells := 0, slots := 0, locals := 0 } : Room).slots) := by
  refine MetFree.of_bodySF (plainFor_of_name pn_54118089) hisR ?_
  intro p e s m args below meth c s₁ Bd hml0 hP hK
  obtain ⟨rfl, hZ, hh⟩ := hP
  have C : Ctx p s m meth c Z "com/example/bot_rules/botrules/model/UrlPath" "markedOctet" prog_42_method_5_code 2 (some .int) := Ctx.of Bd hml0 hZ
  have X0 : Stand p l e ({ frames := 0, cells := 0, slots := 0, locals := 0 } : Room) s m #[(.int p0)] below meth c s₁ [] 0 0 := Stand.of_body Bd
  have e0 : s₁.heap = h0 := by rw [← hh, Bd.state]; rfl
  have N0 := Fr.nil n0
  refine Goes.enter (ef_1 m p0) ?_
  clear hK hml0 hh
  refine g_iconst 1 rfl C X0 (-1 : Int32) d1_0 rfl ?_
  refine g_istoreN 2 rfl C X0 (-1 : Int32) rfl #[.val (.int p0), .val (.int (-1 : Int32))] d1_1 rfl ?_
  refine g_iloadN 3 rfl C X0 d1_2 rfl ?_
  refine g_ldc 5 rfl C X0 (hw _ (List.mem_of_getElem? (i := 4) rfl)) d1_3 ?_
  by_cases hb1 : p0.toInt < (56448 : Int32).toInt
  · skip
    refine g_icmp_lt_t 19 C X0 d1_5 (by decide) (by decide) hb1 ?_
    refine g_iloadN 20 rfl C X0 d1_19 rfl ?_
    have fr2 := rng32 p0
    have fc3 : (56448 : Int32).toInt = 56448 := rfl
    have fc4 : (-1 : Int32).toInt = -1 := rfl
    exact g_retI C X0 rfl d1_20 e0 (by decide) (by decide) ⟨_, rfl, by omega, N0, rfl⟩
  · skip
    refine g_icmp_lt_f 8 rfl C X0 d1_5 hb1 ?_
    refine g_iloadN 9 rfl C X0 d1_8 rfl ?_
    refine g_ldc 11 rfl C X0 (hw _ (List.mem_of_getElem? (i := 9) rfl)) d1_9 ?_
    by_cases hb5 : (56575 : Int32).toInt < p0.toInt
    · skip
      refine g_icmp_gt_t 19 C X0 d1_11 (by decide) (by decide) hb5 ?_
      refine g_iloadN 20 rfl C X0 d1_19 rfl ?_
      have fr6 := rng32 p0
      have fc7 : (56448 : Int32).toInt = 56448 := rfl
      have fc8 : (56575 : Int32).toInt = 56575 := rfl
      have fc9 : (-1 : Int32).toInt = -1 := rfl
      exact g_retI C X0 rfl d1_20 e0 (by decide) (by decide) ⟨_, rfl, by omega, N0, rfl⟩
    · skip
      refine g_icmp_gt_f 14 rfl C X0 d1_11 hb5 ?_
      refine g_iloadN 15 rfl C X0 d1_14 rfl ?_
      refine g_ldc 17 rfl C X0 (hw _ (List.mem_of_getElem? (i := 8) rfl)) d1_15 ?_
      refine g_isub 18 rfl C X0 d1_17 ?_
      obtain ⟨v10, hv10⟩ : ∃ z : Int32, (p0 - (56320 : Int32)) = z := ⟨_, rfl⟩
      refine g_istoreN 19 rfl C X0 v10 hv10 #[.val (.int p0), .val (.int v10)] d1_18 rfl ?_
      refine g_iloadN 20 rfl C X0 d1_19 rfl ?_
      have fr11 := rng32 p0
      have fc12 : (56448 : Int32).toInt = 56448 := rfl
      have fc13 : (56575 : Int32).toInt = 56575 := rfl
      have fr14 := rng32 v10
      have fc15 : (56320 : Int32).toInt = 56320 := rfl
      have fo16 := c_isub p0 (56320 : Int32)
      have fr17 := rng32 (p0 - (56320 : Int32))
      have fe18 : (p0 - (56320 : Int32)).toInt = v10.toInt := congrArg Int32.toInt hv10
      exact g_retI C X0 rfl d1_20 e0 (by decide) (by decide) ⟨_, rfl, by omega, N0, rfl⟩
theorem d2_0 : decode prog_42_method_4_code 0 = .ok (.ldc 58, 2) := by decide +kernel
theorem d2_2 : decode prog_42_method_4_code 2 = .ok (.iload_n 0, 1) := by decide +kernel
theorem d2_3 : decode prog_42_method_4_code 3 = .ok (.sipush 255, 3) := by decide +kernel
theorem d2_6 : decode prog_42_method_4_code 6 = .ok (.iand, 1) := by decide +kernel
theorem d2_7 : decode prog_42_method_4_code 7 = .ok (.iadd, 1) := by decide +kernel
theorem d2_8 : decode prog_42_method_4_code 8 = .ok (.i2c, 1) := by decide +kernel
theorem d2_9 : decode prog_42_method_4_code 9 = .ok (.ireturn, 1) := by decide +kernel
theorem ef_2 (m : MethodId) (p0 : Int32) : entryFrame m #[(.int p0)] 1 = mkF m 0 #[.val (.int p0)] [] := by first | (simp [entryFrame, mkF, argsToLocals, Value.category]; done) | rfl
def Q2 (Z : State) (p0 : Int32) (h0 : Heap) (n0 : Nat) (v : Option Value) (h : Heap) (L : List Loc) : Prop := ∃ r : Int32, v = some (.int r) ∧ (r.toInt = 56320 + p0.toInt % 256) ∧ Fr n0 L ∧ h = h0
set_option maxRecDepth 65536 in
set_option maxHeartbeats 40000000 in
theorem rm2 (l : Launch) (Z : State) (a0 : Array Value) (hw : ∀ d ∈ tables_1, d.before a0 Z = true) (ws : List Jvm.Cond) (p0 : Int32) (h0 : Heap) (n0 : Nat) (Z0 : n0 ≤ h0.size) :
    MetFree l (⟨"com/example/bot_rules/botrules/model/UrlPath", "octetMark", "(B)C"⟩ : MethodName) (head1 (Jvm.Cond.code (⟨"com/example/bot_rules/botrules/model/UrlPath", "octetMark", "(B)C"⟩ : MethodName) prog_42_method_4_code 1 (some .char) :: ws) ({ frames := 0, cells := 0, slots := 0, locals := 0 } : Room)) (fun a U => a = #[(.int p0)] ∧ Z.Warmed39 U.vm ∧ U.heap = h0) (fun _ _ _ _ _ => True) (fun _ U o U' => ∃ v L, o = .returned v ∧ Q2 Z p0 h0 n0 v U'.heap L ∧ FrameEnd U o U' L ({ frames := 0, cells := 0, slots := 0, locals := 0 } : Room).cells ({ frames := 0, cells := 0, slots := 0, locals := 0 } : Room).slots) := by
  refine MetFree.of_bodySF (plainFor_of_name pn_54118089) hisR ?_
  intro p e s m args below meth c s₁ Bd hml0 hP hK
  obtain ⟨rfl, hZ, hh⟩ := hP
  have C : Ctx p s m meth c Z "com/example/bot_rules/botrules/model/UrlPath" "octetMark" prog_42_method_4_code 1 (some .char) := Ctx.of Bd hml0 hZ
  have X0 : Stand p l e ({ frames := 0, cells := 0, slots := 0, locals := 0 } : Room) s m #[(.int p0)] below meth c s₁ [] 0 0 := Stand.of_body Bd
  have e0 : s₁.heap = h0 := by rw [← hh, Bd.state]; rfl
  have N0 := Fr.nil n0
  refine Goes.enter (ef_2 m p0) ?_
  clear hK hml0 hh
  refine g_ldc 2 rfl C X0 (hw _ (List.mem_of_getElem? (i := 8) rfl)) d2_0 ?_
  refine g_iloadN 3 rfl C X0 d2_2 rfl ?_
  refine g_sipush 6 rfl C X0 (255 : Int32) d2_3 rfl ?_
  refine g_iand 7 rfl C X0 d2_6 ?_
  refine g_iadd 8 rfl C X0 d2_7 ?_
  refine g_i2c 9 rfl C X0 d2_8 ?_
  have fc1 : (56320 : Int32).toInt = 56320 := rfl
  have fr2 := rng32 p0
  have fc3 : (255 : Int32).toInt = 255 := rfl
  have fo4 : (p0 &&& (255 : Int32)).toInt = p0.toInt % 256 := c_mask p0 (255 : Int32) 8 (by decide) (by decide)
  have fo5 := c_iadd (56320 : Int32) (p0 &&& (255 : Int32))
  have fr6 := rng32 ((56320 : Int32) + (p0 &&& (255 : Int32)))
  have fo7 := c_i2c ((56320 : Int32) + (p0 &&& (255 : Int32)))
  have hn8 : nar .char ((((56320 : Int32) + (p0 &&& (255 : Int32)))).toUInt32.toUInt16.toUInt32.toInt32) = ((((56320 : Int32) + (p0 &&& (255 : Int32)))).toUInt32.toUInt16.toUInt32.toInt32) := own_narC (by omega) (by omega)
  exact g_retN C X0 (z' := ((((56320 : Int32) + (p0 &&& (255 : Int32)))).toUInt32.toUInt16.toUInt32.toInt32)) rfl (Or.inr (Or.inr (Or.inl rfl))) d2_9 e0 (by decide) (by decide) hn8 ⟨_, rfl, by omega, N0, rfl⟩
theorem pd_52681284 : parseMethodDescriptor "(I)I" = some ⟨[.int], some .int⟩ := by decide +kernel
theorem pd_52561151 : parseMethodDescriptor "(B)C" = some ⟨[.byte], some .char⟩ := by decide +kernel
theorem pn_52973695 : plainName "com/example/bot_rules/botrules/model/UrlPathMarkedOctetPinLaw" = true := by first | (simp [plainName, overriddenIn]; done) | decide +kernel
theorem ef_0 (m : MethodId) (p0 : Int32) (p1 : Int32) : entryFrame m #[(.int p0), (.int p1)] maxLocals = mkF m 0 #[.val (.int p0), .val (.int p1), .unset, .unset, .unset, .unset, .unset] [] := by first | (simp [entryFrame, mkF, argsToLocals, Value.category, maxLocals]; done) | rfl
def Q0 (Z : State) (p0 : Int32) (p1 : Int32) (h0 : Heap) (n0 : Nat) (v : Option Value) (h : Heap) (L : List Loc) : Prop := v = some (.int 1) ∧ Fr n0 L
set_option maxRecDepth 65536 in
set_option maxHeartbeats 40000000 in
theorem rm0 (l : Launch) (Z : State) (a0 : Array Value) (hw : ∀ d ∈ tables_1, d.before a0 Z = true) (ws : List Jvm.Cond) (p0 : Int32) (p1 : Int32) (h0 : Heap) (n0 : Nat) (Z0 : n0 ≤ h0.size) :
    MetFree l x (head1 (Jvm.Cond.code x code maxLocals ret :: ws) room_1) (fun a U => a = #[(.int p0), (.int p1)] ∧ Z.Warmed39 U.vm ∧ U.heap = h0) (fun _ _ _ _ _ => True) (fun _ U o U' => ∃ v L, o = .returned v ∧ Q0 Z p0 p1 h0 n0 v U'.heap L ∧ FrameEnd U o U' L 0 0) := by
  refine MetFree.of_bodySF (plainFor_of_name pn_52973695) hisR ?_
  intro p e s m args below meth c s₁ Bd hml0 hP hK
  obtain ⟨rfl, hZ, hh⟩ := hP
  have C : Ctx p s m meth c Z "com/example/bot_rules/botrules/model/UrlPathMarkedOctetPinLaw" "law" code maxLocals ret := Ctx.of Bd hml0 hZ
  have X0 : Stand p l e room_1 s m #[(.int p0), (.int p1)] below meth c s₁ [] 0 0 := Stand.of_body Bd
  have e0 : s₁.heap = h0 := by rw [← hh, Bd.state]; rfl
  have N0 := Fr.nil n0
  refine Goes.enter (ef_0 m p0 p1) ?_
  clear hK hml0 hh
  refine g_iloadN 1 rfl C X0 at_0 rfl ?_
  refine g_callS 4 rfl C X0 (argsL := [(.int p0)]) (hw _ (List.mem_of_getElem? (i := 0) rfl)) (hw _ (List.mem_of_getElem? (i := 1) rfl)) (hw _ (List.mem_of_getElem? (i := 3) rfl)) (hw _ (List.mem_of_getElem? (i := 2) rfl)) e0 (rm1 l Z a0 hw [] p0 h0 n0 Z0) (lenOf pd_52681284 rfl) (by decide) (by decide) (by decide) (by decide) rfl (W := 0) (by decide) (by decide) at_1 rfl fun r1 T2 Lc3 X4 hQ5 => ?_
  obtain ⟨r6, rfl, hs7, Nq8, eh9⟩ := hQ5
  have N10 := Fr.app N0 Nq8
  show Goes _ _ _ _ _ _ 4 _ [(.int r6)]
  refine g_istoreN 5 rfl C X4 r6 rfl #[.val (.int p0), .val (.int p1), .val (.int r6), .unset, .unset, .unset, .unset] at_4 rfl ?_
  refine g_iloadN 6 rfl C X4 at_5 rfl ?_
  refine g_iconst 7 rfl C X4 (-1 : Int32) at_6 rfl ?_
  by_cases hb11 : r6.toInt = (-1 : Int32).toInt
  · skip
    refine g_icmp_eq_t 33 C X4 at_7 (by decide) (by decide) hb11 ?_
    refine g_iconst 34 rfl C X4 (1 : Int32) at_33 rfl ?_
    refine g_goto 38 C X4 at_34 (by decide) (by decide) ?_
    refine g_istoreN 39 rfl C X4 (1 : Int32) rfl #[.val (.int p0), .val (.int p1), .val (.int r6), .val (.int (1 : Int32)), .unset, .unset, .unset] at_38 rfl ?_
    refine g_sipush 42 rfl C X4 (128 : Int32) at_39 rfl ?_
    refine g_iloadN 43 rfl C X4 at_42 rfl ?_
    refine g_bipush 45 rfl C X4 (127 : Int32) at_43 rfl ?_
    refine g_iand 46 rfl C X4 at_45 ?_
    refine g_ior 47 rfl C X4 at_46 ?_
    obtain ⟨v12, hv12⟩ : ∃ z : Int32, ((128 : Int32) ||| (p1 &&& (127 : Int32))) = z := ⟨_, rfl⟩
    refine g_istore 49 rfl C X4 v12 hv12 #[.val (.int p0), .val (.int p1), .val (.int r6), .val (.int (1 : Int32)), .val (.int v12), .unset, .unset] at_47 rfl ?_
    refine g_iload 51 rfl C X4 at_49 rfl ?_
    refine g_i2b 52 rfl C X4 at_51 ?_
    refine g_callS 55 rfl C X4 (argsL := [(.int ((v12).toInt8.toInt32))]) (hw _ (List.mem_of_getElem? (i := 5) rfl)) (hw _ (List.mem_of_getElem? (i := 6) rfl)) (hw _ (List.mem_of_getElem? (i := 7) rfl)) (hw _ (List.mem_of_getElem? (i := 2) rfl)) eh9 (rm2 l Z a0 hw [] ((v12).toInt8.toInt32) h0 n0 Z0) (lenOf pd_52561151 rfl) (by decide) (by decide) (by decide) (by decide) rfl (W := 0) (by decide) (by decide) at_52 rfl fun r13 T14 Lc15 X16 hQ17 => ?_
    obtain ⟨r18, rfl, hs19, Nq20, eh21⟩ := hQ17
    have N22 := Fr.app N10 Nq20
    show Goes _ _ _ _ _ _ 55 _ [(.int r18)]
    refine g_istore 57 rfl C X16 r18 rfl #[.val (.int p0), .val (.int p1), .val (.int r6), .val (.int (1 : Int32)), .val (.int v12), .val (.int r18), .unset] at_55 rfl ?_
    refine g_iload 59 rfl C X16 at_57 rfl ?_
    refine g_callS 62 rfl C X16 (argsL := [(.int r18)]) (hw _ (List.mem_of_getElem? (i := 0) rfl)) (hw _ (List.mem_of_getElem? (i := 1) rfl)) (hw _ (List.mem_of_getElem? (i := 3) rfl)) (hw _ (List.mem_of_getElem? (i := 2) rfl)) eh21 (rm1 l Z a0 hw [] r18 h0 n0 Z0) (lenOf pd_52681284 rfl) (by decide) (by decide) (by decide) (by decide) rfl (W := 0) (by decide) (by decide) at_59 rfl fun r23 T24 Lc25 X26 hQ27 => ?_
    obtain ⟨r28, rfl, hs29, Nq30, eh31⟩ := hQ27
    have N32 := Fr.app N22 Nq30
    show Goes _ _ _ _ _ _ 62 _ [(.int r28)]
    refine g_iload 64 rfl C X26 at_62 rfl ?_
    by_cases hb33 : r28.toInt = v12.toInt
    · skip
      refine g_icmp_ne_f 67 rfl C X26 at_64 hb33 ?_
      refine g_iconst 68 rfl C X26 (1 : Int32) at_67 rfl ?_
      refine g_goto 72 C X26 at_68 (by decide) (by decide) ?_
      refine g_istore 74 rfl C X26 (1 : Int32) rfl #[.val (.int p0), .val (.int p1), .val (.int r6), .val (.int (1 : Int32)), .val (.int v12), .val (.int r18), .val (.int (1 : Int32))] at_72 rfl ?_
      refine g_iloadN 75 rfl C X26 at_74 rfl ?_
      refine g_if_eq_f 78 rfl C X26 at_75 (by decide) ?_
      refine g_iload 80 rfl C X26 at_78 rfl ?_
      refine g_if_eq_f 83 rfl C X26 at_80 (by decide) ?_
      refine g_iconst 84 rfl C X26 (1 : Int32) at_83 rfl ?_
      refine g_goto 88 C X26 at_84 (by decide) (by decide) ?_
      exact g_retN C X26 (z' := (1 : Int32)) rfl (Or.inl rfl) at_88 eh31 (by decide) (by decide) rfl ⟨rfl, N32⟩
    · skip
      refine g_icmp_ne_t 71 C X26 at_64 (by decide) (by decide) hb33 ?_
      refine g_iconst 72 rfl C X26 (0 : Int32) at_71 rfl ?_
      refine g_istore 74 rfl C X26 (0 : Int32) rfl #[.val (.int p0), .val (.int p1), .val (.int r6), .val (.int (1 : Int32)), .val (.int v12), .val (.int r18), .val (.int (0 : Int32))] at_72 rfl ?_
      refine g_iloadN 75 rfl C X26 at_74 rfl ?_
      refine g_if_eq_f 78 rfl C X26 at_75 (by decide) ?_
      refine g_iload 80 rfl C X26 at_78 rfl ?_
      refine g_if_eq_t 87 C X26 at_80 (by decide) (by decide) (by decide) ?_
      refine g_iconst 88 rfl C X26 (0 : Int32) at_87 rfl ?_
      exfalso
      have fr34 := rng32 p0
      have fr35 := rng32 r6
      have fc36 : (-1 : Int32).toInt = -1 := rfl
      have fr37 := rng32 v12
      have fc38 : (128 : Int32).toInt = 128 := rfl
      have fr39 := rng32 p1
      have fc40 : (127 : Int32).toInt = 127 := rfl
      have fo41 : (p1 &&& (127 : Int32)).toInt = p1.toInt % 128 := c_mask p1 (127 : Int32) 7 (by decide) (by decide)
      have fo42 := c_or (128 : Int32) (p1 &&& (127 : Int32)) 7 (by decide) 128 (by decide) (by omega) (by omega) (by omega)
      have fr43 := rng32 ((128 : Int32) ||| (p1 &&& (127 : Int32)))
      have fe44 : ((128 : Int32) ||| (p1 &&& (127 : Int32))).toInt = v12.toInt := congrArg Int32.toInt hv12
      have fo45 := c_i2b v12
      have fr46 := rng32 r18
      have fr47 := rng32 r28
      have fc48 : (1 : Int32).toInt = 1 := rfl
      have fc49 : (0 : Int32).toInt = 0 := rfl
      omega
  · skip
    refine g_icmp_eq_f 10 rfl C X4 at_7 hb11 ?_
    refine g_iloadN 11 rfl C X4 at_10 rfl ?_
    refine g_sipush 14 rfl C X4 (128 : Int32) at_11 rfl ?_
    by_cases hb50 : r6.toInt < (128 : Int32).toInt
    · skip
      refine g_icmp_lt_t 37 C X4 at_14 (by decide) (by decide) hb50 ?_
      refine g_iconst 38 rfl C X4 (0 : Int32) at_37 rfl ?_
      refine g_istoreN 39 rfl C X4 (0 : Int32) rfl #[.val (.int p0), .val (.int p1), .val (.int r6), .val (.int (0 : Int32)), .unset, .unset, .unset] at_38 rfl ?_
      refine g_sipush 42 rfl C X4 (128 : Int32) at_39 rfl ?_
      refine g_iloadN 43 rfl C X4 at_42 rfl ?_
      refine g_bipush 45 rfl C X4 (127 : Int32) at_43 rfl ?_
      refine g_iand 46 rfl C X4 at_45 ?_
      refine g_ior 47 rfl C X4 at_46 ?_
      obtain ⟨v51, hv51⟩ : ∃ z : Int32, ((128 : Int32) ||| (p1 &&& (127 : Int32))) = z := ⟨_, rfl⟩
      refine g_istore 49 rfl C X4 v51 hv51 #[.val (.int p0), .val (.int p1), .val (.int r6), .val (.int (0 : Int32)), .val (.int v51), .unset, .unset] at_47 rfl ?_
      refine g_iload 51 rfl C X4 at_49 rfl ?_
      refine g_i2b 52 rfl C X4 at_51 ?_
      refine g_callS 55 rfl C X4 (argsL := [(.int ((v51).toInt8.toInt32))]) (hw _ (List.mem_of_getElem? (i := 5) rfl)) (hw _ (List.mem_of_getElem? (i := 6) rfl)) (hw _ (List.mem_of_getElem? (i := 7) rfl)) (hw _ (List.mem_of_getElem? (i := 2) rfl)) eh9 (rm2 l Z a0 hw [] ((v51).toInt8.toInt32) h0 n0 Z0) (lenOf pd_52561151 rfl) (by decide) (by decide) (by decide) (by decide) rfl (W := 0) (by decide) (by decide) at_52 rfl fun r52 T53 Lc54 X55 hQ56 => ?_
      obtain ⟨r57, rfl, hs58, Nq59, eh60⟩ := hQ56
      have N61 := Fr.app N10 Nq59
      show Goes _ _ _ _ _ _ 55 _ [(.int r57)]
      refine g_istore 57 rfl C X55 r57 rfl #[.val (.int p0), .val (.int p1), .val (.int r6), .val (.int (0 : Int32)), .val (.int v51), .val (.int r57), .unset] at_55 rfl ?_
      refine g_iload 59 rfl C X55 at_57 rfl ?_
      refine g_callS 62 rfl C X55 (argsL := [(.int r57)]) (hw _ (List.mem_of_getElem? (i := 0) rfl)) (hw _ (List.mem_of_getElem? (i := 1) rfl)) (hw _ (List.mem_of_getElem? (i := 3) rfl)) (hw _ (List.mem_of_getElem? (i := 2) rfl)) eh60 (rm1 l Z a0 hw [] r57 h0 n0 Z0) (lenOf pd_52681284 rfl) (by decide) (by decide) (by decide) (by decide) rfl (W := 0) (by decide) (by decide) at_59 rfl fun r62 T63 Lc64 X65 hQ66 => ?_
      obtain ⟨r67, rfl, hs68, Nq69, eh70⟩ := hQ66
      have N71 := Fr.app N61 Nq69
      show Goes _ _ _ _ _ _ 62 _ [(.int r67)]
      refine g_iload 64 rfl C X65 at_62 rfl ?_
      by_cases hb72 : r67.toInt = v51.toInt
      · skip
        refine g_icmp_ne_f 67 rfl C X65 at_64 hb72 ?_
        refine g_iconst 68 rfl C X65 (1 : Int32) at_67 rfl ?_
        refine g_goto 72 C X65 at_68 (by decide) (by decide) ?_
        refine g_istore 74 rfl C X65 (1 : Int32) rfl #[.val (.int p0), .val (.int p1), .val (.int r6), .val (.int (0 : Int32)), .val (.int v51), .val (.int r57), .val (.int (1 : Int32))] at_72 rfl ?_
        refine g_iloadN 75 rfl C X65 at_74 rfl ?_
        refine g_if_eq_t 87 C X65 at_75 (by decide) (by decide) (by decide) ?_
        refine g_iconst 88 rfl C X65 (0 : Int32) at_87 rfl ?_
        exfalso
        have fr73 := rng32 p0
        have fr74 := rng32 r6
        have fc75 : (-1 : Int32).toInt = -1 := rfl
        have fc76 : (128 : Int32).toInt = 128 := rfl
        have fr77 := rng32 v51
        have fr78 := rng32 p1
        have fc79 : (127 : Int32).toInt = 127 := rfl
        have fo80 : (p1 &&& (127 : Int32)).toInt = p1.toInt % 128 := c_mask p1 (127 : Int32) 7 (by decide) (by decide)
        have fo81 := c_or (128 : Int32) (p1 &&& (127 : Int32)) 7 (by decide) 128 (by decide) (by omega) (by omega) (by omega)
        have fr82 := rng32 ((128 : Int32) ||| (p1 &&& (127 : Int32)))
        have fe83 : ((128 : Int32) ||| (p1 &&& (127 : Int32))).toInt = v51.toInt := congrArg Int32.toInt hv51
        have fo84 := c_i2b v51
        have fr85 := rng32 r57
        have fr86 := rng32 r67
        have fc87 : (0 : Int32).toInt = 0 := rfl
        omega
      · skip
        refine g_icmp_ne_t 71 C X65 at_64 (by decide) (by decide) hb72 ?_
        refine g_iconst 72 rfl C X65 (0 : Int32) at_71 rfl ?_
        refine g_istore 74 rfl C X65 (0 : Int32) rfl #[.val (.int p0), .val (.int p1), .val (.int r6), .val (.int (0 : Int32)), .val (.int v51), .val (.int r57), .val (.int (0 : Int32))] at_72 rfl ?_
        refine g_iloadN 75 rfl C X65 at_74 rfl ?_
        refine g_if_eq_t 87 C X65 at_75 (by decide) (by decide) (by decide) ?_
        refine g_iconst 88 rfl C X65 (0 : Int32) at_87 rfl ?_
        exfalso
        have fr88 := rng32 p0
        have fr89 := rng32 r6
        have fc90 : (-1 : Int32).toInt = -1 := rfl
        have fc91 : (128 : Int32).toInt = 128 := rfl
        have fr92 := rng32 v51
        have fr93 := rng32 p1
        have fc94 : (127 : Int32).toInt = 127 := rfl
        have fo95 : (p1 &&& (127 : Int32)).toInt = p1.toInt % 128 := c_mask p1 (127 : Int32) 7 (by decide) (by decide)
        have fo96 := c_or (128 : Int32) (p1 &&& (127 : Int32)) 7 (by decide) 128 (by decide) (by omega) (by omega) (by omega)
        have fr97 := rng32 ((128 : Int32) ||| (p1 &&& (127 : Int32)))
        have fe98 : ((128 : Int32) ||| (p1 &&& (127 : Int32))).toInt = v51.toInt := congrArg Int32.toInt hv51
        have fo99 := c_i2b v51
        have fr100 := rng32 r57
        have fr101 := rng32 r67
        have fc102 : (0 : Int32).toInt = 0 := rfl
        omega
    · skip
      refine g_icmp_lt_f 17 rfl C X4 at_14 hb50 ?_
      refine g_iloadN 18 rfl C X4 at_17 rfl ?_
      refine g_sipush 21 rfl C X4 (255 : Int32) at_18 rfl ?_
      by_cases hb103 : (255 : Int32).toInt < r6.toInt
      · skip
        refine g_icmp_gt_t 37 C X4 at_21 (by decide) (by decide) hb103 ?_
        refine g_iconst 38 rfl C X4 (0 : Int32) at_37 rfl ?_
        refine g_istoreN 39 rfl C X4 (0 : Int32) rfl #[.val (.int p0), .val (.int p1), .val (.int r6), .val (.int (0 : Int32)), .unset, .unset, .unset] at_38 rfl ?_
        refine g_sipush 42 rfl C X4 (128 : Int32) at_39 rfl ?_
        refine g_iloadN 43 rfl C X4 at_42 rfl ?_
        refine g_bipush 45 rfl C X4 (127 : Int32) at_43 rfl ?_
        refine g_iand 46 rfl C X4 at_45 ?_
        refine g_ior 47 rfl C X4 at_46 ?_
        obtain ⟨v104, hv104⟩ : ∃ z : Int32, ((128 : Int32) ||| (p1 &&& (127 : Int32))) = z := ⟨_, rfl⟩
        refine g_istore 49 rfl C X4 v104 hv104 #[.val (.int p0), .val (.int p1), .val (.int r6), .val (.int (0 : Int32)), .val (.int v104), .unset, .unset] at_47 rfl ?_
        refine g_iload 51 rfl C X4 at_49 rfl ?_
        refine g_i2b 52 rfl C X4 at_51 ?_
        refine g_callS 55 rfl C X4 (argsL := [(.int ((v104).toInt8.toInt32))]) (hw _ (List.mem_of_getElem? (i := 5) rfl)) (hw _ (List.mem_of_getElem? (i := 6) rfl)) (hw _ (List.mem_of_getElem? (i := 7) rfl)) (hw _ (List.mem_of_getElem? (i := 2) rfl)) eh9 (rm2 l Z a0 hw [] ((v104).toInt8.toInt32) h0 n0 Z0) (lenOf pd_52561151 rfl) (by decide) (by decide) (by decide) (by decide) rfl (W := 0) (by decide) (by decide) at_52 rfl fun r105 T106 Lc107 X108 hQ109 => ?_
        obtain ⟨r110, rfl, hs111, Nq112, eh113⟩ := hQ109
        have N114 := Fr.app N10 Nq112
        show Goes _ _ _ _ _ _ 55 _ [(.int r110)]
        refine g_istore 57 rfl C X108 r110 rfl #[.val (.int p0), .val (.int p1), .val (.int r6), .val (.int (0 : Int32)), .val (.int v104), .val (.int r110), .unset] at_55 rfl ?_
        refine g_iload 59 rfl C X108 at_57 rfl ?_
        refine g_callS 62 rfl C X108 (argsL := [(.int r110)]) (hw _ (List.mem_of_getElem? (i := 0) rfl)) (hw _ (List.mem_of_getElem? (i := 1) rfl)) (hw _ (List.mem_of_getElem? (i := 3) rfl)) (hw _ (List.mem_of_getElem? (i := 2) rfl)) eh113 (rm1 l Z a0 hw [] r110 h0 n0 Z0) (lenOf pd_52681284 rfl) (by decide) (by decide) (by decide) (by decide) rfl (W := 0) (by decide) (by decide) at_59 rfl fun r115 T116 Lc117 X118 hQ119 => ?_
        obtain ⟨r120, rfl, hs121, Nq122, eh123⟩ := hQ119
        have N124 := Fr.app N114 Nq122
        show Goes _ _ _ _ _ _ 62 _ [(.int r120)]
        refine g_iload 64 rfl C X118 at_62 rfl ?_
        by_cases hb125 : r120.toInt = v104.toInt
        · skip
          refine g_icmp_ne_f 67 rfl C X118 at_64 hb125 ?_
          refine g_iconst 68 rfl C X118 (1 : Int32) at_67 rfl ?_
          refine g_goto 72 C X118 at_68 (by decide) (by decide) ?_
          refine g_istore 74 rfl C X118 (1 : Int32) rfl #[.val (.int p0), .val (.int p1), .val (.int r6), .val (.int (0 : Int32)), .val (.int v104), .val (.int r110), .val (.int (1 : Int32))] at_72 rfl ?_
          refine g_iloadN 75 rfl C X118 at_74 rfl ?_
          refine g_if_eq_t 87 C X118 at_75 (by decide) (by decide) (by decide) ?_
          refine g_iconst 88 rfl C X118 (0 : Int32) at_87 rfl ?_
          exfalso
          have fr126 := rng32 p0
          have fr127 := rng32 r6
          have fc128 : (-1 : Int32).toInt = -1 := rfl
          have fc129 : (128 : Int32).toInt = 128 := rfl
          have fc130 : (255 : Int32).toInt = 255 := rfl
          have fr131 := rng32 v104
          have fr132 := rng32 p1
          have fc133 : (127 : Int32).toInt = 127 := rfl
          have fo134 : (p1 &&& (127 : Int32)).toInt = p1.toInt % 128 := c_mask p1 (127 : Int32) 7 (by decide) (by decide)
          have fo135 := c_or (128 : Int32) (p1 &&& (127 : Int32)) 7 (by decide) 128 (by decide) (by omega) (by omega) (by omega)
          have fr136 := rng32 ((128 : Int32) ||| (p1 &&& (127 : Int32)))
          have fe137 : ((128 : Int32) ||| (p1 &&& (127 : Int32))).toInt = v104.toInt := congrArg Int32.toInt hv104
          have fo138 := c_i2b v104
          have fr139 := rng32 r110
          have fr140 := rng32 r120
          have fc141 : (0 : Int32).toInt = 0 := rfl
          omega
        · skip
          refine g_icmp_ne_t 71 C X118 at_64 (by decide) (by decide) hb125 ?_
          refine g_iconst 72 rfl C X118 (0 : Int32) at_71 rfl ?_
          refine g_istore 74 rfl C X118 (0 : Int32) rfl #[.val (.int p0), .val (.int p1), .val (.int r6), .val (.int (0 : Int32)), .val (.int v104), .val (.int r110), .val (.int (0 : Int32))] at_72 rfl ?_
          refine g_iloadN 75 rfl C X118 at_74 rfl ?_
          refine g_if_eq_t 87 C X118 at_75 (by decide) (by decide) (by decide) ?_
          refine g_iconst 88 rfl C X118 (0 : Int32) at_87 rfl ?_
          exfalso
          have fr142 := rng32 p0
          have fr143 := rng32 r6
          have fc144 : (-1 : Int32).toInt = -1 := rfl
          have fc145 : (128 : Int32).toInt = 128 := rfl
          have fc146 : (255 : Int32).toInt = 255 := rfl
          have fr147 := rng32 v104
          have fr148 := rng32 p1
          have fc149 : (127 : Int32).toInt = 127 := rfl
          have fo150 : (p1 &&& (127 : Int32)).toInt = p1.toInt % 128 := c_mask p1 (127 : Int32) 7 (by decide) (by decide)
          have fo151 := c_or (128 : Int32) (p1 &&& (127 : Int32)) 7 (by decide) 128 (by decide) (by omega) (by omega) (by omega)
          have fr152 := rng32 ((128 : Int32) ||| (p1 &&& (127 : Int32)))
          have fe153 : ((128 : Int32) ||| (p1 &&& (127 : Int32))).toInt = v104.toInt := congrArg Int32.toInt hv104
          have fo154 := c_i2b v104
          have fr155 := rng32 r110
          have fr156 := rng32 r120
          have fc157 : (0 : Int32).toInt = 0 := rfl
          omega
      · skip
        refine g_icmp_gt_f 24 rfl C X4 at_21 hb103 ?_
        refine g_iloadN 25 rfl C X4 at_24 rfl ?_
        refine g_i2b 26 rfl C X4 at_25 ?_
        refine g_callS 29 rfl C X4 (argsL := [(.int ((r6).toInt8.toInt32))]) (hw _ (List.mem_of_getElem? (i := 5) rfl)) (hw _ (List.mem_of_getElem? (i := 6) rfl)) (hw _ (List.mem_of_getElem? (i := 7) rfl)) (hw _ (List.mem_of_getElem? (i := 2) rfl)) eh9 (rm2 l Z a0 hw [] ((r6).toInt8.toInt32) h0 n0 Z0) (lenOf pd_52561151 rfl) (by decide) (by decide) (by decide) (by decide) rfl (W := 0) (by decide) (by decide) at_26 rfl fun r158 T159 Lc160 X161 hQ162 => ?_
        obtain ⟨r163, rfl, hs164, Nq165, eh166⟩ := hQ162
        have N167 := Fr.app N10 Nq165
        show Goes _ _ _ _ _ _ 29 _ [(.int r163)]
        refine g_iloadN 30 rfl C X161 at_29 rfl ?_
        by_cases hb168 : r163.toInt = p0.toInt
        · skip
          refine g_icmp_ne_f 33 rfl C X161 at_30 hb168 ?_
          refine g_iconst 34 rfl C X161 (1 : Int32) at_33 rfl ?_
          refine g_goto 38 C X161 at_34 (by decide) (by decide) ?_
          refine g_istoreN 39 rfl C X161 (1 : Int32) rfl #[.val (.int p0), .val (.int p1), .val (.int r6), .val (.int (1 : Int32)), .unset, .unset, .unset] at_38 rfl ?_
          refine g_sipush 42 rfl C X161 (128 : Int32) at_39 rfl ?_
          refine g_iloadN 43 rfl C X161 at_42 rfl ?_
          refine g_bipush 45 rfl C X161 (127 : Int32) at_43 rfl ?_
          refine g_iand 46 rfl C X161 at_45 ?_
          refine g_ior 47 rfl C X161 at_46 ?_
          obtain ⟨v169, hv169⟩ : ∃ z : Int32, ((128 : Int32) ||| (p1 &&& (127 : Int32))) = z := ⟨_, rfl⟩
          refine g_istore 49 rfl C X161 v169 hv169 #[.val (.int p0), .val (.int p1), .val (.int r6), .val (.int (1 : Int32)), .val (.int v169), .unset, .unset] at_47 rfl ?_
          refine g_iload 51 rfl C X161 at_49 rfl ?_
          refine g_i2b 52 rfl C X161 at_51 ?_
          refine g_callS 55 rfl C X161 (argsL := [(.int ((v169).toInt8.toInt32))]) (hw _ (List.mem_of_getElem? (i := 5) rfl)) (hw _ (List.mem_of_getElem? (i := 6) rfl)) (hw _ (List.mem_of_getElem? (i := 7) rfl)) (hw _ (List.mem_of_getElem? (i := 2) rfl)) eh166 (rm2 l Z a0 hw [] ((v169).toInt8.toInt32) h0 n0 Z0) (lenOf pd_52561151 rfl) (by decide) (by decide) (by decide) (by decide) rfl (W := 0) (by decide) (by decide) at_52 rfl fun r170 T171 Lc172 X173 hQ174 => ?_
          obtain ⟨r175, rfl, hs176, Nq177, eh178⟩ := hQ174
          have N179 := Fr.app N167 Nq177
          show Goes _ _ _ _ _ _ 55 _ [(.int r175)]
          refine g_istore 57 rfl C X173 r175 rfl #[.val (.int p0), .val (.int p1), .val (.int r6), .val (.int (1 : Int32)), .val (.int v169), .val (.int r175), .unset] at_55 rfl ?_
          refine g_iload 59 rfl C X173 at_57 rfl ?_
          refine g_callS 62 rfl C X173 (argsL := [(.int r175)]) (hw _ (List.mem_of_getElem? (i := 0) rfl)) (hw _ (List.mem_of_getElem? (i := 1) rfl)) (hw _ (List.mem_of_getElem? (i := 3) rfl)) (hw _ (List.mem_of_getElem? (i := 2) rfl)) eh178 (rm1 l Z a0 hw [] r175 h0 n0 Z0) (lenOf pd_52681284 rfl) (by decide) (by decide) (by decide) (by decide) rfl (W := 0) (by decide) (by decide) at_59 rfl fun r180 T181 Lc182 X183 hQ184 => ?_
          obtain ⟨r185, rfl, hs186, Nq187, eh188⟩ := hQ184
          have N189 := Fr.app N179 Nq187
          show Goes _ _ _ _ _ _ 62 _ [(.int r185)]
          refine g_iload 64 rfl C X183 at_62 rfl ?_
          by_cases hb190 : r185.toInt = v169.toInt
          · skip
            refine g_icmp_ne_f 67 rfl C X183 at_64 hb190 ?_
            refine g_iconst 68 rfl C X183 (1 : Int32) at_67 rfl ?_
            refine g_goto 72 C X183 at_68 (by decide) (by decide) ?_
            refine g_istore 74 rfl C X183 (1 : Int32) rfl #[.val (.int p0), .val (.int p1), .val (.int r6), .val (.int (1 : Int32)), .val (.int v169), .val (.int r175), .val (.int (1 : Int32))] at_72 rfl ?_
            refine g_iloadN 75 rfl C X183 at_74 rfl ?_
            refine g_if_eq_f 78 rfl C X183 at_75 (by decide) ?_
            refine g_iload 80 rfl C X183 at_78 rfl ?_
            refine g_if_eq_f 83 rfl C X183 at_80 (by decide) ?_
            refine g_iconst 84 rfl C X183 (1 : Int32) at_83 rfl ?_
            refine g_goto 88 C X183 at_84 (by decide) (by decide) ?_
            exact g_retN C X183 (z' := (1 : Int32)) rfl (Or.inl rfl) at_88 eh188 (by decide) (by decide) rfl ⟨rfl, N189⟩
          · skip
            refine g_icmp_ne_t 71 C X183 at_64 (by decide) (by decide) hb190 ?_
            refine g_iconst 72 rfl C X183 (0 : Int32) at_71 rfl ?_
            refine g_istore 74 rfl C X183 (0 : Int32) rfl #[.val (.int p0), .val (.int p1), .val (.int r6), .val (.int (1 : Int32)), .val (.int v169), .val (.int r175), .val (.int (0 : Int32))] at_72 rfl ?_
            refine g_iloadN 75 rfl C X183 at_74 rfl ?_
            refine g_if_eq_f 78 rfl C X183 at_75 (by decide) ?_
            refine g_iload 80 rfl C X183 at_78 rfl ?_
            refine g_if_eq_t 87 C X183 at_80 (by decide) (by decide) (by decide) ?_
            refine g_iconst 88 rfl C X183 (0 : Int32) at_87 rfl ?_
            exfalso
            have fr191 := rng32 p0
            have fr192 := rng32 r6
            have fc193 : (-1 : Int32).toInt = -1 := rfl
            have fc194 : (128 : Int32).toInt = 128 := rfl
            have fc195 : (255 : Int32).toInt = 255 := rfl
            have fo196 := c_i2b r6
            have fr197 := rng32 r163
            have fr198 := rng32 v169
            have fr199 := rng32 p1
            have fc200 : (127 : Int32).toInt = 127 := rfl
            have fo201 : (p1 &&& (127 : Int32)).toInt = p1.toInt % 128 := c_mask p1 (127 : Int32) 7 (by decide) (by decide)
            have fo202 := c_or (128 : Int32) (p1 &&& (127 : Int32)) 7 (by decide) 128 (by decide) (by omega) (by omega) (by omega)
            have fr203 := rng32 ((128 : Int32) ||| (p1 &&& (127 : Int32)))
            have fe204 : ((128 : Int32) ||| (p1 &&& (127 : Int32))).toInt = v169.toInt := congrArg Int32.toInt hv169
            have fo205 := c_i2b v169
            have fr206 := rng32 r175
            have fr207 := rng32 r185
            have fc208 : (1 : Int32).toInt = 1 := rfl
            have fc209 : (0 : Int32).toInt = 0 := rfl
            omega
        · skip
          refine g_icmp_ne_t 37 C X161 at_30 (by decide) (by decide) hb168 ?_
          refine g_iconst 38 rfl C X161 (0 : Int32) at_37 rfl ?_
          refine g_istoreN 39 rfl C X161 (0 : Int32) rfl #[.val (.int p0), .val (.int p1), .val (.int r6), .val (.int (0 : Int32)), .unset, .unset, .unset] at_38 rfl ?_
          refine g_sipush 42 rfl C X161 (128 : Int32) at_39 rfl ?_
          refine g_iloadN 43 rfl C X161 at_42 rfl ?_
          refine g_bipush 45 rfl C X161 (127 : Int32) at_43 rfl ?_
          refine g_iand 46 rfl C X161 at_45 ?_
          refine g_ior 47 rfl C X161 at_46 ?_
          obtain ⟨v210, hv210⟩ : ∃ z : Int32, ((128 : Int32) ||| (p1 &&& (127 : Int32))) = z := ⟨_, rfl⟩
          refine g_istore 49 rfl C X161 v210 hv210 #[.val (.int p0), .val (.int p1), .val (.int r6), .val (.int (0 : Int32)), .val (.int v210), .unset, .unset] at_47 rfl ?_
          refine g_iload 51 rfl C X161 at_49 rfl ?_
          refine g_i2b 52 rfl C X161 at_51 ?_
          refine g_callS 55 rfl C X161 (argsL := [(.int ((v210).toInt8.toInt32))]) (hw _ (List.mem_of_getElem? (i := 5) rfl)) (hw _ (List.mem_of_getElem? (i := 6) rfl)) (hw _ (List.mem_of_getElem? (i := 7) rfl)) (hw _ (List.mem_of_getElem? (i := 2) rfl)) eh166 (rm2 l Z a0 hw [] ((v210).toInt8.toInt32) h0 n0 Z0) (lenOf pd_52561151 rfl) (by decide) (by decide) (by decide) (by decide) rfl (W := 0) (by decide) (by decide) at_52 rfl fun r211 T212 Lc213 X214 hQ215 => ?_
          obtain ⟨r216, rfl, hs217, Nq218, eh219⟩ := hQ215
          have N220 := Fr.app N167 Nq218
          show Goes _ _ _ _ _ _ 55 _ [(.int r216)]
          refine g_istore 57 rfl C X214 r216 rfl #[.val (.int p0), .val (.int p1), .val (.int r6), .val (.int (0 : Int32)), .val (.int v210), .val (.int r216), .unset] at_55 rfl ?_
          refine g_iload 59 rfl C X214 at_57 rfl ?_
          refine g_callS 62 rfl C X214 (argsL := [(.int r216)]) (hw _ (List.mem_of_getElem? (i := 0) rfl)) (hw _ (List.mem_of_getElem? (i := 1) rfl)) (hw _ (List.mem_of_getElem? (i := 3) rfl)) (hw _ (List.mem_of_getElem? (i := 2) rfl)) eh219 (rm1 l Z a0 hw [] r216 h0 n0 Z0) (lenOf pd_52681284 rfl) (by decide) (by decide) (by decide) (by decide) rfl (W := 0) (by decide) (by decide) at_59 rfl fun r221 T222 Lc223 X224 hQ225 => ?_
          obtain ⟨r226, rfl, hs227, Nq228, eh229⟩ := hQ225
          have N230 := Fr.app N220 Nq228
          show Goes _ _ _ _ _ _ 62 _ [(.int r226)]
          refine g_iload 64 rfl C X224 at_62 rfl ?_
          by_cases hb231 : r226.toInt = v210.toInt
          · skip
            refine g_icmp_ne_f 67 rfl C X224 at_64 hb231 ?_
            refine g_iconst 68 rfl C X224 (1 : Int32) at_67 rfl ?_
            refine g_goto 72 C X224 at_68 (by decide) (by decide) ?_
            refine g_istore 74 rfl C X224 (1 : Int32) rfl #[.val (.int p0), .val (.int p1), .val (.int r6), .val (.int (0 : Int32)), .val (.int v210), .val (.int r216), .val (.int (1 : Int32))] at_72 rfl ?_
            refine g_iloadN 75 rfl C X224 at_74 rfl ?_
            refine g_if_eq_t 87 C X224 at_75 (by decide) (by decide) (by decide) ?_
            refine g_iconst 88 rfl C X224 (0 : Int32) at_87 rfl ?_
            exfalso
            have fr232 := rng32 p0
            have fr233 := rng32 r6
            have fc234 : (-1 : Int32).toInt = -1 := rfl
            have fc235 : (128 : Int32).toInt = 128 := rfl
            have fc236 : (255 : Int32).toInt = 255 := rfl
            have fo237 := c_i2b r6
            have fr238 := rng32 r163
            have fr239 := rng32 v210
            have fr240 := rng32 p1
            have fc241 : (127 : Int32).toInt = 127 := rfl
            have fo242 : (p1 &&& (127 : Int32)).toInt = p1.toInt % 128 := c_mask p1 (127 : Int32) 7 (by decide) (by decide)
            have fo243 := c_or (128 : Int32) (p1 &&& (127 : Int32)) 7 (by decide) 128 (by decide) (by omega) (by omega) (by omega)
            have fr244 := rng32 ((128 : Int32) ||| (p1 &&& (127 : Int32)))
            have fe245 : ((128 : Int32) ||| (p1 &&& (127 : Int32))).toInt = v210.toInt := congrArg Int32.toInt hv210
            have fo246 := c_i2b v210
            have fr247 := rng32 r216
            have fr248 := rng32 r226
            have fc249 : (0 : Int32).toInt = 0 := rfl
            omega
          · skip
            refine g_icmp_ne_t 71 C X224 at_64 (by decide) (by decide) hb231 ?_
            refine g_iconst 72 rfl C X224 (0 : Int32) at_71 rfl ?_
            refine g_istore 74 rfl C X224 (0 : Int32) rfl #[.val (.int p0), .val (.int p1), .val (.int r6), .val (.int (0 : Int32)), .val (.int v210), .val (.int r216), .val (.int (0 : Int32))] at_72 rfl ?_
            refine g_iloadN 75 rfl C X224 at_74 rfl ?_
            refine g_if_eq_t 87 C X224 at_75 (by decide) (by decide) (by decide) ?_
            refine g_iconst 88 rfl C X224 (0 : Int32) at_87 rfl ?_
            exfalso
            have fr250 := rng32 p0
            have fr251 := rng32 r6
            have fc252 : (-1 : Int32).toInt = -1 := rfl
            have fc253 : (128 : Int32).toInt = 128 := rfl
            have fc254 : (255 : Int32).toInt = 255 := rfl
            have fo255 := c_i2b r6
            have fr256 := rng32 r163
            have fr257 := rng32 v210
            have fr258 := rng32 p1
            have fc259 : (127 : Int32).toInt = 127 := rfl
            have fo260 : (p1 &&& (127 : Int32)).toInt = p1.toInt % 128 := c_mask p1 (127 : Int32) 7 (by decide) (by decide)
            have fo261 := c_or (128 : Int32) (p1 &&& (127 : Int32)) 7 (by decide) 128 (by decide) (by omega) (by omega) (by omega)
            have fr262 := rng32 ((128 : Int32) ||| (p1 &&& (127 : Int32)))
            have fe263 : ((128 : Int32) ||| (p1 &&& (127 : Int32))).toInt = v210.toInt := congrArg Int32.toInt hv210
            have fo264 := c_i2b v210
            have fr265 := rng32 r216
            have fr266 := rng32 r226
            have fc267 : (0 : Int32).toInt = 0 := rfl
            omega
set_option maxRecDepth 65536 in
set_option maxHeartbeats 40000000 in
theorem comes_1 {Post : Tables → Env → Array Value → State → Outcome → State → Prop} (hpost : ∀ tb e args s v u, (limb_1_1.after args s (.returned v) u = true ∧ limb_1_2.after args s (.returned v) u = true ∧ True) → FrameEnd s (.returned v) u (Jvm.fieldLocs frame_1_writes args s ++ Jvm.arrayLocs frame_1_arrays args s ++ Jvm.staticLocs frame_1_statics s) 0 0 → Post tb e args s (.returned v) u) :
    ArmFor flags0 classFile x code maxLocals ret World_1 tables_1 room_1 Calls_1 rest_1 Pre_1 Post := by
  intro l hfl _ _ p e ha hc hk s m args below hf hA hF happ hP
  obtain ⟨hcalls, hrest, hpre⟩ := hP
  obtain ⟨-, -, -, hnamed, -, -, -, hat⟩ := (Spec.applies_iff hf).mp happ
  obtain ⟨hg, hn⟩ := and_e (Cond.before_iff.mp (show (Jvm.Cond.and given_1 narrow_1).before args s = true from hpre))
  obtain ⟨g1, g2⟩ := and_e hg
  obtain ⟨g3, g4⟩ := and_e g2
  obtain ⟨w0, w1, rfl⟩ : ∃ w0 w1 : Value, args = #[w0, w1] := by
    have hs : args.size = 2 := by simpa [Cond.value, given_1] using g1
    obtain ⟨L⟩ := args
    match L, hs with
    | [w0, w1], _ => exact ⟨w0, w1, rfl⟩
  have hw := fun d (hd : d ∈ tables_1) => atoms_spec (ws := Jvm.Cond.code x code maxLocals ret :: tables_1) hat d (List.mem_cons_of_mem _ hd)
  obtain ⟨i0, ei0⟩ := is_v g3
  obtain rfl : w0 = (.int i0) := Option.some.inj ei0
  obtain ⟨i1, ei1⟩ := is_v g4
  obtain rfl : w1 = (.int i1) := Option.some.inj ei1
  obtain ⟨n, o, h1, h2, h3, _, L, rfl, ⟨rfl, N⟩, hq⟩ := rm0 l s _ hw tables_1 i0 i1 s.heap s.heap.size (Nat.le_refl _) p e ha hc hk s m _ below hf ((Spec.applies_iff_loose hf).mp happ).1 ⟨rfl, State.Warmed39.refl s, rfl⟩ trivial
  refine ⟨n, _, h1, h2, h3, hpost _ _ _ _ _ _ ⟨Cond.after_iff.mpr rfl, Cond.after_iff.mpr (eq_i res_at (Term.int_eval (1)) rfl), trivial⟩ ⟨hq.1, hq.2.1, (hq.2.2.sift fun y hy => Or.inr (N y hy)).mono (by decide) (by decide)⟩⟩
theorem main_1_1 : Claimed_1_1 := comes_1 fun _ _ _ _ _ _ h hF => ⟨h.1, hF⟩
theorem main_1_2 : Claimed_1_2 := comes_1 fun _ _ _ _ _ _ h hF => ⟨h.2.1, hF⟩
end Jvm.Pilot.@@N@@
namespace Jvm.Pilot.@@N@@
open Jvm Jvm.ClassFile Sem Op Lib Jvm.Free Jvm.Stand Jvm.Pilot.@@N@@.Jvm.D
/-! MADE BY PROGRAM (witnessworld.py) out of the Statement's table words and the real class files: 9 classes; the members and pool entries that the words name. The judged class is class 1, her method 1. -/
namespace start1
open Jvm.ClassFile
def u (s : String) : CpInfo := .utf8 (stringToUtf16 s)
/-- a pool by its gaps: so many unusable entries, then the entry; so many at the end -/
def gap : Nat → List CpInfo → List CpInfo
  | 0, r => r
  | n + 1, r => .unusable :: gap n r
def poolList (es : List (Nat × CpInfo)) (last : Nat) : List CpInfo := es.foldr (fun e r => gap e.1 (e.2 :: r)) (gap last [])
def pool (es : List (Nat × CpInfo)) (last : Nat) : Array CpInfo := ⟨poolList es last⟩
def fileOf (pool : Array CpInfo) (this : Nat) (attrs : Array Attribute := #[]) (ms : Array MethodInfo := #[]) (fl : Nat := 33) (sup : Nat := 0) (ifs : Array Nat := #[]) (fds : Array FieldInfo := #[]) : ClassFile where
  minorVersion := 0
  majorVersion := 65
  constantPool := pool
  accessFlags := fl
  thisClass := this
  superClass := sup
  interfaces := ifs
  fields := fds
  methods := ms
  attributes := attrs
def plain (name : String) (sup : Option ClassId) : Class where
  name := name
  kind := .ordinary
  loader := none
  accessFlags := 33
  super := sup
  interfaces := #[]
  cf := none
  fields := #[]
  methods := #[]
  instanceTypes := #[]
  staticTypes := #[]
  resolved := #[]
  callSites := []
  init := .initialized
  statics := none
  mirror := none

def pool0 : Array CpInfo := pool [(5, u "<init>"), (0, u "()V"), (1, .class_ 10), (1, u "java/lang/Object")] 113

def k0m0 : Method := { name := "<init>", desc := "()V", sig := { parameters := [], returnType := none }, accessFlags := 1, code := none }
/-- java/lang/Object -/
def k0 : Class := { plain "java/lang/Object" none with
  accessFlags := 33
  interfaces := #[]
  cf := some (fileOf pool0 8 #[] #[{ accessFlags := 1, nameIndex := 5, descriptorIndex := 6, attributes := #[] }] 33 0 #[] #[])
  fields := #[]
  methods := #[k0m0]
  instanceTypes := #[]
  staticTypes := #[]
  resolved := Array.replicate 124 none
  statics := none }

def pool1 : Array CpInfo := pool [(2, .class_ 4), (1, u "java/lang/Object"), (0, u "<init>"), (0, u "()V"), (0, .methodref 8 9), (0, .class_ 10), (0, .nameAndType 11 12), (0, u "com/example/bot_rules/botrules/model/UrlPath"), (0, u "markedOctet"), (0, u "(I)I"), (0, .methodref 8 14), (0, .nameAndType 15 16), (0, u "octetMark"), (0, u "(B)C"), (0, .class_ 18), (0, u "com/example/bot_rules/botrules/model/UrlPathMarkedOctetPinLaw"), (2, u "law"), (0, u "(II)Z")] 3

def k1m0 : Method := { name := "<init>", desc := "()V", sig := { parameters := [], returnType := none }, accessFlags := 2, code := none }
def k1c1 : Code := { maxStack := 3, maxLocals := 7, code := code, exceptionTable := #[], attributes := #[] }
def k1m1 : Method := { name := "law", desc := "(II)Z", sig := { parameters := [.int, .int], returnType := some .boolean }, accessFlags := 9, code := some k1c1 }
/-- com/example/bot_rules/botrules/model/UrlPathMarkedOctetPinLaw -/
def k1 : Class := { plain "com/example/bot_rules/botrules/model/UrlPathMarkedOctetPinLaw" (some 0) with
  accessFlags := 49
  interfaces := #[]
  cf := some (fileOf pool1 17 #[] #[{ accessFlags := 2, nameIndex := 5, descriptorIndex := 6, attributes := #[] }, { accessFlags := 9, nameIndex := 21, descriptorIndex := 22, attributes := #[] }] 49 2 #[] #[])
  fields := #[]
  methods := #[k1m0, k1m1]
  instanceTypes := #[]
  staticTypes := #[]
  resolved := Array.replicate 26 none
  statics := none }

def pool2 : Array CpInfo := pool [(2, .class_ 4), (1, u "java/lang/Object"), (3, .class_ 10), (1, u "com/example/bot_rules/botrules/model/UrlPath"), (0, u "units"), (0, u "[I"), (45, .integer 56320), (0, .integer 56448), (0, .integer 56575), (14, u "markedOctet"), (0, u "(I)I"), (55, u "ENCODED"), (0, u "I"), (2, u "REPLACEMENT"), (0, u "Ljava/lang/String;"), (0, u "MARKS"), (0, u "FIRST_MARKED"), (5, u "octetMark"), (0, u "(B)C")] 24

def k2c0 : Code := { maxStack := 3, maxLocals := 1, code := prog_42_method_4_code, exceptionTable := #[], attributes := #[] }
def k2m0 : Method := { name := "octetMark", desc := "(B)C", sig := { parameters := [.byte], returnType := some .char }, accessFlags := 9, code := some k2c0 }
def k2c1 : Code := { maxStack := 2, maxLocals := 2, code := prog_42_method_5_code, exceptionTable := #[], attributes := #[] }
def k2m1 : Method := { name := "markedOctet", desc := "(I)I", sig := { parameters := [.int], returnType := some .int }, accessFlags := 9, code := some k2c1 }
/-- com/example/bot_rules/botrules/model/UrlPath -/
def k2 : Class := { plain "com/example/bot_rules/botrules/model/UrlPath" (some 0) with
  accessFlags := 49
  interfaces := #[]
  cf := some (fileOf pool2 8 #[] #[{ accessFlags := 9, nameIndex := 145, descriptorIndex := 146, attributes := #[] }, { accessFlags := 9, nameIndex := 75, descriptorIndex := 76, attributes := #[] }] 49 2 #[] #[{ accessFlags := 24, nameIndex := 132, descriptorIndex := 133, attributes := #[] }, { accessFlags := 26, nameIndex := 136, descriptorIndex := 137, attributes := #[] }, { accessFlags := 26, nameIndex := 138, descriptorIndex := 133, attributes := #[] }, { accessFlags := 26, nameIndex := 139, descriptorIndex := 133, attributes := #[] }, { accessFlags := 18, nameIndex := 11, descriptorIndex := 12, attributes := #[] }])
  fields := #[{ name := "ENCODED", type := .int, accessFlags := 24, slot := 0, constantValue := 0 }, { name := "REPLACEMENT", type := (.object "java/lang/String"), accessFlags := 26, slot := 1, constantValue := 0 }, { name := "MARKS", type := .int, accessFlags := 26, slot := 2, constantValue := 0 }, { name := "FIRST_MARKED", type := .int, accessFlags := 26, slot := 3, constantValue := 0 }, { name := "units", type := (.array .int), accessFlags := 18, slot := 0, constantValue := 0 }]
  methods := #[k2m0, k2m1]
  instanceTypes := #[(.array .int)]
  staticTypes := #[.int, (.object "java/lang/String"), .int, .int]
  resolved := Array.replicate 171 none
  statics := none }

def pool3 : Array CpInfo := pool [(1, u "java/lang/Cloneable"), (0, .class_ 1), (0, u "java/lang/Object"), (0, .class_ 3)] 3

/-- java/lang/Cloneable -/
def k3 : Class := { plain "java/lang/Cloneable" (some 0) with
  accessFlags := 1537
  interfaces := #[]
  cf := some (fileOf pool3 2 #[] #[] 1537 4 #[] #[])
  fields := #[]
  methods := #[]
  instanceTypes := #[]
  staticTypes := #[]
  resolved := Array.replicate 8 none
  statics := none }

def pool4 : Array CpInfo := pool [(1, u "java/io/Serializable"), (0, .class_ 1), (0, u "java/lang/Object"), (0, .class_ 3)] 3

/-- java/io/Serializable -/
def k4 : Class := { plain "java/io/Serializable" (some 0) with
  accessFlags := 1537
  interfaces := #[]
  cf := some (fileOf pool4 2 #[] #[] 1537 4 #[] #[])
  fields := #[]
  methods := #[]
  instanceTypes := #[]
  staticTypes := #[]
  resolved := Array.replicate 8 none
  statics := none }

/-- the primitive byte -/
def k5 : Class := { plain "byte" none with kind := .primitive 'B', accessFlags := 0x411 }
/-- [B -/
def k6 : Class := { plain "[B" (some 0) with kind := .array 5 .byte, interfaces := #[3, 4], accessFlags := 1041 }

/-- the primitive int -/
def k7 : Class := { plain "int" none with kind := .primitive 'I', accessFlags := 0x411 }
/-- [I -/
def k8 : Class := { plain "[I" (some 0) with kind := .array 7 .int, interfaces := #[3, 4], accessFlags := 1041 }

def heap : Heap := #[]
def classes : Array Class := #[k0, k1, k2, k3, k4, k5, k6, k7, k8]
def interned : List (Array UInt16 × Addr) := []
def slotsUsed : Nat := 0
def theMethod : MethodId := ⟨1, 1⟩
def args0 : Array Value := #[.int 5, .int 7]
def aboutOver (below : List Frame) : State where
  vm := { classes := classes, interned := interned.toArray }
  heap := heap
  slotsUsed := slotsUsed
  threads := #[{ frames := .invoking theMethod args0 :: below }]
def below0 : List Frame := [.native { method := ⟨0, 0⟩, args := #[] }]
def about1 : State := aboutOver below0
def p0 : Program := .bare "" "" ""
def e0 : Env := launch0.env 0 0 0
theorem w_frames : about1.frames = Frame.invoking theMethod args0 :: below0 := rfl
set_option maxRecDepth 65536 in
theorem w_args : argsFit about1.vm theMethod args0 = true := by decide +kernel
set_option maxRecDepth 65536 in
theorem w_heap : heapFits about1 = true := by decide +kernel
set_option maxRecDepth 65536 in
theorem w_runnable : about1.curStatus? = some .runnable := by decide +kernel
set_option maxRecDepth 65536 in
theorem w_alone : about1.alone = true := by decide +kernel
set_option maxRecDepth 65536 in
theorem w_named : about1.methodNamed? x = some theMethod := by decide +kernel
set_option maxRecDepth 65536 in
theorem w_hears : about1.hears theMethod below0 = true := by decide +kernel
set_option maxRecDepth 65536 in
theorem w_ripe : about1.ripe theMethod args0 below0 = true := by decide +kernel
theorem w_running : about1.status = .running := rfl
set_option maxRecDepth 65536 in
theorem w_room : about1.hasRoom e0.platform room_1 = true :=
  launch0.hasRoom_least _ room_1 (by decide +kernel) (by decide +kernel) (by decide +kernel) (by decide +kernel) (by decide +kernel) (by decide +kernel)
theorem allAtoms_all (ts : List Jvm.Cond) (a : Array Jvm.Value) (st : Jvm.State) : (allAtoms ts).before a st = ts.all (fun c => c.before a st) := by
  induction ts with
  | nil => rfl
  | cons c t ih =>
    show (Jvm.Cond.and c (allAtoms t)).before a st = _
    rw [Jvm.Cond.before_and, ih, List.all_cons]
def words1 : List Jvm.Cond := Jvm.Cond.code x code maxLocals ret :: tables_1
/-- a 'code' word, met by the world's own term for the bytes: nothing is compared byte by byte -/
theorem code_word {y : MethodName} {bytes : ByteArray} {mx : Nat} {rt : Option FieldType} {a : Array Value} {s : State} {m : MethodId} {meth : Method} {c : Code} (h1 : s.methodNamed? y = some m) (h2 : s.vm.method? m = some meth) (h3 : meth.code = some c) (h4 : c.code = bytes)
    (h5 : (c.maxLocals == mx && c.exceptionTable.isEmpty && decide (c.maxStack ≤ mostOperands) && decide (meth.sig.returnType = rt) && !meth.locks && decide (parseMethodDescriptor y.desc = some meth.sig)) = true) : (Jvm.Cond.code y bytes mx rt).before a s = true := by
  simp only [Bool.and_eq_true, beq_iff_eq, Bool.not_eq_true', decide_eq_true_eq] at h5
  obtain ⟨⟨⟨⟨⟨g1, g2⟩, g3⟩, g4⟩, g5⟩, g6⟩ := h5
  simp [Cond.before, Cond.holds, Cond.value, h1, h2, h3, h4, g1, g2, g3, g4, g5, g6]
def isCode : Jvm.Cond → Bool
  | .code _ _ _ _ => true
  | _ => false
theorem all_split {L : List Jvm.Cond} {P : Jvm.Cond → Bool} (h1 : L.all (fun c => isCode c || P c) = true) (h2 : ∀ c ∈ L.filter isCode, P c = true) : L.all P = true := by
  refine List.all_eq_true.mpr fun c hc => ?_
  have h := List.all_eq_true.mp h1 c hc
  rcases Bool.eq_false_or_eq_true (isCode c) with hi | hi
  · exact h2 c (List.mem_filter.mpr ⟨hc, hi⟩)
  · simpa [hi] using h
set_option maxRecDepth 65536 in
theorem w_c0 : (Jvm.Cond.code x code maxLocals ret).before args0 about1 = true := code_word (m := ⟨1, 1⟩) (meth := k1m1) (c := k1c1) (by decide +kernel) rfl rfl rfl (by decide +kernel)
set_option maxRecDepth 65536 in
theorem w_c1 : (Jvm.Cond.code ({ cls := "com/example/bot_rules/botrules/model/UrlPath", name := "markedOctet", desc := "(I)I" } : Jvm.MethodName) prog_42_method_5_code (2 : Nat) (Option.some Jvm.ClassFile.FieldType.int)).before args0 about1 = true := code_word (m := ⟨2, 1⟩) (meth := k2m1) (c := k2c1) (by decide +kernel) rfl rfl rfl (by decide +kernel)
set_option maxRecDepth 65536 in
theorem w_c2 : (Jvm.Cond.code ({ cls := "com/example/bot_rules/botrules/model/UrlPath", name := "octetMark", desc := "(B)C" } : Jvm.MethodName) prog_42_method_4_code (1 : Nat) (Option.some Jvm.ClassFile.FieldType.char)).before args0 about1 = true := code_word (m := ⟨2, 0⟩) (meth := k2m0) (c := k2c0) (by decide +kernel) rfl rfl rfl (by decide +kernel)
def codes1 : List Jvm.Cond := [Jvm.Cond.code x code maxLocals ret, Jvm.Cond.code ({ cls := "com/example/bot_rules/botrules/model/UrlPath", name := "markedOctet", desc := "(I)I" } : Jvm.MethodName) prog_42_method_5_code (2 : Nat) (Option.some Jvm.ClassFile.FieldType.int), Jvm.Cond.code ({ cls := "com/example/bot_rules/botrules/model/UrlPath", name := "octetMark", desc := "(B)C" } : Jvm.MethodName) prog_42_method_4_code (1 : Nat) (Option.some Jvm.ClassFile.FieldType.char)]
set_option maxRecDepth 65536 in
theorem codes_eq : words1.filter isCode = codes1 := rfl
theorem w_codes : ∀ c ∈ words1.filter isCode, c.before args0 about1 = true := by
  rw [codes_eq]
  intro c hc
  simp only [codes1, List.mem_cons, List.not_mem_nil, or_false] at hc
  rcases hc with rfl | rfl | rfl
  · exact w_c0
  · exact w_c1
  · exact w_c2
set_option maxRecDepth 65536 in
theorem w_t1 : words1.all (fun c => isCode c || c.before args0 about1) = true := by decide +kernel
theorem w_tables : (allAtoms (Jvm.Cond.code x code maxLocals ret :: tables_1)).before args0 about1 = true := by
  rw [allAtoms_all]
  show words1.all (fun c => c.before args0 about1) = true
  refine all_split ?_ w_codes
  rw [w_t1]
set_option maxRecDepth 65536 in
theorem w_case : (Jvm.Cond.and given_1 narrow_1).before args0 about1 = true := by decide +kernel
theorem w_applies : (headSpec (Jvm.Cond.code x code maxLocals ret :: tables_1) room_1).applies x e0.platform about1 = true :=
  (Spec.applies_iff w_frames).mpr ⟨w_running, w_runnable, w_alone, w_named, w_hears, w_ripe, w_room, w_tables⟩
theorem atStart : AtStart classFile x code maxLocals ret World_1 tables_1 room_1 Calls_1 rest_1 Pre_1 launch0 p0 e0 about1 theMethod args0 below0 :=
  ⟨lists_1, trivial, launch0.admits_env _ _ _, launch0.least_env, fairChoices_fair.cas, fairChoices_fair.clock, w_frames, w_args, w_heap, w_applies, trivial, trivial, w_case⟩
end start1
theorem witness_1 : WitnessClaimed_1 := ⟨start1.p0, start1.e0, start1.about1, start1.theMethod, start1.args0, start1.below0, start1.atStart⟩
end Jvm.Pilot.@@N@@
