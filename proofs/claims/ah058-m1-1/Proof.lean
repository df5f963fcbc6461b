import JvmDerived
import JvmDerived.Pilot.@@N@@Statement
import JvmDerived.Pilot.@@N@@Code
set_option linter.unusedVariables false
set_option linter.unusedSimpArgs false
namespace Jvm.Pilot.@@N@@
open Jvm Jvm.ClassFile Sem Op Lib Jvm.Free Jvm.Stand Jvm.LawKit Jvm.RoadKit Bundle Jvm.Pilot.@@N@@.Jvm.D
section Own
set_option maxHeartbeats 4000000
variable {p : Program} {l : Launch} {e : Env} {R : Room} {s : State} {m : MethodId} {args : Array Value} {below : List Frame} {meth : Method} {c : Code} {T : State} {locs : List Loc} {cells slots : Nat} {Z : State} {a0 : Array Value} {h : Heap} {own nm : String} {bytes : ByteArray} {ml : Nat} {rt : Option FieldType} {Q : Option Value → Heap → List Loc → Prop} {CC SS : Nat} {E : Outcome → State → Prop} {pc : Nat} {Ls : Array Slot} {St : List Value}
def Ctx (p : Program) (s : State) (m : MethodId) (meth : Method) (c : Code) (Z : State) (own nm : String) (bytes : ByteArray) (ml : Nat) (rt : Option FieldType) : Prop :=
  p.tables.exec = Jvm.exec ∧ Z.Warmed39 s.vm ∧ c.code = bytes ∧ c.maxLocals = ml ∧ s.vm.findClass own = some m.cls ∧ meth.locks = false ∧ meth.sig.returnType = rt ∧ meth.name = nm
theorem Ctx.c_x (C : Ctx p s m meth c Z own nm bytes ml rt) : p.tables.exec = Jvm.exec := C.1
theorem Ctx.c_z (C : Ctx p s m meth c Z own nm bytes ml rt) : Z.Warmed39 s.vm := C.2.1
theorem Ctx.c_by (C : Ctx p s m meth c Z own nm bytes ml rt) : c.code = bytes := C.2.2.1
theorem Ctx.c_ml (C : Ctx p s m meth c Z own nm bytes ml rt) : c.maxLocals = ml := C.2.2.2.1
theorem Ctx.c_own (C : Ctx p s m meth c Z own nm bytes ml rt) : s.vm.findClass own = some m.cls := C.2.2.2.2.1
theorem Ctx.c_lk (C : Ctx p s m meth c Z own nm bytes ml rt) : meth.locks = false := C.2.2.2.2.2.1
theorem Ctx.c_rt (C : Ctx p s m meth c Z own nm bytes ml rt) : meth.sig.returnType = rt := C.2.2.2.2.2.2.1
theorem Ctx.c_nm (C : Ctx p s m meth c Z own nm bytes ml rt) : meth.name = nm := C.2.2.2.2.2.2.2
def EndN (s : State) (Q : Option Value → Heap → List Loc → Prop) (CC SS : Nat) (o : Outcome) (t : State) : Prop := ∃ v L, o = .returned v ∧ Q v t.heap L ∧ FrameEnd s o t L CC SS
def Goes (p : Program) (e : Env) (below : List Frame) (E : Outcome → State → Prop) (T : State) (m : MethodId) (pc : Nat) (Ls : Array Slot) (St : List Value) : Prop :=
  ∃ s₂ o, Steps p.tables e below (T.setTop (mkF m pc Ls St)) s₂ ∧ s₂.status = .running ∧ Ended s₂ below o ∧ E o s₂
theorem Goes.back {T' : State} {q : Nat} {Ls' : Array Slot} {St' : List Value} (k : Goes p e below E T' m q Ls' St') (f : ∀ t, Steps p.tables e below (T'.setTop (mkF m q Ls' St')) t → Steps p.tables e below (T.setTop (mkF m pc Ls St)) t) : Goes p e below E T m pc Ls St := by
  obtain ⟨s2, o, h1, h2⟩ := k
  exact ⟨s2, o, f _ h1, h2⟩
theorem Goes.enter {g : JFrame} (hg : g = mkF m 0 Ls []) (k : Goes p e below (EndN s Q CC SS) T m 0 Ls []) : ∃ s₂ o, Steps p.tables e below (T.setTop g) s₂ ∧ s₂.status = .running ∧ Ended s₂ below o ∧ ∃ v L, o = .returned v ∧ Q v s₂.heap L ∧ FrameEnd s o s₂ L CC SS := by
  subst hg
  exact k
theorem Ctx.of {x : MethodName} {S : Spec} {s₁ : State} (Bd : BodyLoose p l x S bytes ml rt e s m args below meth c s₁) (hml : c.maxLocals = ml) (hZ : Z.Warmed39 s.vm) : Ctx p s m meth c Z x.cls x.name bytes ml rt :=
  ⟨Bd.exec, hZ, Bd.bytes, hml, findClass_of_methodNamed Bd.named, Bd.notSynchronized, Bd.returns, (name_of_methodNamed Bd.named Bd.method).1⟩
theorem g_isub (q : Nat) (hq : pc + 1 = q) (C : Ctx p s m meth c Z own nm bytes ml rt) (X : Stand p l e R s m args below meth c T locs cells slots) {x y : Int32} (hd : decode bytes pc = .ok (.isub, 1)) (k : Goes p e below E T m q Ls (.int (x - y) :: St)) : Goes p e below E T m pc Ls (.int y :: .int x :: St) := by
  subst hq
  exact k.back fun t kt => XS.isub (g := mkF m pc Ls (.int y :: .int x :: St)) X.here C.c_x rfl (hb C.c_by hd) rfl kt
theorem g_iand (q : Nat) (hq : pc + 1 = q) (C : Ctx p s m meth c Z own nm bytes ml rt) (X : Stand p l e R s m args below meth c T locs cells slots) {x y : Int32} (hd : decode bytes pc = .ok (.iand, 1)) (k : Goes p e below E T m q Ls (.int (x &&& y) :: St)) : Goes p e below E T m pc Ls (.int y :: .int x :: St) := by
  subst hq
  exact k.back fun t kt => XS.iand (g := mkF m pc Ls (.int y :: .int x :: St)) X.here C.c_x rfl (hb C.c_by hd) rfl kt
theorem g_ior (q : Nat) (hq : pc + 1 = q) (C : Ctx p s m meth c Z own nm bytes ml rt) (X : Stand p l e R s m args below meth c T locs cells slots) {x y : Int32} (hd : decode bytes pc = .ok (.ior, 1)) (k : Goes p e below E T m q Ls (.int (x ||| y) :: St)) : Goes p e below E T m pc Ls (.int y :: .int x :: St) := by
  subst hq
  exact k.back fun t kt => XS.ior (g := mkF m pc Ls (.int y :: .int x :: St)) X.here C.c_x rfl (hb C.c_by hd) rfl kt
theorem g_i2c (q : Nat) (hq : pc + 1 = q) (C : Ctx p s m meth c Z own nm bytes ml rt) (X : Stand p l e R s m args below meth c T locs cells slots) {x : Int32} (hd : decode bytes pc = .ok (.i2c, 1)) (k : Goes p e below E T m q Ls (.int (x.toUInt32.toUInt16.toUInt32.toInt32) :: St)) : Goes p e below E T m pc Ls (.int x :: St) := by
  subst hq
  exact k.back fun t kt => XS.i2c (g := mkF m pc Ls (.int x :: St)) X.here C.c_x rfl (hb C.c_by hd) rfl kt
theorem g_iconst (q : Nat) (hq : pc + 1 = q) (C : Ctx p s m meth c Z own nm bytes ml rt) (X : Stand p l e R s m args below meth c T locs cells slots) {i : Int} (v : Int32) (hd : decode bytes pc = .ok (.iconst i, 1)) (hv : Int32.ofInt i = v) (k : Goes p e below E T m q Ls (.int v :: St)) : Goes p e below E T m pc Ls St := by
  subst hq
  exact k.back fun t kt => XS.iconst (g := mkF m pc Ls St) X.here C.c_x rfl (hb C.c_by hd) (by subst hv; exact kt)
theorem g_bipush (q : Nat) (hq : pc + 2 = q) (C : Ctx p s m meth c Z own nm bytes ml rt) (X : Stand p l e R s m args below meth c T locs cells slots) {i : Int} (v : Int32) (hd : decode bytes pc = .ok (.bipush i, 2)) (hv : (Int8.ofInt i).toInt32 = v) (k : Goes p e below E T m q Ls (.int v :: St)) : Goes p e below E T m pc Ls St := by
  subst hq
  exact k.back fun t kt => XS.bipush (g := mkF m pc Ls St) X.here C.c_x rfl (hb C.c_by hd) (by subst hv; exact kt)
theorem g_iloadN (q : Nat) (hq : pc + 1 = q) (C : Ctx p s m meth c Z own nm bytes ml rt) (X : Stand p l e R s m args below meth c T locs cells slots) {k0 : Fin 4} {v : Int32} (hd : decode bytes pc = .ok (.iload_n k0, 1)) (hl : Ls[k0.val]? = some (.val (.int v))) (k : Goes p e below E T m q Ls (.int v :: St)) : Goes p e below E T m pc Ls St := by
  subst hq
  exact k.back fun t kt => XS.iloadN (g := mkF m pc Ls St) X.here C.c_x rfl (hb C.c_by hd) hl kt
theorem g_iload (q : Nat) (hq : pc + 2 = q) (C : Ctx p s m meth c Z own nm bytes ml rt) (X : Stand p l e R s m args below meth c T locs cells slots) {k0 : Nat} {v : Int32} (hd : decode bytes pc = .ok (.iload k0, 2)) (hl : Ls[k0]? = some (.val (.int v))) (k : Goes p e below E T m q Ls (.int v :: St)) : Goes p e below E T m pc Ls St := by
  subst hq
  exact k.back fun t kt => XS.iload (g := mkF m pc Ls St) X.here C.c_x rfl (hb C.c_by hd) hl kt
theorem g_istoreN (q : Nat) (hq : pc + 1 = q) (C : Ctx p s m meth c Z own nm bytes ml rt) (X : Stand p l e R s m args below meth c T locs cells slots) {k0 : Fin 4} {x : Int32} (v : Int32) (hv : x = v) (Ls' : Array Slot) (hd : decode bytes pc = .ok (.istore_n k0, 1)) (hl : storeLocals Ls k0.val (.int v) = some Ls') (k : Goes p e below E T m q Ls' St) : Goes p e below E T m pc Ls (.int x :: St) := by
  subst hq
  exact k.back fun t kt => XS.istoreN (g := mkF m pc Ls (.int x :: St)) X.here C.c_x rfl (hb C.c_by hd) rfl (by subst hv; exact hl) kt
theorem g_istore (q : Nat) (hq : pc + 2 = q) (C : Ctx p s m meth c Z own nm bytes ml rt) (X : Stand p l e R s m args below meth c T locs cells slots) {k0 : Nat} {x : Int32} (v : Int32) (hv : x = v) (Ls' : Array Slot) (hd : decode bytes pc = .ok (.istore k0, 2)) (hl : storeLocals Ls k0 (.int v) = some Ls') (k : Goes p e below E T m q Ls' St) : Goes p e below E T m pc Ls (.int x :: St) := by
  subst hq
  exact k.back fun t kt => XS.istore (g := mkF m pc Ls (.int x :: St)) X.here C.c_x rfl (hb C.c_by hd) rfl (by subst hv; exact hl) kt
theorem g_goto (q : Nat) (C : Ctx p s m meth c Z own nm bytes ml rt) (X : Stand p l e R s m args below meth c T locs cells slots) {o : Int} (hd : decode bytes pc = .ok (.goto o, 3)) (ho : 0 ≤ (pc : Int) + o) (hp : ((pc : Int) + o).toNat = q) (k : Goes p e below E T m q Ls St) : Goes p e below E T m pc Ls St :=
  k.back fun t kt => XS.goto (g := mkF m pc Ls St) X.here C.c_x rfl (pc0 := pc) (pc' := q) rfl (hb C.c_by hd) ho hp kt
theorem own_z0 : (0 : Int32).toInt = 0 := rfl
theorem g_icmp_lt_t (q : Nat) (C : Ctx p s m meth c Z own nm bytes ml rt) (X : Stand p l e R s m args below meth c T locs cells slots) {o : Int} {x y : Int32} (hd : decode bytes pc = .ok (.if_icmp .lt o, 3)) (ho : 0 ≤ (pc : Int) + o) (hp : ((pc : Int) + o).toNat = q) (h : x.toInt < y.toInt) (k : Goes p e below E T m q Ls St) : Goes p e below E T m pc Ls (.int y :: .int x :: St) :=
  k.back fun t kt => XS.icmpYes (g := mkF m pc Ls (.int y :: .int x :: St)) X.here C.c_x rfl (pc0 := pc) (pc' := q) rfl (hb C.c_by hd) rfl (tlt (Int32.lt_iff_toInt_lt.mpr h)).1 ho hp kt
theorem g_icmp_lt_f (q : Nat) (hq : pc + 3 = q) (C : Ctx p s m meth c Z own nm bytes ml rt) (X : Stand p l e R s m args below meth c T locs cells slots) {o : Int} {x y : Int32} (hd : decode bytes pc = .ok (.if_icmp .lt o, 3)) (h : ¬ x.toInt < y.toInt) (k : Goes p e below E T m q Ls St) : Goes p e below E T m pc Ls (.int y :: .int x :: St) := by
  subst hq
  exact k.back fun t kt => XS.icmpNo (g := mkF m pc Ls (.int y :: .int x :: St)) X.here C.c_x rfl (hb C.c_by hd) rfl (flt (fun r => h (Int32.lt_iff_toInt_lt.mp r))).1 kt
theorem g_icmp_ge_t (q : Nat) (C : Ctx p s m meth c Z own nm bytes ml rt) (X : Stand p l e R s m args below meth c T locs cells slots) {o : Int} {x y : Int32} (hd : decode bytes pc = .ok (.if_icmp .ge o, 3)) (ho : 0 ≤ (pc : Int) + o) (hp : ((pc : Int) + o).toNat = q) (h : ¬ x.toInt < y.toInt) (k : Goes p e below E T m q Ls St) : Goes p e below E T m pc Ls (.int y :: .int x :: St) :=
  k.back fun t kt => XS.icmpYes (g := mkF m pc Ls (.int y :: .int x :: St)) X.here C.c_x rfl (pc0 := pc) (pc' := q) rfl (hb C.c_by hd) rfl (flt (fun r => h (Int32.lt_iff_toInt_lt.mp r))).2.1 ho hp kt
theorem g_icmp_ge_f (q : Nat) (hq : pc + 3 = q) (C : Ctx p s m meth c Z own nm bytes ml rt) (X : Stand p l e R s m args below meth c T locs cells slots) {o : Int} {x y : Int32} (hd : decode bytes pc = .ok (.if_icmp .ge o, 3)) (h : x.toInt < y.toInt) (k : Goes p e below E T m q Ls St) : Goes p e below E T m pc Ls (.int y :: .int x :: St) := by
  subst hq
  exact k.back fun t kt => XS.icmpNo (g := mkF m pc Ls (.int y :: .int x :: St)) X.here C.c_x rfl (hb C.c_by hd) rfl (tlt (Int32.lt_iff_toInt_lt.mpr h)).2.1 kt
theorem g_icmp_gt_t (q : Nat) (C : Ctx p s m meth c Z own nm bytes ml rt) (X : Stand p l e R s m args below meth c T locs cells slots) {o : Int} {x y : Int32} (hd : decode bytes pc = .ok (.if_icmp .gt o, 3)) (ho : 0 ≤ (pc : Int) + o) (hp : ((pc : Int) + o).toNat = q) (h : y.toInt < x.toInt) (k : Goes p e below E T m q Ls St) : Goes p e below E T m pc Ls (.int y :: .int x :: St) :=
  k.back fun t kt => XS.icmpYes (g := mkF m pc Ls (.int y :: .int x :: St)) X.here C.c_x rfl (pc0 := pc) (pc' := q) rfl (hb C.c_by hd) rfl (tlt (Int32.lt_iff_toInt_lt.mpr h)).2.2.1 ho hp kt
theorem g_icmp_gt_f (q : Nat) (hq : pc + 3 = q) (C : Ctx p s m meth c Z own nm bytes ml rt) (X : Stand p l e R s m args below meth c T locs cells slots) {o : Int} {x y : Int32} (hd : decode bytes pc = .ok (.if_icmp .gt o, 3)) (h : ¬ y.toInt < x.toInt) (k : Goes p e below E T m q Ls St) : Goes p e below E T m pc Ls (.int y :: .int x :: St) := by
  subst hq
  exact k.back fun t kt => XS.icmpNo (g := mkF m pc Ls (.int y :: .int x :: St)) X.here C.c_x rfl (hb C.c_by hd) rfl (flt (fun r => h (Int32.lt_iff_toInt_lt.mp r))).2.2.1 kt
theorem g_icmp_le_t (q : Nat) (C : Ctx p s m meth c Z own nm bytes ml rt) (X : Stand p l e R s m args below meth c T locs cells slots) {o : Int} {x y : Int32} (hd : decode bytes pc = .ok (.if_icmp .le o, 3)) (ho : 0 ≤ (pc : Int) + o) (hp : ((pc : Int) + o).toNat = q) (h : ¬ y.toInt < x.toInt) (k : Goes p e below E T m q Ls St) : Goes p e below E T m pc Ls (.int y :: .int x :: St) :=
  k.back fun t kt => XS.icmpYes (g := mkF m pc Ls (.int y :: .int x :: St)) X.here C.c_x rfl (pc0 := pc) (pc' := q) rfl (hb C.c_by hd) rfl (flt (fun r => h (Int32.lt_iff_toInt_lt.mp r))).2.2.2 ho hp kt
theorem g_icmp_le_f (q : Nat) (hq : pc + 3 = q) (C : Ctx p s m meth c Z own nm bytes ml rt) (X : Stand p l e R s m args below meth c T locs cells slots) {o : Int} {x y : Int32} (hd : decode bytes pc = .ok (.if_icmp .le o, 3)) (h : y.toInt < x.toInt) (k : Goes p e below E T m q Ls St) : Goes p e below E T m pc Ls (.int y :: .int x :: St) := by
  subst hq
  exact k.back fun t kt => XS.icmpNo (g := mkF m pc Ls (.int y :: .int x :: St)) X.here C.c_x rfl (hb C.c_by hd) rfl (tlt (Int32.lt_iff_toInt_lt.mpr h)).2.2.2 kt
theorem g_if_eq_t (q : Nat) (C : Ctx p s m meth c Z own nm bytes ml rt) (X : Stand p l e R s m args below meth c T locs cells slots) {o : Int} {x : Int32} (hd : decode bytes pc = .ok (.ifCond .eq o, 3)) (ho : 0 ≤ (pc : Int) + o) (hp : ((pc : Int) + o).toNat = q) (h : x.toInt = 0) (k : Goes p e below E T m q Ls St) : Goes p e below E T m pc Ls (.int x :: St) :=
  k.back fun t kt => XS.ifYes (g := mkF m pc Ls (.int x :: St)) X.here C.c_x rfl (pc0 := pc) (pc' := q) rfl (hb C.c_by hd) rfl ((if0 _ _).trans (teq (Int32.toInt_inj.mp h)).1) ho hp kt
theorem g_if_eq_f (q : Nat) (hq : pc + 3 = q) (C : Ctx p s m meth c Z own nm bytes ml rt) (X : Stand p l e R s m args below meth c T locs cells slots) {o : Int} {x : Int32} (hd : decode bytes pc = .ok (.ifCond .eq o, 3)) (h : ¬ x.toInt = 0) (k : Goes p e below E T m q Ls St) : Goes p e below E T m pc Ls (.int x :: St) := by
  subst hq
  exact k.back fun t kt => XS.ifNo (g := mkF m pc Ls (.int x :: St)) X.here C.c_x rfl (hb C.c_by hd) rfl ((if0 _ _).trans (feq (fun r => h (congrArg Int32.toInt r))).1) kt
theorem g_icmp_ne_t (q : Nat) (C : Ctx p s m meth c Z own nm bytes ml rt) (X : Stand p l e R s m args below meth c T locs cells slots) {o : Int} {x y : Int32} (hd : decode bytes pc = .ok (.if_icmp .ne o, 3)) (ho : 0 ≤ (pc : Int) + o) (hp : ((pc : Int) + o).toNat = q) (h : ¬ x.toInt = y.toInt) (k : Goes p e below E T m q Ls St) : Goes p e below E T m pc Ls (.int y :: .int x :: St) :=
  k.back fun t kt => XS.icmpYes (g := mkF m pc Ls (.int y :: .int x :: St)) X.here C.c_x rfl (pc0 := pc) (pc' := q) rfl (hb C.c_by hd) rfl (feq (fun r => h (congrArg Int32.toInt r))).2 ho hp kt
theorem g_if_ne_t (q : Nat) (C : Ctx p s m meth c Z own nm bytes ml rt) (X : Stand p l e R s m args below meth c T locs cells slots) {o : Int} {x : Int32} (hd : decode bytes pc = .ok (.ifCond .ne o, 3)) (ho : 0 ≤ (pc : Int) + o) (hp : ((pc : Int) + o).toNat = q) (h : ¬ x.toInt = 0) (k : Goes p e below E T m q Ls St) : Goes p e below E T m pc Ls (.int x :: St) :=
  k.back fun t kt => XS.ifYes (g := mkF m pc Ls (.int x :: St)) X.here C.c_x rfl (pc0 := pc) (pc' := q) rfl (hb C.c_by hd) rfl ((if0 _ _).trans (feq (fun r => h (congrArg Int32.toInt r))).2) ho hp kt
theorem g_icmp_ne_f (q : Nat) (hq : pc + 3 = q) (C : Ctx p s m meth c Z own nm bytes ml rt) (X : Stand p l e R s m args below meth c T locs cells slots) {o : Int} {x y : Int32} (hd : decode bytes pc = .ok (.if_icmp .ne o, 3)) (h : x.toInt = y.toInt) (k : Goes p e below E T m q Ls St) : Goes p e below E T m pc Ls (.int y :: .int x :: St) := by
  subst hq
  exact k.back fun t kt => XS.icmpNo (g := mkF m pc Ls (.int y :: .int x :: St)) X.here C.c_x rfl (hb C.c_by hd) rfl (teq (Int32.toInt_inj.mp h)).2 kt
theorem g_if_ne_f (q : Nat) (hq : pc + 3 = q) (C : Ctx p s m meth c Z own nm bytes ml rt) (X : Stand p l e R s m args below meth c T locs cells slots) {o : Int} {x : Int32} (hd : decode bytes pc = .ok (.ifCond .ne o, 3)) (h : x.toInt = 0) (k : Goes p e below E T m q Ls St) : Goes p e below E T m pc Ls (.int x :: St) := by
  subst hq
  exact k.back fun t kt => XS.ifNo (g := mkF m pc Ls (.int x :: St)) X.here C.c_x rfl (hb C.c_by hd) rfl ((if0 _ _).trans (teq (Int32.toInt_inj.mp h)).2) kt
theorem g_ldc (q : Nat) (hq : pc + 2 = q) (C : Ctx p s m meth c Z own nm bytes ml rt) (X : Stand p l e R s m args below meth c T locs cells slots) {i : Nat} {v : Int32} (w : (Cond.constant own i v).before a0 Z = true) (hd : decode bytes pc = .ok (.ldc i, 2)) (k : Goes p e below E T m q Ls (.int v :: St)) : Goes p e below E T m pc Ls St := by
  subst hq
  exact k.back fun t kt => X.ldcInt C.c_x C.c_own (mvT C.c_z w) (g := mkF m pc Ls St) rfl (hb C.c_by hd) _ kt
theorem g_retN (C : Ctx p s m meth c Z own nm bytes ml rt) (X : Stand p l e R s m args below meth c T locs cells slots) {z z' : Int32} {t : FieldType} (hrt : rt = some t) (ht : t = .boolean ∨ t = .byte ∨ t = .char ∨ t = .short) (hd : decode bytes pc = .ok (.ireturn, 1)) (eT : T.heap = h) (hc : cells ≤ CC) (hs : slots ≤ SS) (hz : nar t z = z') (hQ : Q (some (.int z')) h locs) : Goes p e below (EndN s Q CC SS) T m pc Ls (.int z :: St) := by
  obtain ⟨fs, hr, hrun, hended, hW, hsame⟩ := X.leave (v := some (.int (nar t z))) (fun r => by rw [C.c_rt, hrt] at r; cases r) C.c_lk
  subst eT
  subst hz
  exact ⟨_, _, retN X C.c_x (C.c_rt.trans hrt) ht (hb C.c_by hd) hr, hrun, hended, _, _, rfl, hQ, ⟨_, rfl⟩, hW, hsame.mono hc hs⟩
def Ba (Z : State) (h : Heap) (a : Addr) (ty : FieldType) (n : Nat) (f : Nat → Int32) : Prop := ∃ c : Cell, Arr Z h a c ty ∧ c.slots.size = n ∧ n < 2 ^ 31 ∧ (∀ k, k < n → c.slots[k]? = some (.int (f k)))
def upd (f : Nat → Int32) (j : Nat) (v : Int32) : Nat → Int32 := fun k => bif Nat.beq k j then v else f k
theorem upd_same {f : Nat → Int32} {j k : Nat} {v : Int32} (q : k = j) : upd f j v k = v := by subst q; simp [upd]
theorem upd_ne {f : Nat → Int32} {j k : Nat} {v : Int32} (q : k ≠ j) : upd f j v k = f k := by
  have : Nat.beq k j = false := by
    cases hb : Nat.beq k j with
    | false => rfl
    | true => exact absurd (Nat.eq_of_beq_eq_true hb) q
  show (bif Nat.beq k j then v else f k) = f k
  rw [this]; rfl
theorem upd_eq (f : Nat → Int32) (j k : Nat) (v : Int32) : upd f j v k = if k = j then v else f k := by
  split
  · rename_i q; exact upd_same q
  · rename_i q; exact upd_ne q
theorem Ba.lt {a : Addr} {ty : FieldType} {n : Nat} {f : Nat → Int32} (F : Ba Z h a ty n f) : a < h.size := by obtain ⟨c, A, -⟩ := F; exact A.lt
theorem Ba.ext {h' : Heap} {a : Addr} {ty : FieldType} {n : Nat} {f : Nat → Int32} (F : Ba Z h a ty n f) (E : Ext h h') : Ba Z h' a ty n f := by obtain ⟨c, A, r⟩ := F; exact ⟨c, A.ext E, r⟩
theorem Ba.other {h' : Heap} {a b : Addr} {ty : FieldType} {n sl : Nat} {v : Value} {f : Nat → Int32} (F : Ba Z h a ty n f) (W : Wr h h' b sl v) (q : a ≠ b) : Ba Z h' a ty n f := by obtain ⟨c, A, r⟩ := F; exact ⟨c, A.other W q, r⟩
theorem Ba.keep {h' : Heap} {a : Addr} {ty : FieldType} {n : Nat} {ws : List Addr} {f : Nat → Int32} (F : Ba Z h a ty n f) (K : Keep h h' ws) (q : a ∉ ws) : Ba Z h' a ty n f := by obtain ⟨c, A, r⟩ := F; exact ⟨c, ⟨K.2.1 a c A.1 q, A.2⟩, r⟩
theorem Ba.same {h' : Heap} {a : Addr} {ty : FieldType} {n j : Nat} {v : Int32} {f : Nat → Int32} (F : Ba Z h a ty n f) (W : Wr h h' a j (.int v)) : Ba Z h' a ty n (upd f j v) := by
  obtain ⟨c, A, hs, hn, hf⟩ := F
  refine ⟨_, A.same W, by simp [Cell.setSlot, hs], hn, fun k hk => ?_⟩
  rw [upd_eq]
  by_cases q : k = j
  · subst q; simp [Cell.setSlot, hs, hk]
  · rw [if_neg q]; simp only [Cell.setSlot]; rw [Array.getElem?_setIfInBounds_ne (Ne.symm q)]; exact hf k hk
theorem Ba.cong {a : Addr} {ty : FieldType} {n : Nat} {f f' : Nat → Int32} (F : Ba Z h a ty n f) (q : ∀ k, k < n → f k = f' k) : Ba Z h a ty n f' := by
  obtain ⟨c, A, hs, hn, hf⟩ := F
  exact ⟨c, A, hs, hn, fun k hk => by rw [← q k hk]; exact hf k hk⟩
theorem Ba.new {a : Addr} {cA : ClassId} {ty : FieldType} {z : Int32} {n : Nat} (A : Arr Z h a (newA cA ty z) ty) (hz : z.toInt = n) (hd : defaultValue ty = .int 0) : Ba Z h a ty n (fun _ => 0) := by
  have hr := rng32 z
  have hn : z.toNatClampNeg = n := by simp only [Int32.toNatClampNeg, hz]; rfl
  exact ⟨_, A, by rw [sz_new, hn], by omega, fun k hk => by simp [newA, hn, hk, hd]⟩
theorem own_clamp {j : Int32} {k : Nat} (hj : j.toInt = k) : j.toNatClampNeg = k ∧ ¬ j < 0 := by
  refine ⟨by simp only [Int32.toNatClampNeg, hj]; rfl, fun r => ?_⟩
  have := Int32.lt_iff_toInt_lt.mp r
  rw [hj, own_z0] at this; omega
theorem own_in {j : Int32} {k n : Nat} {c : Cell} (hs : c.slots.size = n) (hj : j.toInt = k) (hk : k < n) : ¬ (j < 0 ∨ c.slots.size ≤ j.toNatClampNeg) := by
  obtain ⟨h1, h2⟩ := own_clamp hj
  rw [h1, hs]; intro r; rcases r with r | r
  · exact h2 r
  · omega
theorem own_lenI {n : Nat} (hn : n < 2 ^ 31) : (n.toInt32).toInt = n := by
  have := len_toInt hn
  exact this
theorem own_narByte {b : Int32} (h0 : -128 ≤ b.toInt) (h1 : b.toInt < 128) : b.toInt8.toInt32 = b := by
  have := c_i2b b
  exact Int32.toInt_inj.mp (by omega)
theorem own_fitB {x : Int32} (h0 : -128 ≤ x.toInt) (h1 : x.toInt < 128) : fits .byte (.int x) = true := by
  have e := own_narByte h0 h1
  rw [← e]; exact fits_nar_byte x

theorem g_callS (q : Nat) (hq : pc + 3 = q) (C : Ctx p s m meth c Z own nm bytes ml rt) (X : Stand p l e R s m args below meth c T locs cells slots) {y : MethodName} {bytes' : ByteArray} {maxL' : Nat} {ret' : Option FieldType} {rm : Room} {Q' : Option Value → Heap → List Loc → Prop} {i W : Nat} {argsL : List Value} (w1 : (Cond.methodLink own i y).before a0 Z = true) (w2 : (Cond.static y).before a0 Z = true) (wc : (Cond.code y bytes' maxL' ret').before a0 Z = true) (wz : (Cond.initialized y.cls).before a0 Z = true) (eT : T.heap = h) (M : MetFree l y (head1 [Cond.code y bytes' maxL' ret'] rm) (fun a U => a = argsL.toArray ∧ Z.Warmed39 U.vm ∧ U.heap = h) (fun _ _ _ _ _ => True) (fun _ U o U' => ∃ v L, o = .returned v ∧ Q' v U'.heap L ∧ FrameEnd U o U' L rm.cells rm.slots)) (hlen : ∀ sig, parseMethodDescriptor y.desc = some sig → argsL.length = sig.parameters.length) (hf : rm.frames + 1 ≤ R.frames) (hl : W + (maxL' + 11) + rm.locals ≤ R.locals) (hc : cells + rm.cells ≤ R.cells) (hsl : slots + rm.slots ≤ R.slots) (hsz : Ls.size = ml) (hW : (St.map fun v => v.category).sum ≤ W) (hy : y.cls ≠ "java/lang/invoke/MethodHandle" ∧ y.cls ≠ "java/lang/invoke/VarHandle") (hd : decode bytes pc = .ok (.invokestatic i, 3)) {St0 : List Value} (hst : St0 = argsL.reverse ++ St)
    (k : ∀ v T' L, Stand p l e R s m args below meth c T' (locs ++ L) (cells + rm.cells) (slots + rm.slots) → Q' v T'.heap L → Goes p e below E T' m q Ls (v.toList ++ St)) : Goes p e below E T m pc Ls St0 := by
  subst hq hst
  obtain ⟨v, _, ⟨T', L', k', n'⟩, -, X', ⟨Lc, hQ', l', y', z'⟩, st⟩ := Jvm.LawKit.callS X C.c_x (y := y) C.c_own (mvT C.c_z w1) (mvT C.c_z w2) (mvT C.c_z wz) (mvT C.c_z wc) hy (backOf (W := W) M C.c_z wc wz hf hl) (g := mkF m pc Ls (argsL.reverse ++ St)) rfl (hsz.trans C.c_ml.symm) (argsL := argsL) (rest := St) hlen rfl (by show 2 * 0 + _ ≤ _; omega) (hb C.c_by hd) (fun _ _ => ⟨rfl, eT, hc, hsl⟩)
  dsimp only [Pt.U, Pt.locs, Pt.cells, Pt.slots] at X' l' y' z' st hQ'
  subst l' y' z'
  exact (k v T' Lc X' hQ').back fun t kt => st t kt
end Own
section OwnArith
theorem own_mulc (x y : Int32) (k : Int) (hk : y.toInt = k) : ((x * y).toInt - x.toInt * k) % 4294967296 = 0 := hk ▸ c_imul x y
theorem own_mulc' (x y : Int32) (k : Int) (hk : x.toInt = k) : ((x * y).toInt - k * y.toInt) % 4294967296 = 0 := hk ▸ c_imul x y
theorem own_lmulc (x y : Int64) (k : Int) (hk : y.toInt = k) : ((x * y).toInt - x.toInt * k) % 18446744073709551616 = 0 := hk ▸ c_lmul x y
theorem own_lmulc' (x y : Int64) (k : Int) (hk : x.toInt = k) : ((x * y).toInt - k * y.toInt) % 18446744073709551616 = 0 := hk ▸ c_lmul x y
theorem own_bvor (x y : BitVec 32) : (x ||| y) + (x &&& y) = x + y := by
  have h1 : x = (x &&& y) + (x &&& ~~~y) := by
    rw [BitVec.add_eq_or_of_and_eq_zero]
    · ext i; simp; cases x[i] <;> cases y[i] <;> rfl
    · ext i; simp; cases x[i] <;> cases y[i] <;> simp
  have h2 : x ||| y = y + (x &&& ~~~y) := by
    rw [BitVec.add_eq_or_of_and_eq_zero]
    · ext i; simp; cases x[i] <;> cases y[i] <;> rfl
    · ext i; simp; cases x[i] <;> cases y[i] <;> simp
  rw [h2]
  conv => rhs; rw [h1]
  ac_rfl
theorem own_or0 (x y : Int32) : (x ||| y) + (x &&& y) = x + y := Int32.toBitVec_inj.mp (by simpa using own_bvor x.toBitVec y.toBitVec)
theorem own_or (x y : Int32) : ((x ||| y).toInt + (x &&& y).toInt - (x.toInt + y.toInt)) % 4294967296 = 0 := by
  have h1 := c_iadd (x ||| y) (x &&& y)
  have h2 := c_iadd x y
  rw [own_or0] at h1; omega
theorem own_bvblk (x m a b : BitVec 32) (h1 : m ||| a = b) (h2 : m &&& a = 0#32) : (x &&& m) + (x &&& a) = x &&& b := by
  rw [BitVec.add_eq_or_of_and_eq_zero, ← h1]
  · ext i; simp; cases x[i] <;> simp
  · have : (x &&& m) &&& (x &&& a) = x &&& (m &&& a) := by ext i; simp; cases x[i] <;> simp
    rw [this, h2]; simp
theorem own_blk (x m a b : Int32) (h1 : m ||| a = b) (h2 : m &&& a = 0) : ((x &&& m).toInt + (x &&& a).toInt - (x &&& b).toInt) % 4294967296 = 0 := by
  have e : (x &&& m) + (x &&& a) = x &&& b := Int32.toBitVec_inj.mp (by
    have q1 := congrArg Int32.toBitVec h1
    have q2 := congrArg Int32.toBitVec h2
    simpa using own_bvblk x.toBitVec m.toBitVec a.toBitVec b.toBitVec (by simpa using q1) (by simpa using q2))
  have := c_iadd (x &&& m) (x &&& a)
  rw [e] at this; omega
theorem own_andM1 (x : Int32) : x &&& (-1) = x := Int32.toBitVec_inj.mp (by ext i; simp)
theorem own_narZ {b : Int32} (hb : b.toInt = 0 ∨ b.toInt = 1) : nar .boolean b = b := by
  have : b = 0 ∨ b = 1 := by
    rcases hb with q | q
    · exact Or.inl (Int32.toInt_inj.mp q)
    · exact Or.inr (Int32.toInt_inj.mp q)
  rcases this with rfl | rfl <;> decide
theorem own_narC {b : Int32} (h0 : 0 ≤ b.toInt) (h1 : b.toInt < 65536) : nar .char b = b := by
  have := c_i2c b
  exact Int32.toInt_inj.mp (by show b.toUInt32.toUInt16.toUInt32.toInt32.toInt = _; omega)
theorem own_narB {b : Int32} (h0 : -128 ≤ b.toInt) (h1 : b.toInt < 128) : nar .byte b = b := by
  have := c_i2b b
  exact Int32.toInt_inj.mp (by show b.toInt8.toInt32.toInt = _; omega)
theorem own_eq {x y : Int32} (q : x.toInt = y.toInt) : x = y := Int32.toInt_inj.mp q
theorem own_eqL {x y : Int64} (q : x.toInt = y.toInt) : x = y := Int64.toInt_inj.mp q
end OwnArith


theorem d1_0 : decode prog_40_method_3_code 0 = .ok (.iload_n 0, 1) := by decide +kernel
theorem d1_1 : decode prog_40_method_3_code 1 = .ok (.bipush 97, 2) := by decide +kernel
theorem d1_3 : decode prog_40_method_3_code 3 = .ok (.if_icmp .lt 9, 3) := by decide +kernel
theorem d1_12 : decode prog_40_method_3_code 12 = .ok (.iload_n 0, 1) := by decide +kernel
theorem d1_13 : decode prog_40_method_3_code 13 = .ok (.bipush 65, 2) := by decide +kernel
theorem d1_15 : decode prog_40_method_3_code 15 = .ok (.if_icmp .lt 9, 3) := by decide +kernel
theorem d1_24 : decode prog_40_method_3_code 24 = .ok (.iload_n 0, 1) := by decide +kernel
theorem d1_25 : decode prog_40_method_3_code 25 = .ok (.bipush 48, 2) := by decide +kernel
theorem d1_27 : decode prog_40_method_3_code 27 = .ok (.if_icmp .lt 9, 3) := by decide +kernel
theorem d1_36 : decode prog_40_method_3_code 36 = .ok (.iload_n 0, 1) := by decide +kernel
theorem d1_37 : decode prog_40_method_3_code 37 = .ok (.bipush 95, 2) := by decide +kernel
theorem d1_39 : decode prog_40_method_3_code 39 = .ok (.if_icmp .ne 7, 3) := by decide +kernel
theorem d1_42 : decode prog_40_method_3_code 42 = .ok (.iconst 1, 1) := by decide +kernel
theorem d1_43 : decode prog_40_method_3_code 43 = .ok (.goto 4, 3) := by decide +kernel
theorem d1_47 : decode prog_40_method_3_code 47 = .ok (.ireturn, 1) := by decide +kernel
theorem d1_46 : decode prog_40_method_3_code 46 = .ok (.iconst 0, 1) := by decide +kernel
theorem d1_30 : decode prog_40_method_3_code 30 = .ok (.iload_n 0, 1) := by decide +kernel
theorem d1_31 : decode prog_40_method_3_code 31 = .ok (.bipush 57, 2) := by decide +kernel
theorem d1_33 : decode prog_40_method_3_code 33 = .ok (.if_icmp .le 9, 3) := by decide +kernel
theorem d1_18 : decode prog_40_method_3_code 18 = .ok (.iload_n 0, 1) := by decide +kernel
theorem d1_19 : decode prog_40_method_3_code 19 = .ok (.bipush 90, 2) := by decide +kernel
theorem d1_21 : decode prog_40_method_3_code 21 = .ok (.if_icmp .le 21, 3) := by decide +kernel
theorem d1_6 : decode prog_40_method_3_code 6 = .ok (.iload_n 0, 1) := by decide +kernel
theorem d1_7 : decode prog_40_method_3_code 7 = .ok (.bipush 122, 2) := by decide +kernel
theorem d1_9 : decode prog_40_method_3_code 9 = .ok (.if_icmp .le 33, 3) := by decide +kernel
theorem pn_13422032 : plainName "com/example/bisimulation/bisimulation/lts/ActionNames" = true := by first | (simp [plainName, overriddenIn]; done) | decide +kernel
theorem ef_1 (m : MethodId) (p0 : Int32) : entryFrame m #[(.int p0)] 1 = mkF m 0 #[.val (.int p0)] [] := by first | (simp [entryFrame, mkF, argsToLocals, Value.category]; done) | rfl
def Q1 (Z : State) (p0 : Int32) (h0 : Heap) (n0 : Nat) (v : Option Value) (h : Heap) (L : List Loc) : Prop := ∃ r : Int32, v = some (.int r) ∧ ((r.toInt = 1 ∧ (97 ≤ p0.toInt ∧ p0.toInt ≤ 122 ∨ 65 ≤ p0.toInt ∧ p0.toInt ≤ 90 ∨ 48 ≤ p0.toInt ∧ p0.toInt ≤ 57 ∨ p0.toInt = 95)) ∨ (r.toInt = 0 ∧ ¬ (97 ≤ p0.toInt ∧ p0.toInt ≤ 122 ∨ 65 ≤ p0.toInt ∧ p0.toInt ≤ 90 ∨ 48 ≤ p0.toInt ∧ p0.toInt ≤ 57 ∨ p0.toInt = 95))) ∧ Fr n0 L ∧ h = h0
set_option maxRecDepth 65536 in
set_option maxHeartbeats 40000000 in
theorem rm1 (l : Launch) (Z : State) (a0 : Array Value) (hw : ∀ d ∈ tables_1, d.before a0 Z = true) (ws : List Jvm.Cond) (p0 : Int32) (h0 : Heap) (n0 : Nat) (Z0 : n0 ≤ h0.size) :
    MetFree l (⟨"com/example/bisimulation/bisimulation/lts/ActionNames", "continuesName", "(C)Z"⟩ : MethodName) (head1 (Jvm.Cond.code (⟨"com/example/bisimulation/bisimulation/lts/ActionNames", "continuesName", "(C)Z"⟩ : MethodName) prog_40_method_3_code 1 (some .boolean) :: ws) ({ frames := 0, cells := 0, slots := 0, locals := 0 } : Room)) (fun a U => a = #[(.int p0)] ∧ Z.Warmed39 U.vm ∧ U.heap = h0) (fun _ _ _ _ _ => True) (fun _ U o U' => ∃ v L, o = .returned v ∧ Q1 Z p0 h0 n0 v U'.heap L ∧ FrameEnd U o U' L ({ frames := 0, cells := 0, slots := 0, locals := 0 } : Room).cells ({ frames := 0, cells := 0, slots := 0, locals := 0 } : Room).slots) := by
  refine MetFree.of_bodySF (plainFor_of_name pn_13422032) hisR ?_
  intro p e s m args below meth c s₁ Bd hml0 hP hK
  obtain ⟨rfl, hZ, hh⟩ := hP
  have C : Ctx p s m meth c Z "com/example/bisimulation/bisimulation/lts/ActionNames" "continuesName" prog_40_method_3_code 1 (some .boolean) := Ctx.of Bd hml0 hZ
  have X0 : Stand p l e ({ frames := 0, cells := 0, slots := 0, locals := 0 } : Room) s m #[(.int p0)] below meth c s₁ [] 0 0 := Stand.of_body Bd
  have e0 : s₁.heap = h0 := by rw [← hh, Bd.state]; rfl
  have N0 := Fr.nil n0
  refine Goes.enter (ef_1 m p0) ?_
  clear hK hml0 hh
  refine g_iloadN 1 rfl C X0 d1_0 rfl ?_
  refine g_bipush 3 rfl C X0 (97 : Int32) d1_1 rfl ?_
  by_cases hb1 : p0.toInt < (97 : Int32).toInt
  · skip
    refine g_icmp_lt_t 12 C X0 d1_3 (by decide) (by decide) hb1 ?_
    refine g_iloadN 13 rfl C X0 d1_12 rfl ?_
    refine g_bipush 15 rfl C X0 (65 : Int32) d1_13 rfl ?_
    by_cases hb2 : p0.toInt < (65 : Int32).toInt
    · skip
      refine g_icmp_lt_t 24 C X0 d1_15 (by decide) (by decide) hb2 ?_
      refine g_iloadN 25 rfl C X0 d1_24 rfl ?_
      refine g_bipush 27 rfl C X0 (48 : Int32) d1_25 rfl ?_
      by_cases hb3 : p0.toInt < (48 : Int32).toInt
      · skip
        refine g_icmp_lt_t 36 C X0 d1_27 (by decide) (by decide) hb3 ?_
        refine g_iloadN 37 rfl C X0 d1_36 rfl ?_
        refine g_bipush 39 rfl C X0 (95 : Int32) d1_37 rfl ?_
        by_cases hb4 : p0.toInt = (95 : Int32).toInt
        · skip
          refine g_icmp_ne_f 42 rfl C X0 d1_39 hb4 ?_
          refine g_iconst 43 rfl C X0 (1 : Int32) d1_42 rfl ?_
          refine g_goto 47 C X0 d1_43 (by decide) (by decide) ?_
          have fr5 := rng32 p0
          have fc6 : (97 : Int32).toInt = 97 := rfl
          have fc7 : (65 : Int32).toInt = 65 := rfl
          have fc8 : (48 : Int32).toInt = 48 := rfl
          have fc9 : (95 : Int32).toInt = 95 := rfl
          have fc10 : (1 : Int32).toInt = 1 := rfl
          exact g_retN C X0 (z' := (1 : Int32)) rfl (Or.inl rfl) d1_47 e0 (by decide) (by decide) rfl ⟨_, rfl, by omega, N0, rfl⟩
        · skip
          refine g_icmp_ne_t 46 C X0 d1_39 (by decide) (by decide) hb4 ?_
          refine g_iconst 47 rfl C X0 (0 : Int32) d1_46 rfl ?_
          have fr11 := rng32 p0
          have fc12 : (97 : Int32).toInt = 97 := rfl
          have fc13 : (65 : Int32).toInt = 65 := rfl
          have fc14 : (48 : Int32).toInt = 48 := rfl
          have fc15 : (95 : Int32).toInt = 95 := rfl
          have fc16 : (0 : Int32).toInt = 0 := rfl
          exact g_retN C X0 (z' := (0 : Int32)) rfl (Or.inl rfl) d1_47 e0 (by decide) (by decide) rfl ⟨_, rfl, by omega, N0, rfl⟩
      · skip
        refine g_icmp_lt_f 30 rfl C X0 d1_27 hb3 ?_
        refine g_iloadN 31 rfl C X0 d1_30 rfl ?_
        refine g_bipush 33 rfl C X0 (57 : Int32) d1_31 rfl ?_
        by_cases hb17 : (57 : Int32).toInt < p0.toInt
        · skip
          refine g_icmp_le_f 36 rfl C X0 d1_33 hb17 ?_
          refine g_iloadN 37 rfl C X0 d1_36 rfl ?_
          refine g_bipush 39 rfl C X0 (95 : Int32) d1_37 rfl ?_
          by_cases hb18 : p0.toInt = (95 : Int32).toInt
          · skip
            refine g_icmp_ne_f 42 rfl C X0 d1_39 hb18 ?_
            refine g_iconst 43 rfl C X0 (1 : Int32) d1_42 rfl ?_
            refine g_goto 47 C X0 d1_43 (by decide) (by decide) ?_
            have fr19 := rng32 p0
            have fc20 : (97 : Int32).toInt = 97 := rfl
            have fc21 : (65 : Int32).toInt = 65 := rfl
            have fc22 : (48 : Int32).toInt = 48 := rfl
            have fc23 : (57 : Int32).toInt = 57 := rfl
            have fc24 : (95 : Int32).toInt = 95 := rfl
            have fc25 : (1 : Int32).toInt = 1 := rfl
            exact g_retN C X0 (z' := (1 : Int32)) rfl (Or.inl rfl) d1_47 e0 (by decide) (by decide) rfl ⟨_, rfl, by omega, N0, rfl⟩
          · skip
            refine g_icmp_ne_t 46 C X0 d1_39 (by decide) (by decide) hb18 ?_
            refine g_iconst 47 rfl C X0 (0 : Int32) d1_46 rfl ?_
            have fr26 := rng32 p0
            have fc27 : (97 : Int32).toInt = 97 := rfl
            have fc28 : (65 : Int32).toInt = 65 := rfl
            have fc29 : (48 : Int32).toInt = 48 := rfl
            have fc30 : (57 : Int32).toInt = 57 := rfl
            have fc31 : (95 : Int32).toInt = 95 := rfl
            have fc32 : (0 : Int32).toInt = 0 := rfl
            exact g_retN C X0 (z' := (0 : Int32)) rfl (Or.inl rfl) d1_47 e0 (by decide) (by decide) rfl ⟨_, rfl, by omega, N0, rfl⟩
        · skip
          refine g_icmp_le_t 42 C X0 d1_33 (by decide) (by decide) hb17 ?_
          refine g_iconst 43 rfl C X0 (1 : Int32) d1_42 rfl ?_
          refine g_goto 47 C X0 d1_43 (by decide) (by decide) ?_
          have fr33 := rng32 p0
          have fc34 : (97 : Int32).toInt = 97 := rfl
          have fc35 : (65 : Int32).toInt = 65 := rfl
          have fc36 : (48 : Int32).toInt = 48 := rfl
          have fc37 : (57 : Int32).toInt = 57 := rfl
          have fc38 : (1 : Int32).toInt = 1 := rfl
          exact g_retN C X0 (z' := (1 : Int32)) rfl (Or.inl rfl) d1_47 e0 (by decide) (by decide) rfl ⟨_, rfl, by omega, N0, rfl⟩
    · skip
      refine g_icmp_lt_f 18 rfl C X0 d1_15 hb2 ?_
      refine g_iloadN 19 rfl C X0 d1_18 rfl ?_
      refine g_bipush 21 rfl C X0 (90 : Int32) d1_19 rfl ?_
      by_cases hb39 : (90 : Int32).toInt < p0.toInt
      · skip
        refine g_icmp_le_f 24 rfl C X0 d1_21 hb39 ?_
        refine g_iloadN 25 rfl C X0 d1_24 rfl ?_
        refine g_bipush 27 rfl C X0 (48 : Int32) d1_25 rfl ?_
        by_cases hb40 : p0.toInt < (48 : Int32).toInt
        · skip
          refine g_icmp_lt_t 36 C X0 d1_27 (by decide) (by decide) hb40 ?_
          refine g_iloadN 37 rfl C X0 d1_36 rfl ?_
          refine g_bipush 39 rfl C X0 (95 : Int32) d1_37 rfl ?_
          by_cases hb41 : p0.toInt = (95 : Int32).toInt
          · skip
            refine g_icmp_ne_f 42 rfl C X0 d1_39 hb41 ?_
            refine g_iconst 43 rfl C X0 (1 : Int32) d1_42 rfl ?_
            refine g_goto 47 C X0 d1_43 (by decide) (by decide) ?_
            have fr42 := rng32 p0
            have fc43 : (97 : Int32).toInt = 97 := rfl
            have fc44 : (65 : Int32).toInt = 65 := rfl
            have fc45 : (90 : Int32).toInt = 90 := rfl
            have fc46 : (48 : Int32).toInt = 48 := rfl
            have fc47 : (95 : Int32).toInt = 95 := rfl
            have fc48 : (1 : Int32).toInt = 1 := rfl
            exact g_retN C X0 (z' := (1 : Int32)) rfl (Or.inl rfl) d1_47 e0 (by decide) (by decide) rfl ⟨_, rfl, by omega, N0, rfl⟩
          · skip
            refine g_icmp_ne_t 46 C X0 d1_39 (by decide) (by decide) hb41 ?_
            refine g_iconst 47 rfl C X0 (0 : Int32) d1_46 rfl ?_
            have fr49 := rng32 p0
            have fc50 : (97 : Int32).toInt = 97 := rfl
            have fc51 : (65 : Int32).toInt = 65 := rfl
            have fc52 : (90 : Int32).toInt = 90 := rfl
            have fc53 : (48 : Int32).toInt = 48 := rfl
            have fc54 : (95 : Int32).toInt = 95 := rfl
            have fc55 : (0 : Int32).toInt = 0 := rfl
            exact g_retN C X0 (z' := (0 : Int32)) rfl (Or.inl rfl) d1_47 e0 (by decide) (by decide) rfl ⟨_, rfl, by omega, N0, rfl⟩
        · skip
          refine g_icmp_lt_f 30 rfl C X0 d1_27 hb40 ?_
          refine g_iloadN 31 rfl C X0 d1_30 rfl ?_
          refine g_bipush 33 rfl C X0 (57 : Int32) d1_31 rfl ?_
          by_cases hb56 : (57 : Int32).toInt < p0.toInt
          · skip
            refine g_icmp_le_f 36 rfl C X0 d1_33 hb56 ?_
            refine g_iloadN 37 rfl C X0 d1_36 rfl ?_
            refine g_bipush 39 rfl C X0 (95 : Int32) d1_37 rfl ?_
            by_cases hb57 : p0.toInt = (95 : Int32).toInt
            · skip
              refine g_icmp_ne_f 42 rfl C X0 d1_39 hb57 ?_
              refine g_iconst 43 rfl C X0 (1 : Int32) d1_42 rfl ?_
              refine g_goto 47 C X0 d1_43 (by decide) (by decide) ?_
              have fr58 := rng32 p0
              have fc59 : (97 : Int32).toInt = 97 := rfl
              have fc60 : (65 : Int32).toInt = 65 := rfl
              have fc61 : (90 : Int32).toInt = 90 := rfl
              have fc62 : (48 : Int32).toInt = 48 := rfl
              have fc63 : (57 : Int32).toInt = 57 := rfl
              have fc64 : (95 : Int32).toInt = 95 := rfl
              have fc65 : (1 : Int32).toInt = 1 := rfl
              exact g_retN C X0 (z' := (1 : Int32)) rfl (Or.inl rfl) d1_47 e0 (by decide) (by decide) rfl ⟨_, rfl, by omega, N0, rfl⟩
            · skip
              refine g_icmp_ne_t 46 C X0 d1_39 (by decide) (by decide) hb57 ?_
              refine g_iconst 47 rfl C X0 (0 : Int32) d1_46 rfl ?_
              have fr66 := rng32 p0
              have fc67 : (97 : Int32).toInt = 97 := rfl
              have fc68 : (65 : Int32).toInt = 65 := rfl
              have fc69 : (90 : Int32).toInt = 90 := rfl
              have fc70 : (48 : Int32).toInt = 48 := rfl
              have fc71 : (57 : Int32).toInt = 57 := rfl
              have fc72 : (95 : Int32).toInt = 95 := rfl
              have fc73 : (0 : Int32).toInt = 0 := rfl
              exact g_retN C X0 (z' := (0 : Int32)) rfl (Or.inl rfl) d1_47 e0 (by decide) (by decide) rfl ⟨_, rfl, by omega, N0, rfl⟩
          · skip
            refine g_icmp_le_t 42 C X0 d1_33 (by decide) (by decide) hb56 ?_
            refine g_iconst 43 rfl C X0 (1 : Int32) d1_42 rfl ?_
            refine g_goto 47 C X0 d1_43 (by decide) (by decide) ?_
            have fr74 := rng32 p0
            have fc75 : (97 : Int32).toInt = 97 := rfl
            have fc76 : (65 : Int32).toInt = 65 := rfl
            have fc77 : (90 : Int32).toInt = 90 := rfl
            have fc78 : (48 : Int32).toInt = 48 := rfl
            have fc79 : (57 : Int32).toInt = 57 := rfl
            have fc80 : (1 : Int32).toInt = 1 := rfl
            exact g_retN C X0 (z' := (1 : Int32)) rfl (Or.inl rfl) d1_47 e0 (by decide) (by decide) rfl ⟨_, rfl, by omega, N0, rfl⟩
      · skip
        refine g_icmp_le_t 42 C X0 d1_21 (by decide) (by decide) hb39 ?_
        refine g_iconst 43 rfl C X0 (1 : Int32) d1_42 rfl ?_
        refine g_goto 47 C X0 d1_43 (by decide) (by decide) ?_
        have fr81 := rng32 p0
        have fc82 : (97 : Int32).toInt = 97 := rfl
        have fc83 : (65 : Int32).toInt = 65 := rfl
        have fc84 : (90 : Int32).toInt = 90 := rfl
        have fc85 : (1 : Int32).toInt = 1 := rfl
        exact g_retN C X0 (z' := (1 : Int32)) rfl (Or.inl rfl) d1_47 e0 (by decide) (by decide) rfl ⟨_, rfl, by omega, N0, rfl⟩
  · skip
    refine g_icmp_lt_f 6 rfl C X0 d1_3 hb1 ?_
    refine g_iloadN 7 rfl C X0 d1_6 rfl ?_
    refine g_bipush 9 rfl C X0 (122 : Int32) d1_7 rfl ?_
    by_cases hb86 : (122 : Int32).toInt < p0.toInt
    · skip
      refine g_icmp_le_f 12 rfl C X0 d1_9 hb86 ?_
      refine g_iloadN 13 rfl C X0 d1_12 rfl ?_
      refine g_bipush 15 rfl C X0 (65 : Int32) d1_13 rfl ?_
      by_cases hb87 : p0.toInt < (65 : Int32).toInt
      · skip
        refine g_icmp_lt_t 24 C X0 d1_15 (by decide) (by decide) hb87 ?_
        refine g_iloadN 25 rfl C X0 d1_24 rfl ?_
        refine g_bipush 27 rfl C X0 (48 : Int32) d1_25 rfl ?_
        by_cases hb88 : p0.toInt < (48 : Int32).toInt
        · skip
          refine g_icmp_lt_t 36 C X0 d1_27 (by decide) (by decide) hb88 ?_
          refine g_iloadN 37 rfl C X0 d1_36 rfl ?_
          refine g_bipush 39 rfl C X0 (95 : Int32) d1_37 rfl ?_
          by_cases hb89 : p0.toInt = (95 : Int32).toInt
          · skip
            refine g_icmp_ne_f 42 rfl C X0 d1_39 hb89 ?_
            refine g_iconst 43 rfl C X0 (1 : Int32) d1_42 rfl ?_
            refine g_goto 47 C X0 d1_43 (by decide) (by decide) ?_
            have fr90 := rng32 p0
            have fc91 : (97 : Int32).toInt = 97 := rfl
            have fc92 : (122 : Int32).toInt = 122 := rfl
            have fc93 : (65 : Int32).toInt = 65 := rfl
            have fc94 : (48 : Int32).toInt = 48 := rfl
            have fc95 : (95 : Int32).toInt = 95 := rfl
            have fc96 : (1 : Int32).toInt = 1 := rfl
            exact g_retN C X0 (z' := (1 : Int32)) rfl (Or.inl rfl) d1_47 e0 (by decide) (by decide) rfl ⟨_, rfl, by omega, N0, rfl⟩
          · skip
            refine g_icmp_ne_t 46 C X0 d1_39 (by decide) (by decide) hb89 ?_
            refine g_iconst 47 rfl C X0 (0 : Int32) d1_46 rfl ?_
            have fr97 := rng32 p0
            have fc98 : (97 : Int32).toInt = 97 := rfl
            have fc99 : (122 : Int32).toInt = 122 := rfl
            have fc100 : (65 : Int32).toInt = 65 := rfl
            have fc101 : (48 : Int32).toInt = 48 := rfl
            have fc102 : (95 : Int32).toInt = 95 := rfl
            have fc103 : (0 : Int32).toInt = 0 := rfl
            exact g_retN C X0 (z' := (0 : Int32)) rfl (Or.inl rfl) d1_47 e0 (by decide) (by decide) rfl ⟨_, rfl, by omega, N0, rfl⟩
        · skip
          refine g_icmp_lt_f 30 rfl C X0 d1_27 hb88 ?_
          refine g_iloadN 31 rfl C X0 d1_30 rfl ?_
          refine g_bipush 33 rfl C X0 (57 : Int32) d1_31 rfl ?_
          by_cases hb104 : (57 : Int32).toInt < p0.toInt
          · skip
            refine g_icmp_le_f 36 rfl C X0 d1_33 hb104 ?_
            refine g_iloadN 37 rfl C X0 d1_36 rfl ?_
            refine g_bipush 39 rfl C X0 (95 : Int32) d1_37 rfl ?_
            by_cases hb105 : p0.toInt = (95 : Int32).toInt
            · skip
              refine g_icmp_ne_f 42 rfl C X0 d1_39 hb105 ?_
              refine g_iconst 43 rfl C X0 (1 : Int32) d1_42 rfl ?_
              refine g_goto 47 C X0 d1_43 (by decide) (by decide) ?_
              have fr106 := rng32 p0
              have fc107 : (97 : Int32).toInt = 97 := rfl
              have fc108 : (122 : Int32).toInt = 122 := rfl
              have fc109 : (65 : Int32).toInt = 65 := rfl
              have fc110 : (48 : Int32).toInt = 48 := rfl
              have fc111 : (57 : Int32).toInt = 57 := rfl
              have fc112 : (95 : Int32).toInt = 95 := rfl
              have fc113 : (1 : Int32).toInt = 1 := rfl
              exact g_retN C X0 (z' := (1 : Int32)) rfl (Or.inl rfl) d1_47 e0 (by decide) (by decide) rfl ⟨_, rfl, by omega, N0, rfl⟩
            · skip
              refine g_icmp_ne_t 46 C X0 d1_39 (by decide) (by decide) hb105 ?_
              refine g_iconst 47 rfl C X0 (0 : Int32) d1_46 rfl ?_
              have fr114 := rng32 p0
              have fc115 : (97 : Int32).toInt = 97 := rfl
              have fc116 : (122 : Int32).toInt = 122 := rfl
              have fc117 : (65 : Int32).toInt = 65 := rfl
              have fc118 : (48 : Int32).toInt = 48 := rfl
              have fc119 : (57 : Int32).toInt = 57 := rfl
              have fc120 : (95 : Int32).toInt = 95 := rfl
              have fc121 : (0 : Int32).toInt = 0 := rfl
              exact g_retN C X0 (z' := (0 : Int32)) rfl (Or.inl rfl) d1_47 e0 (by decide) (by decide) rfl ⟨_, rfl, by omega, N0, rfl⟩
          · skip
            refine g_icmp_le_t 42 C X0 d1_33 (by decide) (by decide) hb104 ?_
            refine g_iconst 43 rfl C X0 (1 : Int32) d1_42 rfl ?_
            refine g_goto 47 C X0 d1_43 (by decide) (by decide) ?_
            have fr122 := rng32 p0
            have fc123 : (97 : Int32).toInt = 97 := rfl
            have fc124 : (122 : Int32).toInt = 122 := rfl
            have fc125 : (65 : Int32).toInt = 65 := rfl
            have fc126 : (48 : Int32).toInt = 48 := rfl
            have fc127 : (57 : Int32).toInt = 57 := rfl
            have fc128 : (1 : Int32).toInt = 1 := rfl
            exact g_retN C X0 (z' := (1 : Int32)) rfl (Or.inl rfl) d1_47 e0 (by decide) (by decide) rfl ⟨_, rfl, by omega, N0, rfl⟩
      · skip
        refine g_icmp_lt_f 18 rfl C X0 d1_15 hb87 ?_
        refine g_iloadN 19 rfl C X0 d1_18 rfl ?_
        refine g_bipush 21 rfl C X0 (90 : Int32) d1_19 rfl ?_
        by_cases hb129 : (90 : Int32).toInt < p0.toInt
        · skip
          refine g_icmp_le_f 24 rfl C X0 d1_21 hb129 ?_
          refine g_iloadN 25 rfl C X0 d1_24 rfl ?_
          refine g_bipush 27 rfl C X0 (48 : Int32) d1_25 rfl ?_
          by_cases hb130 : p0.toInt < (48 : Int32).toInt
          · skip
            refine g_icmp_lt_t 36 C X0 d1_27 (by decide) (by decide) hb130 ?_
            refine g_iloadN 37 rfl C X0 d1_36 rfl ?_
            refine g_bipush 39 rfl C X0 (95 : Int32) d1_37 rfl ?_
            by_cases hb131 : p0.toInt = (95 : Int32).toInt
            · skip
              refine g_icmp_ne_f 42 rfl C X0 d1_39 hb131 ?_
              refine g_iconst 43 rfl C X0 (1 : Int32) d1_42 rfl ?_
              refine g_goto 47 C X0 d1_43 (by decide) (by decide) ?_
              have fr132 := rng32 p0
              have fc133 : (97 : Int32).toInt = 97 := rfl
              have fc134 : (122 : Int32).toInt = 122 := rfl
              have fc135 : (65 : Int32).toInt = 65 := rfl
              have fc136 : (90 : Int32).toInt = 90 := rfl
              have fc137 : (48 : Int32).toInt = 48 := rfl
              have fc138 : (95 : Int32).toInt = 95 := rfl
              have fc139 : (1 : Int32).toInt = 1 := rfl
              exact g_retN C X0 (z' := (1 : Int32)) rfl (Or.inl rfl) d1_47 e0 (by decide) (by decide) rfl ⟨_, rfl, by omega, N0, rfl⟩
            · skip
              refine g_icmp_ne_t 46 C X0 d1_39 (by decide) (by decide) hb131 ?_
              refine g_iconst 47 rfl C X0 (0 : Int32) d1_46 rfl ?_
              have fr140 := rng32 p0
              have fc141 : (97 : Int32).toInt = 97 := rfl
              have fc142 : (122 : Int32).toInt = 122 := rfl
              have fc143 : (65 : Int32).toInt = 65 := rfl
              have fc144 : (90 : Int32).toInt = 90 := rfl
              have fc145 : (48 : Int32).toInt = 48 := rfl
              have fc146 : (95 : Int32).toInt = 95 := rfl
              have fc147 : (0 : Int32).toInt = 0 := rfl
              exact g_retN C X0 (z' := (0 : Int32)) rfl (Or.inl rfl) d1_47 e0 (by decide) (by decide) rfl ⟨_, rfl, by omega, N0, rfl⟩
          · skip
            refine g_icmp_lt_f 30 rfl C X0 d1_27 hb130 ?_
            refine g_iloadN 31 rfl C X0 d1_30 rfl ?_
            refine g_bipush 33 rfl C X0 (57 : Int32) d1_31 rfl ?_
            by_cases hb148 : (57 : Int32).toInt < p0.toInt
            · skip
              refine g_icmp_le_f 36 rfl C X0 d1_33 hb148 ?_
              refine g_iloadN 37 rfl C X0 d1_36 rfl ?_
              refine g_bipush 39 rfl C X0 (95 : Int32) d1_37 rfl ?_
              by_cases hb149 : p0.toInt = (95 : Int32).toInt
              · skip
                refine g_icmp_ne_f 42 rfl C X0 d1_39 hb149 ?_
                refine g_iconst 43 rfl C X0 (1 : Int32) d1_42 rfl ?_
                refine g_goto 47 C X0 d1_43 (by decide) (by decide) ?_
                have fr150 := rng32 p0
                have fc151 : (97 : Int32).toInt = 97 := rfl
                have fc152 : (122 : Int32).toInt = 122 := rfl
                have fc153 : (65 : Int32).toInt = 65 := rfl
                have fc154 : (90 : Int32).toInt = 90 := rfl
                have fc155 : (48 : Int32).toInt = 48 := rfl
                have fc156 : (57 : Int32).toInt = 57 := rfl
                have fc157 : (95 : Int32).toInt = 95 := rfl
                have fc158 : (1 : Int32).toInt = 1 := rfl
                exact g_retN C X0 (z' := (1 : Int32)) rfl (Or.inl rfl) d1_47 e0 (by decide) (by decide) rfl ⟨_, rfl, by omega, N0, rfl⟩
              · skip
                refine g_icmp_ne_t 46 C X0 d1_39 (by decide) (by decide) hb149 ?_
                refine g_iconst 47 rfl C X0 (0 : Int32) d1_46 rfl ?_
                have fr159 := rng32 p0
                have fc160 : (97 : Int32).toInt = 97 := rfl
                have fc161 : (122 : Int32).toInt = 122 := rfl
                have fc162 : (65 : Int32).toInt = 65 := rfl
                have fc163 : (90 : Int32).toInt = 90 := rfl
                have fc164 : (48 : Int32).toInt = 48 := rfl
                have fc165 : (57 : Int32).toInt = 57 := rfl
                have fc166 : (95 : Int32).toInt = 95 := rfl
                have fc167 : (0 : Int32).toInt = 0 := rfl
                exact g_retN C X0 (z' := (0 : Int32)) rfl (Or.inl rfl) d1_47 e0 (by decide) (by decide) rfl ⟨_, rfl, by omega, N0, rfl⟩
            · skip
              refine g_icmp_le_t 42 C X0 d1_33 (by decide) (by decide) hb148 ?_
              refine g_iconst 43 rfl C X0 (1 : Int32) d1_42 rfl ?_
              refine g_goto 47 C X0 d1_43 (by decide) (by decide) ?_
              have fr168 := rng32 p0
              have fc169 : (97 : Int32).toInt = 97 := rfl
              have fc170 : (122 : Int32).toInt = 122 := rfl
              have fc171 : (65 : Int32).toInt = 65 := rfl
              have fc172 : (90 : Int32).toInt = 90 := rfl
              have fc173 : (48 : Int32).toInt = 48 := rfl
              have fc174 : (57 : Int32).toInt = 57 := rfl
              have fc175 : (1 : Int32).toInt = 1 := rfl
              exact g_retN C X0 (z' := (1 : Int32)) rfl (Or.inl rfl) d1_47 e0 (by decide) (by decide) rfl ⟨_, rfl, by omega, N0, rfl⟩
        · skip
          refine g_icmp_le_t 42 C X0 d1_21 (by decide) (by decide) hb129 ?_
          refine g_iconst 43 rfl C X0 (1 : Int32) d1_42 rfl ?_
          refine g_goto 47 C X0 d1_43 (by decide) (by decide) ?_
          have fr176 := rng32 p0
          have fc177 : (97 : Int32).toInt = 97 := rfl
          have fc178 : (122 : Int32).toInt = 122 := rfl
          have fc179 : (65 : Int32).toInt = 65 := rfl
          have fc180 : (90 : Int32).toInt = 90 := rfl
          have fc181 : (1 : Int32).toInt = 1 := rfl
          exact g_retN C X0 (z' := (1 : Int32)) rfl (Or.inl rfl) d1_47 e0 (by decide) (by decide) rfl ⟨_, rfl, by omega, N0, rfl⟩
    · skip
      refine g_icmp_le_t 42 C X0 d1_9 (by decide) (by decide) hb86 ?_
      refine g_iconst 43 rfl C X0 (1 : Int32) d1_42 rfl ?_
      refine g_goto 47 C X0 d1_43 (by decide) (by decide) ?_
      have fr182 := rng32 p0
      have fc183 : (97 : Int32).toInt = 97 := rfl
      have fc184 : (122 : Int32).toInt = 122 := rfl
      have fc185 : (1 : Int32).toInt = 1 := rfl
      exact g_retN C X0 (z' := (1 : Int32)) rfl (Or.inl rfl) d1_47 e0 (by decide) (by decide) rfl ⟨_, rfl, by omega, N0, rfl⟩
theorem pd_52578335 : parseMethodDescriptor "(C)Z" = some ⟨[.char], some .boolean⟩ := by decide +kernel
theorem pn_9536100 : plainName "com/example/bisimulation/bisimulation/lts/ActionNamesContinuesNamePinLaw" = true := by first | (simp [plainName, overriddenIn]; done) | decide +kernel
theorem ef_0 (m : MethodId) (p0 : Int32) : entryFrame m #[(.int p0)] maxLocals = mkF m 0 #[.val (.int p0), .unset, .unset, .unset, .unset, .unset, .unset] [] := by first | (simp [entryFrame, mkF, argsToLocals, Value.category, maxLocals]; done) | rfl
def Q0 (Z : State) (p0 : Int32) (h0 : Heap) (n0 : Nat) (v : Option Value) (h : Heap) (L : List Loc) : Prop := v = some (.int 1) ∧ Fr n0 L
set_option maxRecDepth 65536 in
set_option maxHeartbeats 40000000 in
theorem rm0 (l : Launch) (Z : State) (a0 : Array Value) (hw : ∀ d ∈ tables_1, d.before a0 Z = true) (ws : List Jvm.Cond) (p0 : Int32) (h0 : Heap) (n0 : Nat) (Z0 : n0 ≤ h0.size) :
    MetFree l x (head1 (Jvm.Cond.code x code maxLocals ret :: ws) room_1) (fun a U => a = #[(.int p0)] ∧ Z.Warmed39 U.vm ∧ U.heap = h0) (fun _ _ _ _ _ => True) (fun _ U o U' => ∃ v L, o = .returned v ∧ Q0 Z p0 h0 n0 v U'.heap L ∧ FrameEnd U o U' L 0 0) := by
  refine MetFree.of_bodySF (plainFor_of_name pn_9536100) hisR ?_
  intro p e s m args below meth c s₁ Bd hml0 hP hK
  obtain ⟨rfl, hZ, hh⟩ := hP
  have C : Ctx p s m meth c Z "com/example/bisimulation/bisimulation/lts/ActionNamesContinuesNamePinLaw" "law" code maxLocals ret := Ctx.of Bd hml0 hZ
  have X0 : Stand p l e room_1 s m #[(.int p0)] below meth c s₁ [] 0 0 := Stand.of_body Bd
  have e0 : s₁.heap = h0 := by rw [← hh, Bd.state]; rfl
  have N0 := Fr.nil n0
  refine Goes.enter (ef_0 m p0) ?_
  clear hK hml0 hh
  refine g_iloadN 1 rfl C X0 at_0 rfl ?_
  refine g_ldc 3 rfl C X0 (hw _ (List.mem_of_getElem? (i := 0) rfl)) at_1 ?_
  refine g_iand 4 rfl C X0 at_3 ?_
  refine g_i2c 5 rfl C X0 at_4 ?_
  obtain ⟨v1, hv1⟩ : ∃ z : Int32, (((p0 &&& (65535 : Int32))).toUInt32.toUInt16.toUInt32.toInt32) = z := ⟨_, rfl⟩
  refine g_istoreN 6 rfl C X0 v1 hv1 #[.val (.int p0), .val (.int v1), .unset, .unset, .unset, .unset, .unset] at_5 rfl ?_
  refine g_iloadN 7 rfl C X0 at_6 rfl ?_
  refine g_bipush 9 rfl C X0 (32 : Int32) at_7 rfl ?_
  refine g_ior 10 rfl C X0 at_9 ?_
  obtain ⟨v2, hv2⟩ : ∃ z : Int32, (v1 ||| (32 : Int32)) = z := ⟨_, rfl⟩
  refine g_istoreN 11 rfl C X0 v2 hv2 #[.val (.int p0), .val (.int v1), .val (.int v2), .unset, .unset, .unset, .unset] at_10 rfl ?_
  refine g_iloadN 12 rfl C X0 at_11 rfl ?_
  refine g_bipush 14 rfl C X0 (97 : Int32) at_12 rfl ?_
  by_cases hb3 : v2.toInt < (97 : Int32).toInt
  · skip
    refine g_icmp_lt_t 27 C X0 at_14 (by decide) (by decide) hb3 ?_
    refine g_iconst 28 rfl C X0 (0 : Int32) at_27 rfl ?_
    refine g_istoreN 29 rfl C X0 (0 : Int32) rfl #[.val (.int p0), .val (.int v1), .val (.int v2), .val (.int (0 : Int32)), .unset, .unset, .unset] at_28 rfl ?_
    refine g_iloadN 30 rfl C X0 at_29 rfl ?_
    refine g_bipush 32 rfl C X0 (48 : Int32) at_30 rfl ?_
    refine g_isub 33 rfl C X0 at_32 ?_
    refine g_ldc 35 rfl C X0 (hw _ (List.mem_of_getElem? (i := 0) rfl)) at_33 ?_
    refine g_iand 36 rfl C X0 at_35 ?_
    refine g_bipush 38 rfl C X0 (10 : Int32) at_36 rfl ?_
    by_cases hb4 : ((v1 - (48 : Int32)) &&& (65535 : Int32)).toInt < (10 : Int32).toInt
    · skip
      refine g_icmp_ge_f 41 rfl C X0 at_38 hb4 ?_
      refine g_iconst 42 rfl C X0 (1 : Int32) at_41 rfl ?_
      refine g_goto 46 C X0 at_42 (by decide) (by decide) ?_
      refine g_istore 48 rfl C X0 (1 : Int32) rfl #[.val (.int p0), .val (.int v1), .val (.int v2), .val (.int (0 : Int32)), .val (.int (1 : Int32)), .unset, .unset] at_46 rfl ?_
      refine g_iloadN 49 rfl C X0 at_48 rfl ?_
      refine g_bipush 51 rfl C X0 (95 : Int32) at_49 rfl ?_
      by_cases hb5 : v1.toInt = (95 : Int32).toInt
      · skip
        refine g_icmp_ne_f 54 rfl C X0 at_51 hb5 ?_
        refine g_iconst 55 rfl C X0 (1 : Int32) at_54 rfl ?_
        refine g_goto 59 C X0 at_55 (by decide) (by decide) ?_
        refine g_istore 61 rfl C X0 (1 : Int32) rfl #[.val (.int p0), .val (.int v1), .val (.int v2), .val (.int (0 : Int32)), .val (.int (1 : Int32)), .val (.int (1 : Int32)), .unset] at_59 rfl ?_
        refine g_iloadN 62 rfl C X0 at_61 rfl ?_
        refine g_if_ne_f 65 rfl C X0 at_62 (by decide) ?_
        refine g_iload 67 rfl C X0 at_65 rfl ?_
        refine g_if_ne_t 75 C X0 at_67 (by decide) (by decide) (by decide) ?_
        refine g_iconst 76 rfl C X0 (1 : Int32) at_75 rfl ?_
        refine g_goto 80 C X0 at_76 (by decide) (by decide) ?_
        refine g_istore 82 rfl C X0 (1 : Int32) rfl #[.val (.int p0), .val (.int v1), .val (.int v2), .val (.int (0 : Int32)), .val (.int (1 : Int32)), .val (.int (1 : Int32)), .val (.int (1 : Int32))] at_80 rfl ?_
        refine g_iloadN 83 rfl C X0 at_82 rfl ?_
        refine g_callS 86 rfl C X0 (argsL := [(.int v1)]) (hw _ (List.mem_of_getElem? (i := 1) rfl)) (hw _ (List.mem_of_getElem? (i := 2) rfl)) (hw _ (List.mem_of_getElem? (i := 4) rfl)) (hw _ (List.mem_of_getElem? (i := 3) rfl)) e0 (rm1 l Z a0 hw [] v1 h0 n0 Z0) (lenOf pd_52578335 rfl) (by decide) (by decide) (by decide) (by decide) rfl (W := 0) (by decide) (by decide) at_83 rfl fun r6 T7 Lc8 X9 hQ10 => ?_
        obtain ⟨r11, rfl, hs12, Nq13, eh14⟩ := hQ10
        have N15 := Fr.app N0 Nq13
        show Goes _ _ _ _ _ _ 86 _ [(.int r11)]
        refine g_iload 88 rfl C X9 at_86 rfl ?_
        by_cases hb16 : r11.toInt = (1 : Int32).toInt
        · skip
          refine g_icmp_ne_f 91 rfl C X9 at_88 hb16 ?_
          refine g_iconst 92 rfl C X9 (1 : Int32) at_91 rfl ?_
          refine g_goto 96 C X9 at_92 (by decide) (by decide) ?_
          exact g_retN C X9 (z' := (1 : Int32)) rfl (Or.inl rfl) at_96 eh14 (by decide) (by decide) rfl ⟨rfl, N15⟩
        · skip
          refine g_icmp_ne_t 95 C X9 at_88 (by decide) (by decide) hb16 ?_
          refine g_iconst 96 rfl C X9 (0 : Int32) at_95 rfl ?_
          exfalso
          have fr17 := rng32 v2
          have fr18 := rng32 v1
          have fr19 := rng32 p0
          have fc20 : (65535 : Int32).toInt = 65535 := rfl
          have fo21 : (p0 &&& (65535 : Int32)).toInt = p0.toInt % 65536 := c_mask p0 (65535 : Int32) 16 (by decide) (by decide)
          have fo22 := c_i2c (p0 &&& (65535 : Int32))
          have fe23 : (((p0 &&& (65535 : Int32))).toUInt32.toUInt16.toUInt32.toInt32).toInt = v1.toInt := congrArg Int32.toInt hv1
          have fc24 : (32 : Int32).toInt = 32 := rfl
          have fc27 : (31 : Int32).toInt = 31 := rfl
          have fo28 : (v1 &&& (31 : Int32)).toInt = v1.toInt % 32 := c_mask v1 (31 : Int32) 5 (by decide) (by decide)
          have fc29 : (63 : Int32).toInt = 63 := rfl
          have fo30 : (v1 &&& (63 : Int32)).toInt = v1.toInt % 64 := c_mask v1 (63 : Int32) 6 (by decide) (by decide)
          have fo26 := own_blk v1 (32 : Int32) (31 : Int32) (63 : Int32) (by decide) (by decide)
          have fo31 := c_and v1 (32 : Int32) (by decide)
          have fr32 := rng32 (v1 &&& (32 : Int32))
          have fo25 := own_or v1 (32 : Int32)
          have fr33 := rng32 (v1 ||| (32 : Int32))
          have fe34 : (v1 ||| (32 : Int32)).toInt = v2.toInt := congrArg Int32.toInt hv2
          have fc35 : (97 : Int32).toInt = 97 := rfl
          have fc36 : (48 : Int32).toInt = 48 := rfl
          have fo37 := c_isub v1 (48 : Int32)
          have fr38 := rng32 (v1 - (48 : Int32))
          have fo39 : ((v1 - (48 : Int32)) &&& (65535 : Int32)).toInt = (v1 - (48 : Int32)).toInt % 65536 := c_mask (v1 - (48 : Int32)) (65535 : Int32) 16 (by decide) (by decide)
          have fc40 : (10 : Int32).toInt = 10 := rfl
          have fc41 : (95 : Int32).toInt = 95 := rfl
          have fc42 : (0 : Int32).toInt = 0 := rfl
          have fc43 : (1 : Int32).toInt = 1 := rfl
          have fr44 := rng32 r11
          omega
      · skip
        refine g_icmp_ne_t 58 C X0 at_51 (by decide) (by decide) hb5 ?_
        refine g_iconst 59 rfl C X0 (0 : Int32) at_58 rfl ?_
        refine g_istore 61 rfl C X0 (0 : Int32) rfl #[.val (.int p0), .val (.int v1), .val (.int v2), .val (.int (0 : Int32)), .val (.int (1 : Int32)), .val (.int (0 : Int32)), .unset] at_59 rfl ?_
        refine g_iloadN 62 rfl C X0 at_61 rfl ?_
        refine g_if_ne_f 65 rfl C X0 at_62 (by decide) ?_
        refine g_iload 67 rfl C X0 at_65 rfl ?_
        refine g_if_ne_t 75 C X0 at_67 (by decide) (by decide) (by decide) ?_
        refine g_iconst 76 rfl C X0 (1 : Int32) at_75 rfl ?_
        refine g_goto 80 C X0 at_76 (by decide) (by decide) ?_
        refine g_istore 82 rfl C X0 (1 : Int32) rfl #[.val (.int p0), .val (.int v1), .val (.int v2), .val (.int (0 : Int32)), .val (.int (1 : Int32)), .val (.int (0 : Int32)), .val (.int (1 : Int32))] at_80 rfl ?_
        refine g_iloadN 83 rfl C X0 at_82 rfl ?_
        refine g_callS 86 rfl C X0 (argsL := [(.int v1)]) (hw _ (List.mem_of_getElem? (i := 1) rfl)) (hw _ (List.mem_of_getElem? (i := 2) rfl)) (hw _ (List.mem_of_getElem? (i := 4) rfl)) (hw _ (List.mem_of_getElem? (i := 3) rfl)) e0 (rm1 l Z a0 hw [] v1 h0 n0 Z0) (lenOf pd_52578335 rfl) (by decide) (by decide) (by decide) (by decide) rfl (W := 0) (by decide) (by decide) at_83 rfl fun r45 T46 Lc47 X48 hQ49 => ?_
        obtain ⟨r50, rfl, hs51, Nq52, eh53⟩ := hQ49
        have N54 := Fr.app N0 Nq52
        show Goes _ _ _ _ _ _ 86 _ [(.int r50)]
        refine g_iload 88 rfl C X48 at_86 rfl ?_
        by_cases hb55 : r50.toInt = (1 : Int32).toInt
        · skip
          refine g_icmp_ne_f 91 rfl C X48 at_88 hb55 ?_
          refine g_iconst 92 rfl C X48 (1 : Int32) at_91 rfl ?_
          refine g_goto 96 C X48 at_92 (by decide) (by decide) ?_
          exact g_retN C X48 (z' := (1 : Int32)) rfl (Or.inl rfl) at_96 eh53 (by decide) (by decide) rfl ⟨rfl, N54⟩
        · skip
          refine g_icmp_ne_t 95 C X48 at_88 (by decide) (by decide) hb55 ?_
          refine g_iconst 96 rfl C X48 (0 : Int32) at_95 rfl ?_
          exfalso
          have fr56 := rng32 v2
          have fr57 := rng32 v1
          have fr58 := rng32 p0
          have fc59 : (65535 : Int32).toInt = 65535 := rfl
          have fo60 : (p0 &&& (65535 : Int32)).toInt = p0.toInt % 65536 := c_mask p0 (65535 : Int32) 16 (by decide) (by decide)
          have fo61 := c_i2c (p0 &&& (65535 : Int32))
          have fe62 : (((p0 &&& (65535 : Int32))).toUInt32.toUInt16.toUInt32.toInt32).toInt = v1.toInt := congrArg Int32.toInt hv1
          have fc63 : (32 : Int32).toInt = 32 := rfl
          have fc66 : (31 : Int32).toInt = 31 := rfl
          have fo67 : (v1 &&& (31 : Int32)).toInt = v1.toInt % 32 := c_mask v1 (31 : Int32) 5 (by decide) (by decide)
          have fc68 : (63 : Int32).toInt = 63 := rfl
          have fo69 : (v1 &&& (63 : Int32)).toInt = v1.toInt % 64 := c_mask v1 (63 : Int32) 6 (by decide) (by decide)
          have fo65 := own_blk v1 (32 : Int32) (31 : Int32) (63 : Int32) (by decide) (by decide)
          have fo70 := c_and v1 (32 : Int32) (by decide)
          have fr71 := rng32 (v1 &&& (32 : Int32))
          have fo64 := own_or v1 (32 : Int32)
          have fr72 := rng32 (v1 ||| (32 : Int32))
          have fe73 : (v1 ||| (32 : Int32)).toInt = v2.toInt := congrArg Int32.toInt hv2
          have fc74 : (97 : Int32).toInt = 97 := rfl
          have fc75 : (48 : Int32).toInt = 48 := rfl
          have fo76 := c_isub v1 (48 : Int32)
          have fr77 := rng32 (v1 - (48 : Int32))
          have fo78 : ((v1 - (48 : Int32)) &&& (65535 : Int32)).toInt = (v1 - (48 : Int32)).toInt % 65536 := c_mask (v1 - (48 : Int32)) (65535 : Int32) 16 (by decide) (by decide)
          have fc79 : (10 : Int32).toInt = 10 := rfl
          have fc80 : (95 : Int32).toInt = 95 := rfl
          have fc81 : (0 : Int32).toInt = 0 := rfl
          have fc82 : (1 : Int32).toInt = 1 := rfl
          have fr83 := rng32 r50
          omega
    · skip
      refine g_icmp_ge_t 45 C X0 at_38 (by decide) (by decide) hb4 ?_
      refine g_iconst 46 rfl C X0 (0 : Int32) at_45 rfl ?_
      refine g_istore 48 rfl C X0 (0 : Int32) rfl #[.val (.int p0), .val (.int v1), .val (.int v2), .val (.int (0 : Int32)), .val (.int (0 : Int32)), .unset, .unset] at_46 rfl ?_
      refine g_iloadN 49 rfl C X0 at_48 rfl ?_
      refine g_bipush 51 rfl C X0 (95 : Int32) at_49 rfl ?_
      by_cases hb84 : v1.toInt = (95 : Int32).toInt
      · skip
        refine g_icmp_ne_f 54 rfl C X0 at_51 hb84 ?_
        refine g_iconst 55 rfl C X0 (1 : Int32) at_54 rfl ?_
        refine g_goto 59 C X0 at_55 (by decide) (by decide) ?_
        refine g_istore 61 rfl C X0 (1 : Int32) rfl #[.val (.int p0), .val (.int v1), .val (.int v2), .val (.int (0 : Int32)), .val (.int (0 : Int32)), .val (.int (1 : Int32)), .unset] at_59 rfl ?_
        refine g_iloadN 62 rfl C X0 at_61 rfl ?_
        refine g_if_ne_f 65 rfl C X0 at_62 (by decide) ?_
        refine g_iload 67 rfl C X0 at_65 rfl ?_
        refine g_if_ne_f 70 rfl C X0 at_67 (by decide) ?_
        refine g_iload 72 rfl C X0 at_70 rfl ?_
        refine g_if_eq_f 75 rfl C X0 at_72 (by decide) ?_
        refine g_iconst 76 rfl C X0 (1 : Int32) at_75 rfl ?_
        refine g_goto 80 C X0 at_76 (by decide) (by decide) ?_
        refine g_istore 82 rfl C X0 (1 : Int32) rfl #[.val (.int p0), .val (.int v1), .val (.int v2), .val (.int (0 : Int32)), .val (.int (0 : Int32)), .val (.int (1 : Int32)), .val (.int (1 : Int32))] at_80 rfl ?_
        refine g_iloadN 83 rfl C X0 at_82 rfl ?_
        refine g_callS 86 rfl C X0 (argsL := [(.int v1)]) (hw _ (List.mem_of_getElem? (i := 1) rfl)) (hw _ (List.mem_of_getElem? (i := 2) rfl)) (hw _ (List.mem_of_getElem? (i := 4) rfl)) (hw _ (List.mem_of_getElem? (i := 3) rfl)) e0 (rm1 l Z a0 hw [] v1 h0 n0 Z0) (lenOf pd_52578335 rfl) (by decide) (by decide) (by decide) (by decide) rfl (W := 0) (by decide) (by decide) at_83 rfl fun r85 T86 Lc87 X88 hQ89 => ?_
        obtain ⟨r90, rfl, hs91, Nq92, eh93⟩ := hQ89
        have N94 := Fr.app N0 Nq92
        show Goes _ _ _ _ _ _ 86 _ [(.int r90)]
        refine g_iload 88 rfl C X88 at_86 rfl ?_
        by_cases hb95 : r90.toInt = (1 : Int32).toInt
        · skip
          refine g_icmp_ne_f 91 rfl C X88 at_88 hb95 ?_
          refine g_iconst 92 rfl C X88 (1 : Int32) at_91 rfl ?_
          refine g_goto 96 C X88 at_92 (by decide) (by decide) ?_
          exact g_retN C X88 (z' := (1 : Int32)) rfl (Or.inl rfl) at_96 eh93 (by decide) (by decide) rfl ⟨rfl, N94⟩
        · skip
          refine g_icmp_ne_t 95 C X88 at_88 (by decide) (by decide) hb95 ?_
          refine g_iconst 96 rfl C X88 (0 : Int32) at_95 rfl ?_
          exfalso
          have fr96 := rng32 v2
          have fr97 := rng32 v1
          have fr98 := rng32 p0
          have fc99 : (65535 : Int32).toInt = 65535 := rfl
          have fo100 : (p0 &&& (65535 : Int32)).toInt = p0.toInt % 65536 := c_mask p0 (65535 : Int32) 16 (by decide) (by decide)
          have fo101 := c_i2c (p0 &&& (65535 : Int32))
          have fe102 : (((p0 &&& (65535 : Int32))).toUInt32.toUInt16.toUInt32.toInt32).toInt = v1.toInt := congrArg Int32.toInt hv1
          have fc103 : (32 : Int32).toInt = 32 := rfl
          have fc106 : (31 : Int32).toInt = 31 := rfl
          have fo107 : (v1 &&& (31 : Int32)).toInt = v1.toInt % 32 := c_mask v1 (31 : Int32) 5 (by decide) (by decide)
          have fc108 : (63 : Int32).toInt = 63 := rfl
          have fo109 : (v1 &&& (63 : Int32)).toInt = v1.toInt % 64 := c_mask v1 (63 : Int32) 6 (by decide) (by decide)
          have fo105 := own_blk v1 (32 : Int32) (31 : Int32) (63 : Int32) (by decide) (by decide)
          have fo110 := c_and v1 (32 : Int32) (by decide)
          have fr111 := rng32 (v1 &&& (32 : Int32))
          have fo104 := own_or v1 (32 : Int32)
          have fr112 := rng32 (v1 ||| (32 : Int32))
          have fe113 : (v1 ||| (32 : Int32)).toInt = v2.toInt := congrArg Int32.toInt hv2
          have fc114 : (97 : Int32).toInt = 97 := rfl
          have fc115 : (48 : Int32).toInt = 48 := rfl
          have fo116 := c_isub v1 (48 : Int32)
          have fr117 := rng32 (v1 - (48 : Int32))
          have fo118 : ((v1 - (48 : Int32)) &&& (65535 : Int32)).toInt = (v1 - (48 : Int32)).toInt % 65536 := c_mask (v1 - (48 : Int32)) (65535 : Int32) 16 (by decide) (by decide)
          have fc119 : (10 : Int32).toInt = 10 := rfl
          have fc120 : (95 : Int32).toInt = 95 := rfl
          have fc121 : (0 : Int32).toInt = 0 := rfl
          have fc122 : (1 : Int32).toInt = 1 := rfl
          have fr123 := rng32 r90
          omega
      · skip
        refine g_icmp_ne_t 58 C X0 at_51 (by decide) (by decide) hb84 ?_
        refine g_iconst 59 rfl C X0 (0 : Int32) at_58 rfl ?_
        refine g_istore 61 rfl C X0 (0 : Int32) rfl #[.val (.int p0), .val (.int v1), .val (.int v2), .val (.int (0 : Int32)), .val (.int (0 : Int32)), .val (.int (0 : Int32)), .unset] at_59 rfl ?_
        refine g_iloadN 62 rfl C X0 at_61 rfl ?_
        refine g_if_ne_f 65 rfl C X0 at_62 (by decide) ?_
        refine g_iload 67 rfl C X0 at_65 rfl ?_
        refine g_if_ne_f 70 rfl C X0 at_67 (by decide) ?_
        refine g_iload 72 rfl C X0 at_70 rfl ?_
        refine g_if_eq_t 79 C X0 at_72 (by decide) (by decide) (by decide) ?_
        refine g_iconst 80 rfl C X0 (0 : Int32) at_79 rfl ?_
        refine g_istore 82 rfl C X0 (0 : Int32) rfl #[.val (.int p0), .val (.int v1), .val (.int v2), .val (.int (0 : Int32)), .val (.int (0 : Int32)), .val (.int (0 : Int32)), .val (.int (0 : Int32))] at_80 rfl ?_
        refine g_iloadN 83 rfl C X0 at_82 rfl ?_
        refine g_callS 86 rfl C X0 (argsL := [(.int v1)]) (hw _ (List.mem_of_getElem? (i := 1) rfl)) (hw _ (List.mem_of_getElem? (i := 2) rfl)) (hw _ (List.mem_of_getElem? (i := 4) rfl)) (hw _ (List.mem_of_getElem? (i := 3) rfl)) e0 (rm1 l Z a0 hw [] v1 h0 n0 Z0) (lenOf pd_52578335 rfl) (by decide) (by decide) (by decide) (by decide) rfl (W := 0) (by decide) (by decide) at_83 rfl fun r124 T125 Lc126 X127 hQ128 => ?_
        obtain ⟨r129, rfl, hs130, Nq131, eh132⟩ := hQ128
        have N133 := Fr.app N0 Nq131
        show Goes _ _ _ _ _ _ 86 _ [(.int r129)]
        refine g_iload 88 rfl C X127 at_86 rfl ?_
        by_cases hb134 : r129.toInt = (0 : Int32).toInt
        · skip
          refine g_icmp_ne_f 91 rfl C X127 at_88 hb134 ?_
          refine g_iconst 92 rfl C X127 (1 : Int32) at_91 rfl ?_
          refine g_goto 96 C X127 at_92 (by decide) (by decide) ?_
          exact g_retN C X127 (z' := (1 : Int32)) rfl (Or.inl rfl) at_96 eh132 (by decide) (by decide) rfl ⟨rfl, N133⟩
        · skip
          refine g_icmp_ne_t 95 C X127 at_88 (by decide) (by decide) hb134 ?_
          refine g_iconst 96 rfl C X127 (0 : Int32) at_95 rfl ?_
          exfalso
          have fr135 := rng32 v2
          have fr136 := rng32 v1
          have fr137 := rng32 p0
          have fc138 : (65535 : Int32).toInt = 65535 := rfl
          have fo139 : (p0 &&& (65535 : Int32)).toInt = p0.toInt % 65536 := c_mask p0 (65535 : Int32) 16 (by decide) (by decide)
          have fo140 := c_i2c (p0 &&& (65535 : Int32))
          have fe141 : (((p0 &&& (65535 : Int32))).toUInt32.toUInt16.toUInt32.toInt32).toInt = v1.toInt := congrArg Int32.toInt hv1
          have fc142 : (32 : Int32).toInt = 32 := rfl
          have fc145 : (31 : Int32).toInt = 31 := rfl
          have fo146 : (v1 &&& (31 : Int32)).toInt = v1.toInt % 32 := c_mask v1 (31 : Int32) 5 (by decide) (by decide)
          have fc147 : (63 : Int32).toInt = 63 := rfl
          have fo148 : (v1 &&& (63 : Int32)).toInt = v1.toInt % 64 := c_mask v1 (63 : Int32) 6 (by decide) (by decide)
          have fo144 := own_blk v1 (32 : Int32) (31 : Int32) (63 : Int32) (by decide) (by decide)
          have fo149 := c_and v1 (32 : Int32) (by decide)
          have fr150 := rng32 (v1 &&& (32 : Int32))
          have fo143 := own_or v1 (32 : Int32)
          have fr151 := rng32 (v1 ||| (32 : Int32))
          have fe152 : (v1 ||| (32 : Int32)).toInt = v2.toInt := congrArg Int32.toInt hv2
          have fc153 : (97 : Int32).toInt = 97 := rfl
          have fc154 : (48 : Int32).toInt = 48 := rfl
          have fo155 := c_isub v1 (48 : Int32)
          have fr156 := rng32 (v1 - (48 : Int32))
          have fo157 : ((v1 - (48 : Int32)) &&& (65535 : Int32)).toInt = (v1 - (48 : Int32)).toInt % 65536 := c_mask (v1 - (48 : Int32)) (65535 : Int32) 16 (by decide) (by decide)
          have fc158 : (10 : Int32).toInt = 10 := rfl
          have fc159 : (95 : Int32).toInt = 95 := rfl
          have fc160 : (0 : Int32).toInt = 0 := rfl
          have fr161 := rng32 r129
          omega
  · skip
    refine g_icmp_lt_f 17 rfl C X0 at_14 hb3 ?_
    refine g_iloadN 18 rfl C X0 at_17 rfl ?_
    refine g_bipush 20 rfl C X0 (122 : Int32) at_18 rfl ?_
    by_cases hb162 : (122 : Int32).toInt < v2.toInt
    · skip
      refine g_icmp_gt_t 27 C X0 at_20 (by decide) (by decide) hb162 ?_
      refine g_iconst 28 rfl C X0 (0 : Int32) at_27 rfl ?_
      refine g_istoreN 29 rfl C X0 (0 : Int32) rfl #[.val (.int p0), .val (.int v1), .val (.int v2), .val (.int (0 : Int32)), .unset, .unset, .unset] at_28 rfl ?_
      refine g_iloadN 30 rfl C X0 at_29 rfl ?_
      refine g_bipush 32 rfl C X0 (48 : Int32) at_30 rfl ?_
      refine g_isub 33 rfl C X0 at_32 ?_
      refine g_ldc 35 rfl C X0 (hw _ (List.mem_of_getElem? (i := 0) rfl)) at_33 ?_
      refine g_iand 36 rfl C X0 at_35 ?_
      refine g_bipush 38 rfl C X0 (10 : Int32) at_36 rfl ?_
      by_cases hb163 : ((v1 - (48 : Int32)) &&& (65535 : Int32)).toInt < (10 : Int32).toInt
      · skip
        refine g_icmp_ge_f 41 rfl C X0 at_38 hb163 ?_
        refine g_iconst 42 rfl C X0 (1 : Int32) at_41 rfl ?_
        refine g_goto 46 C X0 at_42 (by decide) (by decide) ?_
        refine g_istore 48 rfl C X0 (1 : Int32) rfl #[.val (.int p0), .val (.int v1), .val (.int v2), .val (.int (0 : Int32)), .val (.int (1 : Int32)), .unset, .unset] at_46 rfl ?_
        refine g_iloadN 49 rfl C X0 at_48 rfl ?_
        refine g_bipush 51 rfl C X0 (95 : Int32) at_49 rfl ?_
        by_cases hb164 : v1.toInt = (95 : Int32).toInt
        · skip
          refine g_icmp_ne_f 54 rfl C X0 at_51 hb164 ?_
          refine g_iconst 55 rfl C X0 (1 : Int32) at_54 rfl ?_
          refine g_goto 59 C X0 at_55 (by decide) (by decide) ?_
          refine g_istore 61 rfl C X0 (1 : Int32) rfl #[.val (.int p0), .val (.int v1), .val (.int v2), .val (.int (0 : Int32)), .val (.int (1 : Int32)), .val (.int (1 : Int32)), .unset] at_59 rfl ?_
          refine g_iloadN 62 rfl C X0 at_61 rfl ?_
          refine g_if_ne_f 65 rfl C X0 at_62 (by decide) ?_
          refine g_iload 67 rfl C X0 at_65 rfl ?_
          refine g_if_ne_t 75 C X0 at_67 (by decide) (by decide) (by decide) ?_
          refine g_iconst 76 rfl C X0 (1 : Int32) at_75 rfl ?_
          refine g_goto 80 C X0 at_76 (by decide) (by decide) ?_
          refine g_istore 82 rfl C X0 (1 : Int32) rfl #[.val (.int p0), .val (.int v1), .val (.int v2), .val (.int (0 : Int32)), .val (.int (1 : Int32)), .val (.int (1 : Int32)), .val (.int (1 : Int32))] at_80 rfl ?_
          refine g_iloadN 83 rfl C X0 at_82 rfl ?_
          refine g_callS 86 rfl C X0 (argsL := [(.int v1)]) (hw _ (List.mem_of_getElem? (i := 1) rfl)) (hw _ (List.mem_of_getElem? (i := 2) rfl)) (hw _ (List.mem_of_getElem? (i := 4) rfl)) (hw _ (List.mem_of_getElem? (i := 3) rfl)) e0 (rm1 l Z a0 hw [] v1 h0 n0 Z0) (lenOf pd_52578335 rfl) (by decide) (by decide) (by decide) (by decide) rfl (W := 0) (by decide) (by decide) at_83 rfl fun r165 T166 Lc167 X168 hQ169 => ?_
          obtain ⟨r170, rfl, hs171, Nq172, eh173⟩ := hQ169
          have N174 := Fr.app N0 Nq172
          show Goes _ _ _ _ _ _ 86 _ [(.int r170)]
          refine g_iload 88 rfl C X168 at_86 rfl ?_
          by_cases hb175 : r170.toInt = (1 : Int32).toInt
          · skip
            refine g_icmp_ne_f 91 rfl C X168 at_88 hb175 ?_
            refine g_iconst 92 rfl C X168 (1 : Int32) at_91 rfl ?_
            refine g_goto 96 C X168 at_92 (by decide) (by decide) ?_
            exact g_retN C X168 (z' := (1 : Int32)) rfl (Or.inl rfl) at_96 eh173 (by decide) (by decide) rfl ⟨rfl, N174⟩
          · skip
            refine g_icmp_ne_t 95 C X168 at_88 (by decide) (by decide) hb175 ?_
            refine g_iconst 96 rfl C X168 (0 : Int32) at_95 rfl ?_
            exfalso
            have fr176 := rng32 v2
            have fr177 := rng32 v1
            have fr178 := rng32 p0
            have fc179 : (65535 : Int32).toInt = 65535 := rfl
            have fo180 : (p0 &&& (65535 : Int32)).toInt = p0.toInt % 65536 := c_mask p0 (65535 : Int32) 16 (by decide) (by decide)
            have fo181 := c_i2c (p0 &&& (65535 : Int32))
            have fe182 : (((p0 &&& (65535 : Int32))).toUInt32.toUInt16.toUInt32.toInt32).toInt = v1.toInt := congrArg Int32.toInt hv1
            have fc183 : (32 : Int32).toInt = 32 := rfl
            have fc186 : (31 : Int32).toInt = 31 := rfl
            have fo187 : (v1 &&& (31 : Int32)).toInt = v1.toInt % 32 := c_mask v1 (31 : Int32) 5 (by decide) (by decide)
            have fc188 : (63 : Int32).toInt = 63 := rfl
            have fo189 : (v1 &&& (63 : Int32)).toInt = v1.toInt % 64 := c_mask v1 (63 : Int32) 6 (by decide) (by decide)
            have fo185 := own_blk v1 (32 : Int32) (31 : Int32) (63 : Int32) (by decide) (by decide)
            have fo190 := c_and v1 (32 : Int32) (by decide)
            have fr191 := rng32 (v1 &&& (32 : Int32))
            have fo184 := own_or v1 (32 : Int32)
            have fr192 := rng32 (v1 ||| (32 : Int32))
            have fe193 : (v1 ||| (32 : Int32)).toInt = v2.toInt := congrArg Int32.toInt hv2
            have fc194 : (97 : Int32).toInt = 97 := rfl
            have fc195 : (122 : Int32).toInt = 122 := rfl
            have fc196 : (48 : Int32).toInt = 48 := rfl
            have fo197 := c_isub v1 (48 : Int32)
            have fr198 := rng32 (v1 - (48 : Int32))
            have fo199 : ((v1 - (48 : Int32)) &&& (65535 : Int32)).toInt = (v1 - (48 : Int32)).toInt % 65536 := c_mask (v1 - (48 : Int32)) (65535 : Int32) 16 (by decide) (by decide)
            have fc200 : (10 : Int32).toInt = 10 := rfl
            have fc201 : (95 : Int32).toInt = 95 := rfl
            have fc202 : (0 : Int32).toInt = 0 := rfl
            have fc203 : (1 : Int32).toInt = 1 := rfl
            have fr204 := rng32 r170
            omega
        · skip
          refine g_icmp_ne_t 58 C X0 at_51 (by decide) (by decide) hb164 ?_
          refine g_iconst 59 rfl C X0 (0 : Int32) at_58 rfl ?_
          refine g_istore 61 rfl C X0 (0 : Int32) rfl #[.val (.int p0), .val (.int v1), .val (.int v2), .val (.int (0 : Int32)), .val (.int (1 : Int32)), .val (.int (0 : Int32)), .unset] at_59 rfl ?_
          refine g_iloadN 62 rfl C X0 at_61 rfl ?_
          refine g_if_ne_f 65 rfl C X0 at_62 (by decide) ?_
          refine g_iload 67 rfl C X0 at_65 rfl ?_
          refine g_if_ne_t 75 C X0 at_67 (by decide) (by decide) (by decide) ?_
          refine g_iconst 76 rfl C X0 (1 : Int32) at_75 rfl ?_
          refine g_goto 80 C X0 at_76 (by decide) (by decide) ?_
          refine g_istore 82 rfl C X0 (1 : Int32) rfl #[.val (.int p0), .val (.int v1), .val (.int v2), .val (.int (0 : Int32)), .val (.int (1 : Int32)), .val (.int (0 : Int32)), .val (.int (1 : Int32))] at_80 rfl ?_
          refine g_iloadN 83 rfl C X0 at_82 rfl ?_
          refine g_callS 86 rfl C X0 (argsL := [(.int v1)]) (hw _ (List.mem_of_getElem? (i := 1) rfl)) (hw _ (List.mem_of_getElem? (i := 2) rfl)) (hw _ (List.mem_of_getElem? (i := 4) rfl)) (hw _ (List.mem_of_getElem? (i := 3) rfl)) e0 (rm1 l Z a0 hw [] v1 h0 n0 Z0) (lenOf pd_52578335 rfl) (by decide) (by decide) (by decide) (by decide) rfl (W := 0) (by decide) (by decide) at_83 rfl fun r205 T206 Lc207 X208 hQ209 => ?_
          obtain ⟨r210, rfl, hs211, Nq212, eh213⟩ := hQ209
          have N214 := Fr.app N0 Nq212
          show Goes _ _ _ _ _ _ 86 _ [(.int r210)]
          refine g_iload 88 rfl C X208 at_86 rfl ?_
          by_cases hb215 : r210.toInt = (1 : Int32).toInt
          · skip
            refine g_icmp_ne_f 91 rfl C X208 at_88 hb215 ?_
            refine g_iconst 92 rfl C X208 (1 : Int32) at_91 rfl ?_
            refine g_goto 96 C X208 at_92 (by decide) (by decide) ?_
            exact g_retN C X208 (z' := (1 : Int32)) rfl (Or.inl rfl) at_96 eh213 (by decide) (by decide) rfl ⟨rfl, N214⟩
          · skip
            refine g_icmp_ne_t 95 C X208 at_88 (by decide) (by decide) hb215 ?_
            refine g_iconst 96 rfl C X208 (0 : Int32) at_95 rfl ?_
            exfalso
            have fr216 := rng32 v2
            have fr217 := rng32 v1
            have fr218 := rng32 p0
            have fc219 : (65535 : Int32).toInt = 65535 := rfl
            have fo220 : (p0 &&& (65535 : Int32)).toInt = p0.toInt % 65536 := c_mask p0 (65535 : Int32) 16 (by decide) (by decide)
            have fo221 := c_i2c (p0 &&& (65535 : Int32))
            have fe222 : (((p0 &&& (65535 : Int32))).toUInt32.toUInt16.toUInt32.toInt32).toInt = v1.toInt := congrArg Int32.toInt hv1
            have fc223 : (32 : Int32).toInt = 32 := rfl
            have fc226 : (31 : Int32).toInt = 31 := rfl
            have fo227 : (v1 &&& (31 : Int32)).toInt = v1.toInt % 32 := c_mask v1 (31 : Int32) 5 (by decide) (by decide)
            have fc228 : (63 : Int32).toInt = 63 := rfl
            have fo229 : (v1 &&& (63 : Int32)).toInt = v1.toInt % 64 := c_mask v1 (63 : Int32) 6 (by decide) (by decide)
            have fo225 := own_blk v1 (32 : Int32) (31 : Int32) (63 : Int32) (by decide) (by decide)
            have fo230 := c_and v1 (32 : Int32) (by decide)
            have fr231 := rng32 (v1 &&& (32 : Int32))
            have fo224 := own_or v1 (32 : Int32)
            have fr232 := rng32 (v1 ||| (32 : Int32))
            have fe233 : (v1 ||| (32 : Int32)).toInt = v2.toInt := congrArg Int32.toInt hv2
            have fc234 : (97 : Int32).toInt = 97 := rfl
            have fc235 : (122 : Int32).toInt = 122 := rfl
            have fc236 : (48 : Int32).toInt = 48 := rfl
            have fo237 := c_isub v1 (48 : Int32)
            have fr238 := rng32 (v1 - (48 : Int32))
            have fo239 : ((v1 - (48 : Int32)) &&& (65535 : Int32)).toInt = (v1 - (48 : Int32)).toInt % 65536 := c_mask (v1 - (48 : Int32)) (65535 : Int32) 16 (by decide) (by decide)
            have fc240 : (10 : Int32).toInt = 10 := rfl
            have fc241 : (95 : Int32).toInt = 95 := rfl
            have fc242 : (0 : Int32).toInt = 0 := rfl
            have fc243 : (1 : Int32).toInt = 1 := rfl
            have fr244 := rng32 r210
            omega
      · skip
        refine g_icmp_ge_t 45 C X0 at_38 (by decide) (by decide) hb163 ?_
        refine g_iconst 46 rfl C X0 (0 : Int32) at_45 rfl ?_
        refine g_istore 48 rfl C X0 (0 : Int32) rfl #[.val (.int p0), .val (.int v1), .val (.int v2), .val (.int (0 : Int32)), .val (.int (0 : Int32)), .unset, .unset] at_46 rfl ?_
        refine g_iloadN 49 rfl C X0 at_48 rfl ?_
        refine g_bipush 51 rfl C X0 (95 : Int32) at_49 rfl ?_
        by_cases hb245 : v1.toInt = (95 : Int32).toInt
        · skip
          refine g_icmp_ne_f 54 rfl C X0 at_51 hb245 ?_
          refine g_iconst 55 rfl C X0 (1 : Int32) at_54 rfl ?_
          refine g_goto 59 C X0 at_55 (by decide) (by decide) ?_
          refine g_istore 61 rfl C X0 (1 : Int32) rfl #[.val (.int p0), .val (.int v1), .val (.int v2), .val (.int (0 : Int32)), .val (.int (0 : Int32)), .val (.int (1 : Int32)), .unset] at_59 rfl ?_
          refine g_iloadN 62 rfl C X0 at_61 rfl ?_
          refine g_if_ne_f 65 rfl C X0 at_62 (by decide) ?_
          refine g_iload 67 rfl C X0 at_65 rfl ?_
          refine g_if_ne_f 70 rfl C X0 at_67 (by decide) ?_
          refine g_iload 72 rfl C X0 at_70 rfl ?_
          refine g_if_eq_f 75 rfl C X0 at_72 (by decide) ?_
          refine g_iconst 76 rfl C X0 (1 : Int32) at_75 rfl ?_
          refine g_goto 80 C X0 at_76 (by decide) (by decide) ?_
          refine g_istore 82 rfl C X0 (1 : Int32) rfl #[.val (.int p0), .val (.int v1), .val (.int v2), .val (.int (0 : Int32)), .val (.int (0 : Int32)), .val (.int (1 : Int32)), .val (.int (1 : Int32))] at_80 rfl ?_
          refine g_iloadN 83 rfl C X0 at_82 rfl ?_
          refine g_callS 86 rfl C X0 (argsL := [(.int v1)]) (hw _ (List.mem_of_getElem? (i := 1) rfl)) (hw _ (List.mem_of_getElem? (i := 2) rfl)) (hw _ (List.mem_of_getElem? (i := 4) rfl)) (hw _ (List.mem_of_getElem? (i := 3) rfl)) e0 (rm1 l Z a0 hw [] v1 h0 n0 Z0) (lenOf pd_52578335 rfl) (by decide) (by decide) (by decide) (by decide) rfl (W := 0) (by decide) (by decide) at_83 rfl fun r246 T247 Lc248 X249 hQ250 => ?_
          obtain ⟨r251, rfl, hs252, Nq253, eh254⟩ := hQ250
          have N255 := Fr.app N0 Nq253
          show Goes _ _ _ _ _ _ 86 _ [(.int r251)]
          refine g_iload 88 rfl C X249 at_86 rfl ?_
          by_cases hb256 : r251.toInt = (1 : Int32).toInt
          · skip
            refine g_icmp_ne_f 91 rfl C X249 at_88 hb256 ?_
            refine g_iconst 92 rfl C X249 (1 : Int32) at_91 rfl ?_
            refine g_goto 96 C X249 at_92 (by decide) (by decide) ?_
            exact g_retN C X249 (z' := (1 : Int32)) rfl (Or.inl rfl) at_96 eh254 (by decide) (by decide) rfl ⟨rfl, N255⟩
          · skip
            refine g_icmp_ne_t 95 C X249 at_88 (by decide) (by decide) hb256 ?_
            refine g_iconst 96 rfl C X249 (0 : Int32) at_95 rfl ?_
            exfalso
            have fr257 := rng32 v2
            have fr258 := rng32 v1
            have fr259 := rng32 p0
            have fc260 : (65535 : Int32).toInt = 65535 := rfl
            have fo261 : (p0 &&& (65535 : Int32)).toInt = p0.toInt % 65536 := c_mask p0 (65535 : Int32) 16 (by decide) (by decide)
            have fo262 := c_i2c (p0 &&& (65535 : Int32))
            have fe263 : (((p0 &&& (65535 : Int32))).toUInt32.toUInt16.toUInt32.toInt32).toInt = v1.toInt := congrArg Int32.toInt hv1
            have fc264 : (32 : Int32).toInt = 32 := rfl
            have fc267 : (31 : Int32).toInt = 31 := rfl
            have fo268 : (v1 &&& (31 : Int32)).toInt = v1.toInt % 32 := c_mask v1 (31 : Int32) 5 (by decide) (by decide)
            have fc269 : (63 : Int32).toInt = 63 := rfl
            have fo270 : (v1 &&& (63 : Int32)).toInt = v1.toInt % 64 := c_mask v1 (63 : Int32) 6 (by decide) (by decide)
            have fo266 := own_blk v1 (32 : Int32) (31 : Int32) (63 : Int32) (by decide) (by decide)
            have fo271 := c_and v1 (32 : Int32) (by decide)
            have fr272 := rng32 (v1 &&& (32 : Int32))
            have fo265 := own_or v1 (32 : Int32)
            have fr273 := rng32 (v1 ||| (32 : Int32))
            have fe274 : (v1 ||| (32 : Int32)).toInt = v2.toInt := congrArg Int32.toInt hv2
            have fc275 : (97 : Int32).toInt = 97 := rfl
            have fc276 : (122 : Int32).toInt = 122 := rfl
            have fc277 : (48 : Int32).toInt = 48 := rfl
            have fo278 := c_isub v1 (48 : Int32)
            have fr279 := rng32 (v1 - (48 : Int32))
            have fo280 : ((v1 - (48 : Int32)) &&& (65535 : Int32)).toInt = (v1 - (48 : Int32)).toInt % 65536 := c_mask (v1 - (48 : Int32)) (65535 : Int32) 16 (by decide) (by decide)
            have fc281 : (10 : Int32).toInt = 10 := rfl
            have fc282 : (95 : Int32).toInt = 95 := rfl
            have fc283 : (0 : Int32).toInt = 0 := rfl
            have fc284 : (1 : Int32).toInt = 1 := rfl
            have fr285 := rng32 r251
            omega
        · skip
          refine g_icmp_ne_t 58 C X0 at_51 (by decide) (by decide) hb245 ?_
          refine g_iconst 59 rfl C X0 (0 : Int32) at_58 rfl ?_
          refine g_istore 61 rfl C X0 (0 : Int32) rfl #[.val (.int p0), .val (.int v1), .val (.int v2), .val (.int (0 : Int32)), .val (.int (0 : Int32)), .val (.int (0 : Int32)), .unset] at_59 rfl ?_
          refine g_iloadN 62 rfl C X0 at_61 rfl ?_
          refine g_if_ne_f 65 rfl C X0 at_62 (by decide) ?_
          refine g_iload 67 rfl C X0 at_65 rfl ?_
          refine g_if_ne_f 70 rfl C X0 at_67 (by decide) ?_
          refine g_iload 72 rfl C X0 at_70 rfl ?_
          refine g_if_eq_t 79 C X0 at_72 (by decide) (by decide) (by decide) ?_
          refine g_iconst 80 rfl C X0 (0 : Int32) at_79 rfl ?_
          refine g_istore 82 rfl C X0 (0 : Int32) rfl #[.val (.int p0), .val (.int v1), .val (.int v2), .val (.int (0 : Int32)), .val (.int (0 : Int32)), .val (.int (0 : Int32)), .val (.int (0 : Int32))] at_80 rfl ?_
          refine g_iloadN 83 rfl C X0 at_82 rfl ?_
          refine g_callS 86 rfl C X0 (argsL := [(.int v1)]) (hw _ (List.mem_of_getElem? (i := 1) rfl)) (hw _ (List.mem_of_getElem? (i := 2) rfl)) (hw _ (List.mem_of_getElem? (i := 4) rfl)) (hw _ (List.mem_of_getElem? (i := 3) rfl)) e0 (rm1 l Z a0 hw [] v1 h0 n0 Z0) (lenOf pd_52578335 rfl) (by decide) (by decide) (by decide) (by decide) rfl (W := 0) (by decide) (by decide) at_83 rfl fun r286 T287 Lc288 X289 hQ290 => ?_
          obtain ⟨r291, rfl, hs292, Nq293, eh294⟩ := hQ290
          have N295 := Fr.app N0 Nq293
          show Goes _ _ _ _ _ _ 86 _ [(.int r291)]
          refine g_iload 88 rfl C X289 at_86 rfl ?_
          by_cases hb296 : r291.toInt = (0 : Int32).toInt
          · skip
            refine g_icmp_ne_f 91 rfl C X289 at_88 hb296 ?_
            refine g_iconst 92 rfl C X289 (1 : Int32) at_91 rfl ?_
            refine g_goto 96 C X289 at_92 (by decide) (by decide) ?_
            exact g_retN C X289 (z' := (1 : Int32)) rfl (Or.inl rfl) at_96 eh294 (by decide) (by decide) rfl ⟨rfl, N295⟩
          · skip
            refine g_icmp_ne_t 95 C X289 at_88 (by decide) (by decide) hb296 ?_
            refine g_iconst 96 rfl C X289 (0 : Int32) at_95 rfl ?_
            exfalso
            have fr297 := rng32 v2
            have fr298 := rng32 v1
            have fr299 := rng32 p0
            have fc300 : (65535 : Int32).toInt = 65535 := rfl
            have fo301 : (p0 &&& (65535 : Int32)).toInt = p0.toInt % 65536 := c_mask p0 (65535 : Int32) 16 (by decide) (by decide)
            have fo302 := c_i2c (p0 &&& (65535 : Int32))
            have fe303 : (((p0 &&& (65535 : Int32))).toUInt32.toUInt16.toUInt32.toInt32).toInt = v1.toInt := congrArg Int32.toInt hv1
            have fc304 : (32 : Int32).toInt = 32 := rfl
            have fc307 : (31 : Int32).toInt = 31 := rfl
            have fo308 : (v1 &&& (31 : Int32)).toInt = v1.toInt % 32 := c_mask v1 (31 : Int32) 5 (by decide) (by decide)
            have fc309 : (63 : Int32).toInt = 63 := rfl
            have fo310 : (v1 &&& (63 : Int32)).toInt = v1.toInt % 64 := c_mask v1 (63 : Int32) 6 (by decide) (by decide)
            have fo306 := own_blk v1 (32 : Int32) (31 : Int32) (63 : Int32) (by decide) (by decide)
            have fo311 := c_and v1 (32 : Int32) (by decide)
            have fr312 := rng32 (v1 &&& (32 : Int32))
            have fo305 := own_or v1 (32 : Int32)
            have fr313 := rng32 (v1 ||| (32 : Int32))
            have fe314 : (v1 ||| (32 : Int32)).toInt = v2.toInt := congrArg Int32.toInt hv2
            have fc315 : (97 : Int32).toInt = 97 := rfl
            have fc316 : (122 : Int32).toInt = 122 := rfl
            have fc317 : (48 : Int32).toInt = 48 := rfl
            have fo318 := c_isub v1 (48 : Int32)
            have fr319 := rng32 (v1 - (48 : Int32))
            have fo320 : ((v1 - (48 : Int32)) &&& (65535 : Int32)).toInt = (v1 - (48 : Int32)).toInt % 65536 := c_mask (v1 - (48 : Int32)) (65535 : Int32) 16 (by decide) (by decide)
            have fc321 : (10 : Int32).toInt = 10 := rfl
            have fc322 : (95 : Int32).toInt = 95 := rfl
            have fc323 : (0 : Int32).toInt = 0 := rfl
            have fr324 := rng32 r291
            omega
    · skip
      refine g_icmp_gt_f 23 rfl C X0 at_20 hb162 ?_
      refine g_iconst 24 rfl C X0 (1 : Int32) at_23 rfl ?_
      refine g_goto 28 C X0 at_24 (by decide) (by decide) ?_
      refine g_istoreN 29 rfl C X0 (1 : Int32) rfl #[.val (.int p0), .val (.int v1), .val (.int v2), .val (.int (1 : Int32)), .unset, .unset, .unset] at_28 rfl ?_
      refine g_iloadN 30 rfl C X0 at_29 rfl ?_
      refine g_bipush 32 rfl C X0 (48 : Int32) at_30 rfl ?_
      refine g_isub 33 rfl C X0 at_32 ?_
      refine g_ldc 35 rfl C X0 (hw _ (List.mem_of_getElem? (i := 0) rfl)) at_33 ?_
      refine g_iand 36 rfl C X0 at_35 ?_
      refine g_bipush 38 rfl C X0 (10 : Int32) at_36 rfl ?_
      by_cases hb325 : ((v1 - (48 : Int32)) &&& (65535 : Int32)).toInt < (10 : Int32).toInt
      · skip
        refine g_icmp_ge_f 41 rfl C X0 at_38 hb325 ?_
        refine g_iconst 42 rfl C X0 (1 : Int32) at_41 rfl ?_
        refine g_goto 46 C X0 at_42 (by decide) (by decide) ?_
        refine g_istore 48 rfl C X0 (1 : Int32) rfl #[.val (.int p0), .val (.int v1), .val (.int v2), .val (.int (1 : Int32)), .val (.int (1 : Int32)), .unset, .unset] at_46 rfl ?_
        refine g_iloadN 49 rfl C X0 at_48 rfl ?_
        refine g_bipush 51 rfl C X0 (95 : Int32) at_49 rfl ?_
        by_cases hb326 : v1.toInt = (95 : Int32).toInt
        · skip
          refine g_icmp_ne_f 54 rfl C X0 at_51 hb326 ?_
          refine g_iconst 55 rfl C X0 (1 : Int32) at_54 rfl ?_
          refine g_goto 59 C X0 at_55 (by decide) (by decide) ?_
          refine g_istore 61 rfl C X0 (1 : Int32) rfl #[.val (.int p0), .val (.int v1), .val (.int v2), .val (.int (1 : Int32)), .val (.int (1 : Int32)), .val (.int (1 : Int32)), .unset] at_59 rfl ?_
          refine g_iloadN 62 rfl C X0 at_61 rfl ?_
          refine g_if_ne_t 75 C X0 at_62 (by decide) (by decide) (by decide) ?_
          refine g_iconst 76 rfl C X0 (1 : Int32) at_75 rfl ?_
          refine g_goto 80 C X0 at_76 (by decide) (by decide) ?_
          refine g_istore 82 rfl C X0 (1 : Int32) rfl #[.val (.int p0), .val (.int v1), .val (.int v2), .val (.int (1 : Int32)), .val (.int (1 : Int32)), .val (.int (1 : Int32)), .val (.int (1 : Int32))] at_80 rfl ?_
          refine g_iloadN 83 rfl C X0 at_82 rfl ?_
          refine g_callS 86 rfl C X0 (argsL := [(.int v1)]) (hw _ (List.mem_of_getElem? (i := 1) rfl)) (hw _ (List.mem_of_getElem? (i := 2) rfl)) (hw _ (List.mem_of_getElem? (i := 4) rfl)) (hw _ (List.mem_of_getElem? (i := 3) rfl)) e0 (rm1 l Z a0 hw [] v1 h0 n0 Z0) (lenOf pd_52578335 rfl) (by decide) (by decide) (by decide) (by decide) rfl (W := 0) (by decide) (by decide) at_83 rfl fun r327 T328 Lc329 X330 hQ331 => ?_
          obtain ⟨r332, rfl, hs333, Nq334, eh335⟩ := hQ331
          have N336 := Fr.app N0 Nq334
          show Goes _ _ _ _ _ _ 86 _ [(.int r332)]
          refine g_iload 88 rfl C X330 at_86 rfl ?_
          by_cases hb337 : r332.toInt = (1 : Int32).toInt
          · skip
            refine g_icmp_ne_f 91 rfl C X330 at_88 hb337 ?_
            refine g_iconst 92 rfl C X330 (1 : Int32) at_91 rfl ?_
            refine g_goto 96 C X330 at_92 (by decide) (by decide) ?_
            exact g_retN C X330 (z' := (1 : Int32)) rfl (Or.inl rfl) at_96 eh335 (by decide) (by decide) rfl ⟨rfl, N336⟩
          · skip
            refine g_icmp_ne_t 95 C X330 at_88 (by decide) (by decide) hb337 ?_
            refine g_iconst 96 rfl C X330 (0 : Int32) at_95 rfl ?_
            exfalso
            have fr338 := rng32 v2
            have fr339 := rng32 v1
            have fr340 := rng32 p0
            have fc341 : (65535 : Int32).toInt = 65535 := rfl
            have fo342 : (p0 &&& (65535 : Int32)).toInt = p0.toInt % 65536 := c_mask p0 (65535 : Int32) 16 (by decide) (by decide)
            have fo343 := c_i2c (p0 &&& (65535 : Int32))
            have fe344 : (((p0 &&& (65535 : Int32))).toUInt32.toUInt16.toUInt32.toInt32).toInt = v1.toInt := congrArg Int32.toInt hv1
            have fc345 : (32 : Int32).toInt = 32 := rfl
            have fc348 : (31 : Int32).toInt = 31 := rfl
            have fo349 : (v1 &&& (31 : Int32)).toInt = v1.toInt % 32 := c_mask v1 (31 : Int32) 5 (by decide) (by decide)
            have fc350 : (63 : Int32).toInt = 63 := rfl
            have fo351 : (v1 &&& (63 : Int32)).toInt = v1.toInt % 64 := c_mask v1 (63 : Int32) 6 (by decide) (by decide)
            have fo347 := own_blk v1 (32 : Int32) (31 : Int32) (63 : Int32) (by decide) (by decide)
            have fo352 := c_and v1 (32 : Int32) (by decide)
            have fr353 := rng32 (v1 &&& (32 : Int32))
            have fo346 := own_or v1 (32 : Int32)
            have fr354 := rng32 (v1 ||| (32 : Int32))
            have fe355 : (v1 ||| (32 : Int32)).toInt = v2.toInt := congrArg Int32.toInt hv2
            have fc356 : (97 : Int32).toInt = 97 := rfl
            have fc357 : (122 : Int32).toInt = 122 := rfl
            have fc358 : (48 : Int32).toInt = 48 := rfl
            have fo359 := c_isub v1 (48 : Int32)
            have fr360 := rng32 (v1 - (48 : Int32))
            have fo361 : ((v1 - (48 : Int32)) &&& (65535 : Int32)).toInt = (v1 - (48 : Int32)).toInt % 65536 := c_mask (v1 - (48 : Int32)) (65535 : Int32) 16 (by decide) (by decide)
            have fc362 : (10 : Int32).toInt = 10 := rfl
            have fc363 : (95 : Int32).toInt = 95 := rfl
            have fc364 : (1 : Int32).toInt = 1 := rfl
            have fr365 := rng32 r332
            omega
        · skip
          refine g_icmp_ne_t 58 C X0 at_51 (by decide) (by decide) hb326 ?_
          refine g_iconst 59 rfl C X0 (0 : Int32) at_58 rfl ?_
          refine g_istore 61 rfl C X0 (0 : Int32) rfl #[.val (.int p0), .val (.int v1), .val (.int v2), .val (.int (1 : Int32)), .val (.int (1 : Int32)), .val (.int (0 : Int32)), .unset] at_59 rfl ?_
          refine g_iloadN 62 rfl C X0 at_61 rfl ?_
          refine g_if_ne_t 75 C X0 at_62 (by decide) (by decide) (by decide) ?_
          refine g_iconst 76 rfl C X0 (1 : Int32) at_75 rfl ?_
          refine g_goto 80 C X0 at_76 (by decide) (by decide) ?_
          refine g_istore 82 rfl C X0 (1 : Int32) rfl #[.val (.int p0), .val (.int v1), .val (.int v2), .val (.int (1 : Int32)), .val (.int (1 : Int32)), .val (.int (0 : Int32)), .val (.int (1 : Int32))] at_80 rfl ?_
          refine g_iloadN 83 rfl C X0 at_82 rfl ?_
          refine g_callS 86 rfl C X0 (argsL := [(.int v1)]) (hw _ (List.mem_of_getElem? (i := 1) rfl)) (hw _ (List.mem_of_getElem? (i := 2) rfl)) (hw _ (List.mem_of_getElem? (i := 4) rfl)) (hw _ (List.mem_of_getElem? (i := 3) rfl)) e0 (rm1 l Z a0 hw [] v1 h0 n0 Z0) (lenOf pd_52578335 rfl) (by decide) (by decide) (by decide) (by decide) rfl (W := 0) (by decide) (by decide) at_83 rfl fun r366 T367 Lc368 X369 hQ370 => ?_
          obtain ⟨r371, rfl, hs372, Nq373, eh374⟩ := hQ370
          have N375 := Fr.app N0 Nq373
          show Goes _ _ _ _ _ _ 86 _ [(.int r371)]
          refine g_iload 88 rfl C X369 at_86 rfl ?_
          by_cases hb376 : r371.toInt = (1 : Int32).toInt
          · skip
            refine g_icmp_ne_f 91 rfl C X369 at_88 hb376 ?_
            refine g_iconst 92 rfl C X369 (1 : Int32) at_91 rfl ?_
            refine g_goto 96 C X369 at_92 (by decide) (by decide) ?_
            exact g_retN C X369 (z' := (1 : Int32)) rfl (Or.inl rfl) at_96 eh374 (by decide) (by decide) rfl ⟨rfl, N375⟩
          · skip
            refine g_icmp_ne_t 95 C X369 at_88 (by decide) (by decide) hb376 ?_
            refine g_iconst 96 rfl C X369 (0 : Int32) at_95 rfl ?_
            exfalso
            have fr377 := rng32 v2
            have fr378 := rng32 v1
            have fr379 := rng32 p0
            have fc380 : (65535 : Int32).toInt = 65535 := rfl
            have fo381 : (p0 &&& (65535 : Int32)).toInt = p0.toInt % 65536 := c_mask p0 (65535 : Int32) 16 (by decide) (by decide)
            have fo382 := c_i2c (p0 &&& (65535 : Int32))
            have fe383 : (((p0 &&& (65535 : Int32))).toUInt32.toUInt16.toUInt32.toInt32).toInt = v1.toInt := congrArg Int32.toInt hv1
            have fc384 : (32 : Int32).toInt = 32 := rfl
            have fc387 : (31 : Int32).toInt = 31 := rfl
            have fo388 : (v1 &&& (31 : Int32)).toInt = v1.toInt % 32 := c_mask v1 (31 : Int32) 5 (by decide) (by decide)
            have fc389 : (63 : Int32).toInt = 63 := rfl
            have fo390 : (v1 &&& (63 : Int32)).toInt = v1.toInt % 64 := c_mask v1 (63 : Int32) 6 (by decide) (by decide)
            have fo386 := own_blk v1 (32 : Int32) (31 : Int32) (63 : Int32) (by decide) (by decide)
            have fo391 := c_and v1 (32 : Int32) (by decide)
            have fr392 := rng32 (v1 &&& (32 : Int32))
            have fo385 := own_or v1 (32 : Int32)
            have fr393 := rng32 (v1 ||| (32 : Int32))
            have fe394 : (v1 ||| (32 : Int32)).toInt = v2.toInt := congrArg Int32.toInt hv2
            have fc395 : (97 : Int32).toInt = 97 := rfl
            have fc396 : (122 : Int32).toInt = 122 := rfl
            have fc397 : (48 : Int32).toInt = 48 := rfl
            have fo398 := c_isub v1 (48 : Int32)
            have fr399 := rng32 (v1 - (48 : Int32))
            have fo400 : ((v1 - (48 : Int32)) &&& (65535 : Int32)).toInt = (v1 - (48 : Int32)).toInt % 65536 := c_mask (v1 - (48 : Int32)) (65535 : Int32) 16 (by decide) (by decide)
            have fc401 : (10 : Int32).toInt = 10 := rfl
            have fc402 : (95 : Int32).toInt = 95 := rfl
            have fc403 : (1 : Int32).toInt = 1 := rfl
            have fr404 := rng32 r371
            omega
      · skip
        refine g_icmp_ge_t 45 C X0 at_38 (by decide) (by decide) hb325 ?_
        refine g_iconst 46 rfl C X0 (0 : Int32) at_45 rfl ?_
        refine g_istore 48 rfl C X0 (0 : Int32) rfl #[.val (.int p0), .val (.int v1), .val (.int v2), .val (.int (1 : Int32)), .val (.int (0 : Int32)), .unset, .unset] at_46 rfl ?_
        refine g_iloadN 49 rfl C X0 at_48 rfl ?_
        refine g_bipush 51 rfl C X0 (95 : Int32) at_49 rfl ?_
        by_cases hb405 : v1.toInt = (95 : Int32).toInt
        · skip
          refine g_icmp_ne_f 54 rfl C X0 at_51 hb405 ?_
          refine g_iconst 55 rfl C X0 (1 : Int32) at_54 rfl ?_
          refine g_goto 59 C X0 at_55 (by decide) (by decide) ?_
          refine g_istore 61 rfl C X0 (1 : Int32) rfl #[.val (.int p0), .val (.int v1), .val (.int v2), .val (.int (1 : Int32)), .val (.int (0 : Int32)), .val (.int (1 : Int32)), .unset] at_59 rfl ?_
          refine g_iloadN 62 rfl C X0 at_61 rfl ?_
          refine g_if_ne_t 75 C X0 at_62 (by decide) (by decide) (by decide) ?_
          refine g_iconst 76 rfl C X0 (1 : Int32) at_75 rfl ?_
          refine g_goto 80 C X0 at_76 (by decide) (by decide) ?_
          refine g_istore 82 rfl C X0 (1 : Int32) rfl #[.val (.int p0), .val (.int v1), .val (.int v2), .val (.int (1 : Int32)), .val (.int (0 : Int32)), .val (.int (1 : Int32)), .val (.int (1 : Int32))] at_80 rfl ?_
          refine g_iloadN 83 rfl C X0 at_82 rfl ?_
          refine g_callS 86 rfl C X0 (argsL := [(.int v1)]) (hw _ (List.mem_of_getElem? (i := 1) rfl)) (hw _ (List.mem_of_getElem? (i := 2) rfl)) (hw _ (List.mem_of_getElem? (i := 4) rfl)) (hw _ (List.mem_of_getElem? (i := 3) rfl)) e0 (rm1 l Z a0 hw [] v1 h0 n0 Z0) (lenOf pd_52578335 rfl) (by decide) (by decide) (by decide) (by decide) rfl (W := 0) (by decide) (by decide) at_83 rfl fun r406 T407 Lc408 X409 hQ410 => ?_
          obtain ⟨r411, rfl, hs412, Nq413, eh414⟩ := hQ410
          have N415 := Fr.app N0 Nq413
          show Goes _ _ _ _ _ _ 86 _ [(.int r411)]
          refine g_iload 88 rfl C X409 at_86 rfl ?_
          by_cases hb416 : r411.toInt = (1 : Int32).toInt
          · skip
            refine g_icmp_ne_f 91 rfl C X409 at_88 hb416 ?_
            refine g_iconst 92 rfl C X409 (1 : Int32) at_91 rfl ?_
            refine g_goto 96 C X409 at_92 (by decide) (by decide) ?_
            exact g_retN C X409 (z' := (1 : Int32)) rfl (Or.inl rfl) at_96 eh414 (by decide) (by decide) rfl ⟨rfl, N415⟩
          · skip
            refine g_icmp_ne_t 95 C X409 at_88 (by decide) (by decide) hb416 ?_
            refine g_iconst 96 rfl C X409 (0 : Int32) at_95 rfl ?_
            exfalso
            have fr417 := rng32 v2
            have fr418 := rng32 v1
            have fr419 := rng32 p0
            have fc420 : (65535 : Int32).toInt = 65535 := rfl
            have fo421 : (p0 &&& (65535 : Int32)).toInt = p0.toInt % 65536 := c_mask p0 (65535 : Int32) 16 (by decide) (by decide)
            have fo422 := c_i2c (p0 &&& (65535 : Int32))
            have fe423 : (((p0 &&& (65535 : Int32))).toUInt32.toUInt16.toUInt32.toInt32).toInt = v1.toInt := congrArg Int32.toInt hv1
            have fc424 : (32 : Int32).toInt = 32 := rfl
            have fc427 : (31 : Int32).toInt = 31 := rfl
            have fo428 : (v1 &&& (31 : Int32)).toInt = v1.toInt % 32 := c_mask v1 (31 : Int32) 5 (by decide) (by decide)
            have fc429 : (63 : Int32).toInt = 63 := rfl
            have fo430 : (v1 &&& (63 : Int32)).toInt = v1.toInt % 64 := c_mask v1 (63 : Int32) 6 (by decide) (by decide)
            have fo426 := own_blk v1 (32 : Int32) (31 : Int32) (63 : Int32) (by decide) (by decide)
            have fo431 := c_and v1 (32 : Int32) (by decide)
            have fr432 := rng32 (v1 &&& (32 : Int32))
            have fo425 := own_or v1 (32 : Int32)
            have fr433 := rng32 (v1 ||| (32 : Int32))
            have fe434 : (v1 ||| (32 : Int32)).toInt = v2.toInt := congrArg Int32.toInt hv2
            have fc435 : (97 : Int32).toInt = 97 := rfl
            have fc436 : (122 : Int32).toInt = 122 := rfl
            have fc437 : (48 : Int32).toInt = 48 := rfl
            have fo438 := c_isub v1 (48 : Int32)
            have fr439 := rng32 (v1 - (48 : Int32))
            have fo440 : ((v1 - (48 : Int32)) &&& (65535 : Int32)).toInt = (v1 - (48 : Int32)).toInt % 65536 := c_mask (v1 - (48 : Int32)) (65535 : Int32) 16 (by decide) (by decide)
            have fc441 : (10 : Int32).toInt = 10 := rfl
            have fc442 : (95 : Int32).toInt = 95 := rfl
            have fc443 : (1 : Int32).toInt = 1 := rfl
            have fr444 := rng32 r411
            omega
        · skip
          refine g_icmp_ne_t 58 C X0 at_51 (by decide) (by decide) hb405 ?_
          refine g_iconst 59 rfl C X0 (0 : Int32) at_58 rfl ?_
          refine g_istore 61 rfl C X0 (0 : Int32) rfl #[.val (.int p0), .val (.int v1), .val (.int v2), .val (.int (1 : Int32)), .val (.int (0 : Int32)), .val (.int (0 : Int32)), .unset] at_59 rfl ?_
          refine g_iloadN 62 rfl C X0 at_61 rfl ?_
          refine g_if_ne_t 75 C X0 at_62 (by decide) (by decide) (by decide) ?_
          refine g_iconst 76 rfl C X0 (1 : Int32) at_75 rfl ?_
          refine g_goto 80 C X0 at_76 (by decide) (by decide) ?_
          refine g_istore 82 rfl C X0 (1 : Int32) rfl #[.val (.int p0), .val (.int v1), .val (.int v2), .val (.int (1 : Int32)), .val (.int (0 : Int32)), .val (.int (0 : Int32)), .val (.int (1 : Int32))] at_80 rfl ?_
          refine g_iloadN 83 rfl C X0 at_82 rfl ?_
          refine g_callS 86 rfl C X0 (argsL := [(.int v1)]) (hw _ (List.mem_of_getElem? (i := 1) rfl)) (hw _ (List.mem_of_getElem? (i := 2) rfl)) (hw _ (List.mem_of_getElem? (i := 4) rfl)) (hw _ (List.mem_of_getElem? (i := 3) rfl)) e0 (rm1 l Z a0 hw [] v1 h0 n0 Z0) (lenOf pd_52578335 rfl) (by decide) (by decide) (by decide) (by decide) rfl (W := 0) (by decide) (by decide) at_83 rfl fun r445 T446 Lc447 X448 hQ449 => ?_
          obtain ⟨r450, rfl, hs451, Nq452, eh453⟩ := hQ449
          have N454 := Fr.app N0 Nq452
          show Goes _ _ _ _ _ _ 86 _ [(.int r450)]
          refine g_iload 88 rfl C X448 at_86 rfl ?_
          by_cases hb455 : r450.toInt = (1 : Int32).toInt
          · skip
            refine g_icmp_ne_f 91 rfl C X448 at_88 hb455 ?_
            refine g_iconst 92 rfl C X448 (1 : Int32) at_91 rfl ?_
            refine g_goto 96 C X448 at_92 (by decide) (by decide) ?_
            exact g_retN C X448 (z' := (1 : Int32)) rfl (Or.inl rfl) at_96 eh453 (by decide) (by decide) rfl ⟨rfl, N454⟩
          · skip
            refine g_icmp_ne_t 95 C X448 at_88 (by decide) (by decide) hb455 ?_
            refine g_iconst 96 rfl C X448 (0 : Int32) at_95 rfl ?_
            exfalso
            have fr456 := rng32 v2
            have fr457 := rng32 v1
            have fr458 := rng32 p0
            have fc459 : (65535 : Int32).toInt = 65535 := rfl
            have fo460 : (p0 &&& (65535 : Int32)).toInt = p0.toInt % 65536 := c_mask p0 (65535 : Int32) 16 (by decide) (by decide)
            have fo461 := c_i2c (p0 &&& (65535 : Int32))
            have fe462 : (((p0 &&& (65535 : Int32))).toUInt32.toUInt16.toUInt32.toInt32).toInt = v1.toInt := congrArg Int32.toInt hv1
            have fc463 : (32 : Int32).toInt = 32 := rfl
            have fc466 : (31 : Int32).toInt = 31 := rfl
            have fo467 : (v1 &&& (31 : Int32)).toInt = v1.toInt % 32 := c_mask v1 (31 : Int32) 5 (by decide) (by decide)
            have fc468 : (63 : Int32).toInt = 63 := rfl
            have fo469 : (v1 &&& (63 : Int32)).toInt = v1.toInt % 64 := c_mask v1 (63 : Int32) 6 (by decide) (by decide)
            have fo465 := own_blk v1 (32 : Int32) (31 : Int32) (63 : Int32) (by decide) (by decide)
            have fo470 := c_and v1 (32 : Int32) (by decide)
            have fr471 := rng32 (v1 &&& (32 : Int32))
            have fo464 := own_or v1 (32 : Int32)
            have fr472 := rng32 (v1 ||| (32 : Int32))
            have fe473 : (v1 ||| (32 : Int32)).toInt = v2.toInt := congrArg Int32.toInt hv2
            have fc474 : (97 : Int32).toInt = 97 := rfl
            have fc475 : (122 : Int32).toInt = 122 := rfl
            have fc476 : (48 : Int32).toInt = 48 := rfl
            have fo477 := c_isub v1 (48 : Int32)
            have fr478 := rng32 (v1 - (48 : Int32))
            have fo479 : ((v1 - (48 : Int32)) &&& (65535 : Int32)).toInt = (v1 - (48 : Int32)).toInt % 65536 := c_mask (v1 - (48 : Int32)) (65535 : Int32) 16 (by decide) (by decide)
            have fc480 : (10 : Int32).toInt = 10 := rfl
            have fc481 : (95 : Int32).toInt = 95 := rfl
            have fc482 : (1 : Int32).toInt = 1 := rfl
            have fr483 := rng32 r450
            omega
set_option maxRecDepth 65536 in
set_option maxHeartbeats 40000000 in
theorem comes_1 {Post : Tables → Env → Array Value → State → Outcome → State → Prop} (hpost : ∀ tb e args s v u, (limb_1_1.after args s (.returned v) u = true ∧ limb_1_2.after args s (.returned v) u = true ∧ True) → FrameEnd s (.returned v) u (Jvm.fieldLocs frame_1_writes args s ++ Jvm.arrayLocs frame_1_arrays args s ++ Jvm.staticLocs frame_1_statics s) 0 0 → Post tb e args s (.returned v) u) :
    ArmFor flags0 classFile x code maxLocals ret World_1 tables_1 room_1 Calls_1 rest_1 Pre_1 Post := by
  intro l hfl _ _ p e ha hc hk s m args below hf hA hF happ hP
  obtain ⟨hcalls, hrest, hpre⟩ := hP
  obtain ⟨-, -, -, hnamed, -, -, -, hat⟩ := (Spec.applies_iff hf).mp happ
  obtain ⟨hg, hn⟩ := and_e (Cond.before_iff.mp (show (Jvm.Cond.and given_1 narrow_1).before args s = true from hpre))
  obtain ⟨g1, g2⟩ := and_e hg
  obtain ⟨w0, rfl⟩ : ∃ w0 : Value, args = #[w0] := by
    have hs : args.size = 1 := by simpa [Cond.value, given_1] using g1
    obtain ⟨L⟩ := args
    match L, hs with
    | [w0], _ => exact ⟨w0, rfl⟩
  have hw := fun d (hd : d ∈ tables_1) => atoms_spec (ws := Jvm.Cond.code x code maxLocals ret :: tables_1) hat d (List.mem_cons_of_mem _ hd)
  obtain ⟨i0, ei0⟩ := is_v g2
  obtain rfl : w0 = (.int i0) := Option.some.inj ei0
  obtain ⟨n, o, h1, h2, h3, _, L, rfl, ⟨rfl, N⟩, hq⟩ := rm0 l s _ hw tables_1 i0 s.heap s.heap.size (Nat.le_refl _) p e ha hc hk s m _ below hf ((Spec.applies_iff_loose hf).mp happ).1 ⟨rfl, State.Warmed39.refl s, rfl⟩ trivial
  refine ⟨n, _, h1, h2, h3, hpost _ _ _ _ _ _ ⟨Cond.after_iff.mpr rfl, Cond.after_iff.mpr (eq_i res_at (Term.int_eval (1)) rfl), trivial⟩ ⟨hq.1, hq.2.1, (hq.2.2.sift fun y hy => Or.inr (N y hy)).mono (by decide) (by decide)⟩⟩
theorem main_1_1 : Claimed_1_1 := comes_1 fun _ _ _ _ _ _ h hF => ⟨h.1, hF⟩
theorem main_1_2 : Claimed_1_2 := comes_1 fun _ _ _ _ _ _ h hF => ⟨h.2.1, hF⟩
end Jvm.Pilot.@@N@@
namespace Jvm.Pilot.@@N@@
open Jvm Jvm.ClassFile Sem Op Lib Jvm.Free Jvm.Stand Jvm.Pilot.@@N@@.Jvm.D
/-! MADE BY PROGRAM (witnessworld.py) out of the Statement's table words and the real class files: 9 classes; the members and pool entries that the words name. The judged class is class 1, her method 1. -/
namespace start1
open Jvm.ClassFile
def u (s : String) : CpInfo := .utf8 (stringToUtf16 s)
/-- a pool by its gaps: so many unusable entries, then the entry; so many at the end -/
def gap : Nat → List CpInfo → List CpInfo
  | 0, r => r
  | n + 1, r => .unusable :: gap n r
def poolList (es : List (Nat × CpInfo)) (last : Nat) : List CpInfo := es.foldr (fun e r => gap e.1 (e.2 :: r)) (gap last [])
def pool (es : List (Nat × CpInfo)) (last : Nat) : Array CpInfo := ⟨poolList es last⟩
def fileOf (pool : Array CpInfo) (this : Nat) (attrs : Array Attribute := #[]) (ms : Array MethodInfo := #[]) (fl : Nat := 33) (sup : Nat := 0) (ifs : Array Nat := #[]) (fds : Array FieldInfo := #[]) : ClassFile where
  minorVersion := 0
  majorVersion := 65
  constantPool := pool
  accessFlags := fl
  thisClass := this
  superClass := sup
  interfaces := ifs
  fields := fds
  methods := ms
  attributes := attrs
def plain (name : String) (sup : Option ClassId) : Class where
  name := name
  kind := .ordinary
  loader := none
  accessFlags := 33
  super := sup
  interfaces := #[]
  cf := none
  fields := #[]
  methods := #[]
  instanceTypes := #[]
  staticTypes := #[]
  resolved := #[]
  callSites := []
  init := .initialized
  statics := none
  mirror := none

def pool0 : Array CpInfo := pool [(5, u "<init>"), (0, u "()V"), (1, .class_ 10), (1, u "java/lang/Object")] 113

def k0m0 : Method := { name := "<init>", desc := "()V", sig := { parameters := [], returnType := none }, accessFlags := 1, code := none }
/-- java/lang/Object -/
def k0 : Class := { plain "java/lang/Object" none with
  accessFlags := 33
  interfaces := #[]
  cf := some (fileOf pool0 8 #[] #[{ accessFlags := 1, nameIndex := 5, descriptorIndex := 6, attributes := #[] }] 33 0 #[] #[])
  fields := #[]
  methods := #[k0m0]
  instanceTypes := #[]
  staticTypes := #[]
  resolved := Array.replicate 124 none
  statics := none }

def pool1 : Array CpInfo := pool [(2, .class_ 4), (1, u "java/lang/Object"), (0, u "<init>"), (0, u "()V"), (0, .integer 65535), (0, .methodref 9 10), (0, .class_ 11), (0, .nameAndType 12 13), (0, u "com/example/bisimulation/bisimulation/lts/ActionNames"), (0, u "continuesName"), (0, u "(C)Z"), (0, .class_ 15), (0, u "com/example/bisimulation/bisimulation/lts/ActionNamesContinuesNamePinLaw"), (2, u "law"), (0, u "(I)Z")] 3

def k1m0 : Method := { name := "<init>", desc := "()V", sig := { parameters := [], returnType := none }, accessFlags := 2, code := none }
def k1c1 : Code := { maxStack := 2, maxLocals := 7, code := code, exceptionTable := #[], attributes := #[] }
def k1m1 : Method := { name := "law", desc := "(I)Z", sig := { parameters := [.int], returnType := some .boolean }, accessFlags := 9, code := some k1c1 }
/-- com/example/bisimulation/bisimulation/lts/ActionNamesContinuesNamePinLaw -/
def k1 : Class := { plain "com/example/bisimulation/bisimulation/lts/ActionNamesContinuesNamePinLaw" (some 0) with
  accessFlags := 49
  interfaces := #[]
  cf := some (fileOf pool1 14 #[] #[{ accessFlags := 2, nameIndex := 5, descriptorIndex := 6, attributes := #[] }, { accessFlags := 9, nameIndex := 18, descriptorIndex := 19, attributes := #[] }] 49 2 #[] #[])
  fields := #[]
  methods := #[k1m0, k1m1]
  instanceTypes := #[]
  staticTypes := #[]
  resolved := Array.replicate 23 none
  statics := none }

def pool2 : Array CpInfo := pool [(2, .class_ 4), (1, u "java/lang/Object"), (0, u "<init>"), (0, u "()V"), (15, .class_ 24), (1, u "com/example/bisimulation/bisimulation/lts/ActionNames"), (0, u "continuesName"), (0, u "(C)Z")] 7

def k2m0 : Method := { name := "<init>", desc := "()V", sig := { parameters := [], returnType := none }, accessFlags := 2, code := none }
def k2c1 : Code := { maxStack := 2, maxLocals := 1, code := prog_40_method_3_code, exceptionTable := #[], attributes := #[] }
def k2m1 : Method := { name := "continuesName", desc := "(C)Z", sig := { parameters := [.char], returnType := some .boolean }, accessFlags := 9, code := some k2c1 }
/-- com/example/bisimulation/bisimulation/lts/ActionNames -/
def k2 : Class := { plain "com/example/bisimulation/bisimulation/lts/ActionNames" (some 0) with
  accessFlags := 49
  interfaces := #[]
  cf := some (fileOf pool2 22 #[] #[{ accessFlags := 2, nameIndex := 5, descriptorIndex := 6, attributes := #[] }, { accessFlags := 9, nameIndex := 25, descriptorIndex := 26, attributes := #[] }] 49 2 #[] #[])
  fields := #[]
  methods := #[k2m0, k2m1]
  instanceTypes := #[]
  staticTypes := #[]
  resolved := Array.replicate 34 none
  statics := none }

def pool3 : Array CpInfo := pool [(1, u "java/lang/Cloneable"), (0, .class_ 1), (0, u "java/lang/Object"), (0, .class_ 3)] 3

/-- java/lang/Cloneable -/
def k3 : Class := { plain "java/lang/Cloneable" (some 0) with
  accessFlags := 1537
  interfaces := #[]
  cf := some (fileOf pool3 2 #[] #[] 1537 4 #[] #[])
  fields := #[]
  methods := #[]
  instanceTypes := #[]
  staticTypes := #[]
  resolved := Array.replicate 8 none
  statics := none }

def pool4 : Array CpInfo := pool [(1, u "java/io/Serializable"), (0, .class_ 1), (0, u "java/lang/Object"), (0, .class_ 3)] 3

/-- java/io/Serializable -/
def k4 : Class := { plain "java/io/Serializable" (some 0) with
  accessFlags := 1537
  interfaces := #[]
  cf := some (fileOf pool4 2 #[] #[] 1537 4 #[] #[])
  fields := #[]
  methods := #[]
  instanceTypes := #[]
  staticTypes := #[]
  resolved := Array.replicate 8 none
  statics := none }

/-- the primitive byte -/
def k5 : Class := { plain "byte" none with kind := .primitive 'B', accessFlags := 0x411 }
/-- [B -/
def k6 : Class := { plain "[B" (some 0) with kind := .array 5 .byte, interfaces := #[3, 4], accessFlags := 1041 }

/-- the primitive int -/
def k7 : Class := { plain "int" none with kind := .primitive 'I', accessFlags := 0x411 }
/-- [I -/
def k8 : Class := { plain "[I" (some 0) with kind := .array 7 .int, interfaces := #[3, 4], accessFlags := 1041 }

def heap : Heap := #[]
def classes : Array Class := #[k0, k1, k2, k3, k4, k5, k6, k7, k8]
def interned : List (Array UInt16 × Addr) := []
def slotsUsed : Nat := 0
def theMethod : MethodId := ⟨1, 1⟩
def args0 : Array Value := #[.int 65]
def aboutOver (below : List Frame) : State where
  vm := { classes := classes, interned := interned.toArray }
  heap := heap
  slotsUsed := slotsUsed
  threads := #[{ frames := .invoking theMethod args0 :: below }]
def below0 : List Frame := [.native { method := ⟨0, 0⟩, args := #[] }]
def about1 : State := aboutOver below0
def p0 : Program := .bare "" "" ""
def e0 : Env := launch0.env 0 0 0
theorem w_frames : about1.frames = Frame.invoking theMethod args0 :: below0 := rfl
set_option maxRecDepth 65536 in
theorem w_args : argsFit about1.vm theMethod args0 = true := by decide +kernel
set_option maxRecDepth 65536 in
theorem w_heap : heapFits about1 = true := by decide +kernel
set_option maxRecDepth 65536 in
theorem w_runnable : about1.curStatus? = some .runnable := by decide +kernel
set_option maxRecDepth 65536 in
theorem w_alone : about1.alone = true := by decide +kernel
set_option maxRecDepth 65536 in
theorem w_named : about1.methodNamed? x = some theMethod := by decide +kernel
set_option maxRecDepth 65536 in
theorem w_hears : about1.hears theMethod below0 = true := by decide +kernel
set_option maxRecDepth 65536 in
theorem w_ripe : about1.ripe theMethod args0 below0 = true := by decide +kernel
theorem w_running : about1.status = .running := rfl
set_option maxRecDepth 65536 in
theorem w_room : about1.hasRoom e0.platform room_1 = true :=
  launch0.hasRoom_least _ room_1 (by decide +kernel) (by decide +kernel) (by decide +kernel) (by decide +kernel) (by decide +kernel) (by decide +kernel)
theorem allAtoms_all (ts : List Jvm.Cond) (a : Array Jvm.Value) (st : Jvm.State) : (allAtoms ts).before a st = ts.all (fun c => c.before a st) := by
  induction ts with
  | nil => rfl
  | cons c t ih =>
    show (Jvm.Cond.and c (allAtoms t)).before a st = _
    rw [Jvm.Cond.before_and, ih, List.all_cons]
def words1 : List Jvm.Cond := Jvm.Cond.code x code maxLocals ret :: tables_1
/-- a 'code' word, met by the world's own term for the bytes: nothing is compared byte by byte -/
theorem code_word {y : MethodName} {bytes : ByteArray} {mx : Nat} {rt : Option FieldType} {a : Array Value} {s : State} {m : MethodId} {meth : Method} {c : Code} (h1 : s.methodNamed? y = some m) (h2 : s.vm.method? m = some meth) (h3 : meth.code = some c) (h4 : c.code = bytes)
    (h5 : (c.maxLocals == mx && c.exceptionTable.isEmpty && decide (c.maxStack ≤ mostOperands) && decide (meth.sig.returnType = rt) && !meth.locks && decide (parseMethodDescriptor y.desc = some meth.sig)) = true) : (Jvm.Cond.code y bytes mx rt).before a s = true := by
  simp only [Bool.and_eq_true, beq_iff_eq, Bool.not_eq_true', decide_eq_true_eq] at h5
  obtain ⟨⟨⟨⟨⟨g1, g2⟩, g3⟩, g4⟩, g5⟩, g6⟩ := h5
  simp [Cond.before, Cond.holds, Cond.value, h1, h2, h3, h4, g1, g2, g3, g4, g5, g6]
def isCode : Jvm.Cond → Bool
  | .code _ _ _ _ => true
  | _ => false
theorem all_split {L : List Jvm.Cond} {P : Jvm.Cond → Bool} (h1 : L.all (fun c => isCode c || P c) = true) (h2 : ∀ c ∈ L.filter isCode, P c = true) : L.all P = true := by
  refine List.all_eq_true.mpr fun c hc => ?_
  have h := List.all_eq_true.mp h1 c hc
  rcases Bool.eq_false_or_eq_true (isCode c) with hi | hi
  · exact h2 c (List.mem_filter.mpr ⟨hc, hi⟩)
  · simpa [hi] using h
set_option maxRecDepth 65536 in
theorem w_c0 : (Jvm.Cond.code x code maxLocals ret).before args0 about1 = true := code_word (m := ⟨1, 1⟩) (meth := k1m1) (c := k1c1) (by decide +kernel) rfl rfl rfl (by decide +kernel)
set_option maxRecDepth 65536 in
theorem w_c1 : (Jvm.Cond.code ({ cls := "com/example/bisimulation/bisimulation/lts/ActionNames", name := "continuesName", desc := "(C)Z" } : Jvm.MethodName) prog_40_method_3_code (1 : Nat) (Option.some Jvm.ClassFile.FieldType.boolean)).before args0 about1 = true := code_word (m := ⟨2, 1⟩) (meth := k2m1) (c := k2c1) (by decide +kernel) rfl rfl rfl (by decide +kernel)
def codes1 : List Jvm.Cond := [Jvm.Cond.code x code maxLocals ret, Jvm.Cond.code ({ cls := "com/example/bisimulation/bisimulation/lts/ActionNames", name := "continuesName", desc := "(C)Z" } : Jvm.MethodName) prog_40_method_3_code (1 : Nat) (Option.some Jvm.ClassFile.FieldType.boolean)]
set_option maxRecDepth 65536 in
theorem codes_eq : words1.filter isCode = codes1 := rfl
theorem w_codes : ∀ c ∈ words1.filter isCode, c.before args0 about1 = true := by
  rw [codes_eq]
  intro c hc
  simp only [codes1, List.mem_cons, List.not_mem_nil, or_false] at hc
  rcases hc with rfl | rfl
  · exact w_c0
  · exact w_c1
set_option maxRecDepth 65536 in
theorem w_t1 : words1.all (fun c => isCode c || c.before args0 about1) = true := by decide +kernel
theorem w_tables : (allAtoms (Jvm.Cond.code x code maxLocals ret :: tables_1)).before args0 about1 = true := by
  rw [allAtoms_all]
  show words1.all (fun c => c.before args0 about1) = true
  refine all_split ?_ w_codes
  rw [w_t1]
set_option maxRecDepth 65536 in
theorem w_case : (Jvm.Cond.and given_1 narrow_1).before args0 about1 = true := by decide +kernel
theorem w_applies : (headSpec (Jvm.Cond.code x code maxLocals ret :: tables_1) room_1).applies x e0.platform about1 = true :=
  (Spec.applies_iff w_frames).mpr ⟨w_running, w_runnable, w_alone, w_named, w_hears, w_ripe, w_room, w_tables⟩
theorem atStart : AtStart classFile x code maxLocals ret World_1 tables_1 room_1 Calls_1 rest_1 Pre_1 launch0 p0 e0 about1 theMethod args0 below0 :=
  ⟨lists_1, trivial, launch0.admits_env _ _ _, launch0.least_env, fairChoices_fair.cas, fairChoices_fair.clock, w_frames, w_args, w_heap, w_applies, trivial, trivial, w_case⟩
end start1
theorem witness_1 : WitnessClaimed_1 := ⟨start1.p0, start1.e0, start1.about1, start1.theMethod, start1.args0, start1.below0, start1.atStart⟩
end Jvm.Pilot.@@N@@
