import JvmDerived
import JvmDerived.Pilot.@@N@@Statement
import JvmDerived.Pilot.@@N@@Code
set_option linter.unusedVariables false
set_option linter.unusedSimpArgs false
namespace Jvm.Pilot.@@N@@
open Jvm Jvm.ClassFile Sem Op Lib Jvm.Free Jvm.Stand Jvm.LawKit Jvm.RoadKit Bundle Jvm.Pilot.@@N@@.Jvm.D
section Own
set_option maxHeartbeats 4000000
variable {p : Program} {l : Launch} {e : Env} {R : Room} {s : State} {m : MethodId} {args : Array Value} {below : List Frame} {meth : Method} {c : Code} {T : State} {locs : List Loc} {cells slots : Nat} {Z : State} {a0 : Array Value} {h : Heap} {own nm : String} {bytes : ByteArray} {ml : Nat} {rt : Option FieldType} {Q : Option Value → Heap → List Loc → Prop} {CC SS : Nat} {E : Outcome → State → Prop} {pc : Nat} {Ls : Array Slot} {St : List Value}
def Ctx (p : Program) (s : State) (m : MethodId) (meth : Method) (c : Code) (Z : State) (own nm : String) (bytes : ByteArray) (ml : Nat) (rt : Option FieldType) : Prop :=
  p.tables.exec = Jvm.exec ∧ Z.Warmed39 s.vm ∧ c.code = bytes ∧ c.maxLocals = ml ∧ s.vm.findClass own = some m.cls ∧ meth.locks = false ∧ meth.sig.returnType = rt ∧ meth.name = nm
theorem Ctx.c_x (C : Ctx p s m meth c Z own nm bytes ml rt) : p.tables.exec = Jvm.exec := C.1
theorem Ctx.c_z (C : Ctx p s m meth c Z own nm bytes ml rt) : Z.Warmed39 s.vm := C.2.1
theorem Ctx.c_by (C : Ctx p s m meth c Z own nm bytes ml rt) : c.code = bytes := C.2.2.1
theorem Ctx.c_ml (C : Ctx p s m meth c Z own nm bytes ml rt) : c.maxLocals = ml := C.2.2.2.1
theorem Ctx.c_own (C : Ctx p s m meth c Z own nm bytes ml rt) : s.vm.findClass own = some m.cls := C.2.2.2.2.1
theorem Ctx.c_lk (C : Ctx p s m meth c Z own nm bytes ml rt) : meth.locks = false := C.2.2.2.2.2.1
theorem Ctx.c_rt (C : Ctx p s m meth c Z own nm bytes ml rt) : meth.sig.returnType = rt := C.2.2.2.2.2.2.1
theorem Ctx.c_nm (C : Ctx p s m meth c Z own nm bytes ml rt) : meth.name = nm := C.2.2.2.2.2.2.2
def EndN (s : State) (Q : Option Value → Heap → List Loc → Prop) (CC SS : Nat) (o : Outcome) (t : State) : Prop := ∃ v L, o = .returned v ∧ Q v t.heap L ∧ FrameEnd s o t L CC SS
def Goes (p : Program) (e : Env) (below : List Frame) (E : Outcome → State → Prop) (T : State) (m : MethodId) (pc : Nat) (Ls : Array Slot) (St : List Value) : Prop :=
  ∃ s₂ o, Steps p.tables e below (T.setTop (mkF m pc Ls St)) s₂ ∧ s₂.status = .running ∧ Ended s₂ below o ∧ E o s₂
theorem Goes.back {T' : State} {q : Nat} {Ls' : Array Slot} {St' : List Value} (k : Goes p e below E T' m q Ls' St') (f : ∀ t, Steps p.tables e below (T'.setTop (mkF m q Ls' St')) t → Steps p.tables e below (T.setTop (mkF m pc Ls St)) t) : Goes p e below E T m pc Ls St := by
  obtain ⟨s2, o, h1, h2⟩ := k
  exact ⟨s2, o, f _ h1, h2⟩
theorem Goes.enter {g : JFrame} (hg : g = mkF m 0 Ls []) (k : Goes p e below (EndN s Q CC SS) T m 0 Ls []) : ∃ s₂ o, Steps p.tables e below (T.setTop g) s₂ ∧ s₂.status = .running ∧ Ended s₂ below o ∧ ∃ v L, o = .returned v ∧ Q v s₂.heap L ∧ FrameEnd s o s₂ L CC SS := by
  subst hg
  exact k
theorem Ctx.of {x : MethodName} {S : Spec} {s₁ : State} (Bd : BodyLoose p l x S bytes ml rt e s m args below meth c s₁) (hml : c.maxLocals = ml) (hZ : Z.Warmed39 s.vm) : Ctx p s m meth c Z x.cls x.name bytes ml rt :=
  ⟨Bd.exec, hZ, Bd.bytes, hml, findClass_of_methodNamed Bd.named, Bd.notSynchronized, Bd.returns, (name_of_methodNamed Bd.named Bd.method).1⟩
theorem g_iand (q : Nat) (hq : pc + 1 = q) (C : Ctx p s m meth c Z own nm bytes ml rt) (X : Stand p l e R s m args below meth c T locs cells slots) {x y : Int32} (hd : decode bytes pc = .ok (.iand, 1)) (k : Goes p e below E T m q Ls (.int (x &&& y) :: St)) : Goes p e below E T m pc Ls (.int y :: .int x :: St) := by
  subst hq
  exact k.back fun t kt => XS.iand (g := mkF m pc Ls (.int y :: .int x :: St)) X.here C.c_x rfl (hb C.c_by hd) rfl kt
theorem g_land (q : Nat) (hq : pc + 1 = q) (C : Ctx p s m meth c Z own nm bytes ml rt) (X : Stand p l e R s m args below meth c T locs cells slots) {x y : Int64} (hd : decode bytes pc = .ok (.land, 1)) (k : Goes p e below E T m q Ls (.long (x &&& y) :: St)) : Goes p e below E T m pc Ls (.long y :: .long x :: St) := by
  subst hq
  exact k.back fun t kt => XS.land (g := mkF m pc Ls (.long y :: .long x :: St)) X.here C.c_x rfl (hb C.c_by hd) rfl kt
theorem g_i2l (q : Nat) (hq : pc + 1 = q) (C : Ctx p s m meth c Z own nm bytes ml rt) (X : Stand p l e R s m args below meth c T locs cells slots) {x : Int32} (hd : decode bytes pc = .ok (.i2l, 1)) (k : Goes p e below E T m q Ls (.long x.toInt64 :: St)) : Goes p e below E T m pc Ls (.int x :: St) := by
  subst hq
  exact k.back fun t kt => XS.i2l (g := mkF m pc Ls (.int x :: St)) X.here C.c_x rfl (hb C.c_by hd) rfl kt
theorem g_l2i (q : Nat) (hq : pc + 1 = q) (C : Ctx p s m meth c Z own nm bytes ml rt) (X : Stand p l e R s m args below meth c T locs cells slots) {x : Int64} (hd : decode bytes pc = .ok (.l2i, 1)) (k : Goes p e below E T m q Ls (.int x.toInt32 :: St)) : Goes p e below E T m pc Ls (.long x :: St) := by
  subst hq
  exact k.back fun t kt => XS.l2i (g := mkF m pc Ls (.long x :: St)) X.here C.c_x rfl (hb C.c_by hd) rfl kt
theorem g_lcmp (q : Nat) (hq : pc + 1 = q) (C : Ctx p s m meth c Z own nm bytes ml rt) (X : Stand p l e R s m args below meth c T locs cells slots) {x y : Int64} (hd : decode bytes pc = .ok (.lcmp, 1)) (k : Goes p e below E T m q Ls (.int (lcmpW x y) :: St)) : Goes p e below E T m pc Ls (.long y :: .long x :: St) := by
  subst hq
  exact k.back fun t kt => XS.lcmp (g := mkF m pc Ls (.long y :: .long x :: St)) X.here C.c_x rfl (hb C.c_by hd) rfl kt
theorem g_iconst (q : Nat) (hq : pc + 1 = q) (C : Ctx p s m meth c Z own nm bytes ml rt) (X : Stand p l e R s m args below meth c T locs cells slots) {i : Int} (v : Int32) (hd : decode bytes pc = .ok (.iconst i, 1)) (hv : Int32.ofInt i = v) (k : Goes p e below E T m q Ls (.int v :: St)) : Goes p e below E T m pc Ls St := by
  subst hq
  exact k.back fun t kt => XS.iconst (g := mkF m pc Ls St) X.here C.c_x rfl (hb C.c_by hd) (by subst hv; exact kt)
theorem g_iloadN (q : Nat) (hq : pc + 1 = q) (C : Ctx p s m meth c Z own nm bytes ml rt) (X : Stand p l e R s m args below meth c T locs cells slots) {k0 : Fin 4} {v : Int32} (hd : decode bytes pc = .ok (.iload_n k0, 1)) (hl : Ls[k0.val]? = some (.val (.int v))) (k : Goes p e below E T m q Ls (.int v :: St)) : Goes p e below E T m pc Ls St := by
  subst hq
  exact k.back fun t kt => XS.iloadN (g := mkF m pc Ls St) X.here C.c_x rfl (hb C.c_by hd) hl kt
theorem g_iload (q : Nat) (hq : pc + 2 = q) (C : Ctx p s m meth c Z own nm bytes ml rt) (X : Stand p l e R s m args below meth c T locs cells slots) {k0 : Nat} {v : Int32} (hd : decode bytes pc = .ok (.iload k0, 2)) (hl : Ls[k0]? = some (.val (.int v))) (k : Goes p e below E T m q Ls (.int v :: St)) : Goes p e below E T m pc Ls St := by
  subst hq
  exact k.back fun t kt => XS.iload (g := mkF m pc Ls St) X.here C.c_x rfl (hb C.c_by hd) hl kt
theorem g_lloadN (q : Nat) (hq : pc + 1 = q) (C : Ctx p s m meth c Z own nm bytes ml rt) (X : Stand p l e R s m args below meth c T locs cells slots) {k0 : Fin 4} {v : Int64} (hd : decode bytes pc = .ok (.lload_n k0, 1)) (hl : Ls[k0.val]? = some (.val (.long v))) (k : Goes p e below E T m q Ls (.long v :: St)) : Goes p e below E T m pc Ls St := by
  subst hq
  exact k.back fun t kt => XS.lloadN (g := mkF m pc Ls St) X.here C.c_x rfl (hb C.c_by hd) hl kt
theorem g_lload (q : Nat) (hq : pc + 2 = q) (C : Ctx p s m meth c Z own nm bytes ml rt) (X : Stand p l e R s m args below meth c T locs cells slots) {k0 : Nat} {v : Int64} (hd : decode bytes pc = .ok (.lload k0, 2)) (hl : Ls[k0]? = some (.val (.long v))) (k : Goes p e below E T m q Ls (.long v :: St)) : Goes p e below E T m pc Ls St := by
  subst hq
  exact k.back fun t kt => XS.lload (g := mkF m pc Ls St) X.here C.c_x rfl (hb C.c_by hd) hl kt
theorem g_aloadN (q : Nat) (hq : pc + 1 = q) (C : Ctx p s m meth c Z own nm bytes ml rt) (X : Stand p l e R s m args below meth c T locs cells slots) {k0 : Fin 4} {v : Value} (hd : decode bytes pc = .ok (.aload_n k0, 1)) (hl : Ls[k0.val]? = some (.val v)) (hv : v.isRef = true) (k : Goes p e below E T m q Ls (v :: St)) : Goes p e below E T m pc Ls St := by
  subst hq
  exact k.back fun t kt => XS.aloadN (g := mkF m pc Ls St) X.here C.c_x rfl (hb C.c_by hd) hl hv kt
theorem g_aload (q : Nat) (hq : pc + 2 = q) (C : Ctx p s m meth c Z own nm bytes ml rt) (X : Stand p l e R s m args below meth c T locs cells slots) {k0 : Nat} {v : Value} (hd : decode bytes pc = .ok (.aload k0, 2)) (hl : Ls[k0]? = some (.val v)) (hv : v.isRef = true) (k : Goes p e below E T m q Ls (v :: St)) : Goes p e below E T m pc Ls St := by
  subst hq
  exact k.back fun t kt => XS.aload (g := mkF m pc Ls St) X.here C.c_x rfl (hb C.c_by hd) hl hv kt
theorem g_istore (q : Nat) (hq : pc + 2 = q) (C : Ctx p s m meth c Z own nm bytes ml rt) (X : Stand p l e R s m args below meth c T locs cells slots) {k0 : Nat} {x : Int32} (v : Int32) (hv : x = v) (Ls' : Array Slot) (hd : decode bytes pc = .ok (.istore k0, 2)) (hl : storeLocals Ls k0 (.int v) = some Ls') (k : Goes p e below E T m q Ls' St) : Goes p e below E T m pc Ls (.int x :: St) := by
  subst hq
  exact k.back fun t kt => XS.istore (g := mkF m pc Ls (.int x :: St)) X.here C.c_x rfl (hb C.c_by hd) rfl (by subst hv; exact hl) kt
theorem g_lstore (q : Nat) (hq : pc + 2 = q) (C : Ctx p s m meth c Z own nm bytes ml rt) (X : Stand p l e R s m args below meth c T locs cells slots) {k0 : Nat} {x : Int64} (v : Int64) (hv : x = v) (Ls' : Array Slot) (hd : decode bytes pc = .ok (.lstore k0, 2)) (hl : storeLocals Ls k0 (.long v) = some Ls') (k : Goes p e below E T m q Ls' St) : Goes p e below E T m pc Ls (.long x :: St) := by
  subst hq
  exact k.back fun t kt => XS.lstore (g := mkF m pc Ls (.long x :: St)) X.here C.c_x rfl (hb C.c_by hd) rfl (by subst hv; exact hl) kt
theorem g_astore (q : Nat) (hq : pc + 2 = q) (C : Ctx p s m meth c Z own nm bytes ml rt) (X : Stand p l e R s m args below meth c T locs cells slots) {k0 : Nat} {x : Value} (Ls' : Array Slot) (hd : decode bytes pc = .ok (.astore k0, 2)) (hv : x.isRef = true) (hl : storeLocals Ls k0 x = some Ls') (k : Goes p e below E T m q Ls' St) : Goes p e below E T m pc Ls (x :: St) := by
  subst hq
  exact k.back fun t kt => XS.astore (g := mkF m pc Ls (x :: St)) X.here C.c_x rfl (hb C.c_by hd) rfl hv hl kt
theorem g_dup (q : Nat) (hq : pc + 1 = q) (C : Ctx p s m meth c Z own nm bytes ml rt) (X : Stand p l e R s m args below meth c T locs cells slots) {v : Value} (hd : decode bytes pc = .ok (.dup, 1)) (hv : v.category = 1) (k : Goes p e below E T m q Ls (v :: v :: St)) : Goes p e below E T m pc Ls (v :: St) := by
  subst hq
  exact k.back fun t kt => XS.dup (g := mkF m pc Ls (v :: St)) X.here C.c_x rfl (hb C.c_by hd) rfl hv kt
theorem g_goto (q : Nat) (C : Ctx p s m meth c Z own nm bytes ml rt) (X : Stand p l e R s m args below meth c T locs cells slots) {o : Int} (hd : decode bytes pc = .ok (.goto o, 3)) (ho : 0 ≤ (pc : Int) + o) (hp : ((pc : Int) + o).toNat = q) (k : Goes p e below E T m q Ls St) : Goes p e below E T m pc Ls St :=
  k.back fun t kt => XS.goto (g := mkF m pc Ls St) X.here C.c_x rfl (pc0 := pc) (pc' := q) rfl (hb C.c_by hd) ho hp kt
theorem own_z0 : (0 : Int32).toInt = 0 := rfl
theorem g_il_gt_t (q : Nat) (C : Ctx p s m meth c Z own nm bytes ml rt) (X : Stand p l e R s m args below meth c T locs cells slots) {o : Int} {x y : Int64} (hd : decode bytes pc = .ok (.ifCond .gt o, 3)) (ho : 0 ≤ (pc : Int) + o) (hp : ((pc : Int) + o).toNat = q) (h : y.toInt < x.toInt) (k : Goes p e below E T m q Ls St) : Goes p e below E T m pc Ls (.int (lcmpW x y) :: St) :=
  k.back fun t kt => XS.ifYes (g := mkF m pc Ls (.int (lcmpW x y) :: St)) X.here C.c_x rfl (pc0 := pc) (pc' := q) rfl (hb C.c_by hd) rfl ((if0 _ _).trans (tlt ((lw_gt x y).mpr (Int64.lt_iff_toInt_lt.mpr h))).2.2.1) ho hp kt
theorem g_il_gt_f (q : Nat) (hq : pc + 3 = q) (C : Ctx p s m meth c Z own nm bytes ml rt) (X : Stand p l e R s m args below meth c T locs cells slots) {o : Int} {x y : Int64} (hd : decode bytes pc = .ok (.ifCond .gt o, 3)) (h : ¬ y.toInt < x.toInt) (k : Goes p e below E T m q Ls St) : Goes p e below E T m pc Ls (.int (lcmpW x y) :: St) := by
  subst hq
  exact k.back fun t kt => XS.ifNo (g := mkF m pc Ls (.int (lcmpW x y) :: St)) X.here C.c_x rfl (hb C.c_by hd) rfl ((if0 _ _).trans (flt (fun r => h (Int64.lt_iff_toInt_lt.mp ((lw_gt x y).mp r)))).2.2.1) kt
theorem g_il_le_t (q : Nat) (C : Ctx p s m meth c Z own nm bytes ml rt) (X : Stand p l e R s m args below meth c T locs cells slots) {o : Int} {x y : Int64} (hd : decode bytes pc = .ok (.ifCond .le o, 3)) (ho : 0 ≤ (pc : Int) + o) (hp : ((pc : Int) + o).toNat = q) (h : ¬ y.toInt < x.toInt) (k : Goes p e below E T m q Ls St) : Goes p e below E T m pc Ls (.int (lcmpW x y) :: St) :=
  k.back fun t kt => XS.ifYes (g := mkF m pc Ls (.int (lcmpW x y) :: St)) X.here C.c_x rfl (pc0 := pc) (pc' := q) rfl (hb C.c_by hd) rfl ((if0 _ _).trans (flt (fun r => h (Int64.lt_iff_toInt_lt.mp ((lw_gt x y).mp r)))).2.2.2) ho hp kt
theorem g_il_le_f (q : Nat) (hq : pc + 3 = q) (C : Ctx p s m meth c Z own nm bytes ml rt) (X : Stand p l e R s m args below meth c T locs cells slots) {o : Int} {x y : Int64} (hd : decode bytes pc = .ok (.ifCond .le o, 3)) (h : y.toInt < x.toInt) (k : Goes p e below E T m q Ls St) : Goes p e below E T m pc Ls (.int (lcmpW x y) :: St) := by
  subst hq
  exact k.back fun t kt => XS.ifNo (g := mkF m pc Ls (.int (lcmpW x y) :: St)) X.here C.c_x rfl (hb C.c_by hd) rfl ((if0 _ _).trans (tlt ((lw_gt x y).mpr (Int64.lt_iff_toInt_lt.mpr h))).2.2.2) kt
theorem g_if_eq_t (q : Nat) (C : Ctx p s m meth c Z own nm bytes ml rt) (X : Stand p l e R s m args below meth c T locs cells slots) {o : Int} {x : Int32} (hd : decode bytes pc = .ok (.ifCond .eq o, 3)) (ho : 0 ≤ (pc : Int) + o) (hp : ((pc : Int) + o).toNat = q) (h : x.toInt = 0) (k : Goes p e below E T m q Ls St) : Goes p e below E T m pc Ls (.int x :: St) :=
  k.back fun t kt => XS.ifYes (g := mkF m pc Ls (.int x :: St)) X.here C.c_x rfl (pc0 := pc) (pc' := q) rfl (hb C.c_by hd) rfl ((if0 _ _).trans (teq (Int32.toInt_inj.mp h)).1) ho hp kt
theorem g_if_eq_f (q : Nat) (hq : pc + 3 = q) (C : Ctx p s m meth c Z own nm bytes ml rt) (X : Stand p l e R s m args below meth c T locs cells slots) {o : Int} {x : Int32} (hd : decode bytes pc = .ok (.ifCond .eq o, 3)) (h : ¬ x.toInt = 0) (k : Goes p e below E T m q Ls St) : Goes p e below E T m pc Ls (.int x :: St) := by
  subst hq
  exact k.back fun t kt => XS.ifNo (g := mkF m pc Ls (.int x :: St)) X.here C.c_x rfl (hb C.c_by hd) rfl ((if0 _ _).trans (feq (fun r => h (congrArg Int32.toInt r))).1) kt
theorem g_icmp_ne_t (q : Nat) (C : Ctx p s m meth c Z own nm bytes ml rt) (X : Stand p l e R s m args below meth c T locs cells slots) {o : Int} {x y : Int32} (hd : decode bytes pc = .ok (.if_icmp .ne o, 3)) (ho : 0 ≤ (pc : Int) + o) (hp : ((pc : Int) + o).toNat = q) (h : ¬ x.toInt = y.toInt) (k : Goes p e below E T m q Ls St) : Goes p e below E T m pc Ls (.int y :: .int x :: St) :=
  k.back fun t kt => XS.icmpYes (g := mkF m pc Ls (.int y :: .int x :: St)) X.here C.c_x rfl (pc0 := pc) (pc' := q) rfl (hb C.c_by hd) rfl (feq (fun r => h (congrArg Int32.toInt r))).2 ho hp kt
theorem g_il_ne_t (q : Nat) (C : Ctx p s m meth c Z own nm bytes ml rt) (X : Stand p l e R s m args below meth c T locs cells slots) {o : Int} {x y : Int64} (hd : decode bytes pc = .ok (.ifCond .ne o, 3)) (ho : 0 ≤ (pc : Int) + o) (hp : ((pc : Int) + o).toNat = q) (h : ¬ x.toInt = y.toInt) (k : Goes p e below E T m q Ls St) : Goes p e below E T m pc Ls (.int (lcmpW x y) :: St) :=
  k.back fun t kt => XS.ifYes (g := mkF m pc Ls (.int (lcmpW x y) :: St)) X.here C.c_x rfl (pc0 := pc) (pc' := q) rfl (hb C.c_by hd) rfl ((if0 _ _).trans (feq (fun r => h (congrArg Int64.toInt ((lw_eq x y).mp r)))).2) ho hp kt
theorem g_icmp_ne_f (q : Nat) (hq : pc + 3 = q) (C : Ctx p s m meth c Z own nm bytes ml rt) (X : Stand p l e R s m args below meth c T locs cells slots) {o : Int} {x y : Int32} (hd : decode bytes pc = .ok (.if_icmp .ne o, 3)) (h : x.toInt = y.toInt) (k : Goes p e below E T m q Ls St) : Goes p e below E T m pc Ls (.int y :: .int x :: St) := by
  subst hq
  exact k.back fun t kt => XS.icmpNo (g := mkF m pc Ls (.int y :: .int x :: St)) X.here C.c_x rfl (hb C.c_by hd) rfl (teq (Int32.toInt_inj.mp h)).2 kt
theorem g_il_ne_f (q : Nat) (hq : pc + 3 = q) (C : Ctx p s m meth c Z own nm bytes ml rt) (X : Stand p l e R s m args below meth c T locs cells slots) {o : Int} {x y : Int64} (hd : decode bytes pc = .ok (.ifCond .ne o, 3)) (h : x.toInt = y.toInt) (k : Goes p e below E T m q Ls St) : Goes p e below E T m pc Ls (.int (lcmpW x y) :: St) := by
  subst hq
  exact k.back fun t kt => XS.ifNo (g := mkF m pc Ls (.int (lcmpW x y) :: St)) X.here C.c_x rfl (hb C.c_by hd) rfl ((if0 _ _).trans (teq ((lw_eq x y).mpr (Int64.toInt_inj.mp h))).2) kt
theorem g_ldc2 (q : Nat) (hq : pc + 3 = q) (C : Ctx p s m meth c Z own nm bytes ml rt) (X : Stand p l e R s m args below meth c T locs cells slots) {i : Nat} {v : Int64} (w : (Cond.constantLong own i v).before a0 Z = true) (hd : decode bytes pc = .ok (.ldc2_w i, 3)) (k : Goes p e below E T m q Ls (.long v :: St)) : Goes p e below E T m pc Ls St := by
  subst hq
  exact k.back fun t kt => X.ldc2Long C.c_x C.c_own (mvT C.c_z w) (g := mkF m pc Ls St) rfl (hb C.c_by hd) _ kt
theorem g_retW (C : Ctx p s m meth c Z own nm bytes ml rt) (X : Stand p l e R s m args below meth c T locs cells slots) {w : Value} {t : FieldType} {i : Instr} (hrt : rt = some t) (hn : narrow t w = w)
    (hi : (i = .ireturn ∧ (t = .int ∨ t = .boolean ∨ t = .byte ∨ t = .char ∨ t = .short) ∧ ∃ z, w = .int z) ∨ (i = .lreturn ∧ t = .long ∧ ∃ z, w = .long z) ∨ (i = .dreturn ∧ t = .double ∧ ∃ z, w = .double z) ∨ (i = .freturn ∧ t = .float ∧ ∃ z, w = .float z) ∨ (i = .areturn ∧ t.isReference = true ∧ w.isRef = true))
    (hd : decode bytes pc = .ok (i, 1)) (eT : T.heap = h) (hc : cells ≤ CC) (hs : slots ≤ SS) (hQ : Q (some w) h locs) : Goes p e below (EndN s Q CC SS) T m pc Ls (w :: St) := by
  obtain ⟨fs, hr, hrun, hended, hW, hsame⟩ := X.leave (v := some w) (fun r => by rw [C.c_rt, hrt] at r; cases r) C.c_lk
  subst eT
  exact ⟨_, _, retOut X C.c_x (C.c_rt.trans hrt) hn hi (hb C.c_by hd) hr, hrun, hended, _, _, rfl, hQ, ⟨_, rfl⟩, hW, hsame.mono hc hs⟩
theorem g_retI (C : Ctx p s m meth c Z own nm bytes ml rt) (X : Stand p l e R s m args below meth c T locs cells slots) {z : Int32} (hrt : rt = some .int) (hd : decode bytes pc = .ok (.ireturn, 1)) (eT : T.heap = h) (hc : cells ≤ CC) (hs : slots ≤ SS) (hQ : Q (some (.int z)) h locs) : Goes p e below (EndN s Q CC SS) T m pc Ls (.int z :: St) :=
  g_retW C X hrt rfl (Or.inl ⟨rfl, Or.inl rfl, z, rfl⟩) hd eT hc hs hQ
theorem g_retN (C : Ctx p s m meth c Z own nm bytes ml rt) (X : Stand p l e R s m args below meth c T locs cells slots) {z z' : Int32} {t : FieldType} (hrt : rt = some t) (ht : t = .boolean ∨ t = .byte ∨ t = .char ∨ t = .short) (hd : decode bytes pc = .ok (.ireturn, 1)) (eT : T.heap = h) (hc : cells ≤ CC) (hs : slots ≤ SS) (hz : nar t z = z') (hQ : Q (some (.int z')) h locs) : Goes p e below (EndN s Q CC SS) T m pc Ls (.int z :: St) := by
  obtain ⟨fs, hr, hrun, hended, hW, hsame⟩ := X.leave (v := some (.int (nar t z))) (fun r => by rw [C.c_rt, hrt] at r; cases r) C.c_lk
  subst eT
  subst hz
  exact ⟨_, _, retN X C.c_x (C.c_rt.trans hrt) ht (hb C.c_by hd) hr, hrun, hended, _, _, rfl, hQ, ⟨_, rfl⟩, hW, hsame.mono hc hs⟩
theorem g_retV (C : Ctx p s m meth c Z own nm bytes ml rt) (X : Stand p l e R s m args below meth c T locs cells slots) (hrt : rt = none) (hd : decode bytes pc = .ok (.return_, 1)) (eT : T.heap = h) (hc : cells ≤ CC) (hs : slots ≤ SS) (hQ : Q none h locs) : Goes p e below (EndN s Q CC SS) T m pc Ls [] := by
  obtain ⟨fs, hr, hrun, hended, hW, hsame⟩ := X.leave (v := none) (fun _ => rfl) C.c_lk
  subst eT
  exact ⟨_, _, X.returnOut C.c_x (C.c_rt.trans hrt) (hb C.c_by hd) hr, hrun, hended, _, _, rfl, hQ, ⟨_, rfl⟩, hW, hsame.mono hc hs⟩
theorem g_getF (q : Nat) (hq : pc + 3 = q) (C : Ctx p s m meth c Z own nm bytes ml rt) (X : Stand p l e R s m args below meth c T locs cells slots) {R0 O n d host : String} {i : Nat} {a : Addr} {v : Value} (w : (Cond.fieldLink own i R0 n d).before a0 Z = true ∨ (Cond.fieldLinkNest own i R0 n d host).before a0 Z = true) (via : Via Z R0 O n d) (eT : T.heap = h) (F : Fld Z h a O n d v) (hd : decode bytes pc = .ok (.getfield i, 3))
    (k : ∀ T', Stand p l e R s m args below meth c T' locs cells slots → T'.heap = h → Goes p e below E T' m q Ls (v :: St)) : Goes p e below E T m pc Ls (.ref a :: St) := by
  subst hq
  obtain ⟨T', X', e', st⟩ := getF X C.c_x C.c_z C.c_own w via eT F (g := mkF m pc Ls (.ref a :: St)) rfl rfl (hb C.c_by hd)
  exact (k T' X' e').back fun t kt => st t kt
theorem g_putF (q : Nat) (hq : pc + 3 = q) (C : Ctx p s m meth c Z own nm bytes ml rt) (X : Stand p l e R s m args below meth c T locs cells slots) {R0 O n d host K : String} {i kk : Nat} {ty : FieldType} {a : Addr} {v old : Value} (w : (Cond.fieldLink own i R0 n d).before a0 Z = true ∨ (Cond.fieldLinkNest own i R0 n d host).before a0 Z = true) (via : Via Z R0 O n d) (eT : T.heap = h) (F : Fld Z h a O n d old) (EX : Exa Z h a K)
    (L : (Cond.lays K O n d).before a0 Z = true ∨ ((Cond.laysFinal K O n d).before a0 Z = true ∧ own = O ∧ nm = "<init>")) (wi : (Cond.instantiable K kk).before a0 Z = true) (hty : parseFieldDescriptor d = some ty) (hn : narrow ty v = v) (hf : fits ty v = true) (hd : decode bytes pc = .ok (.putfield i, 3)) {n0 : Nat} (N : Fr n0 locs) (hn0 : n0 ≤ a)
    (k : ∀ T' h' locs', Stand p l e R s m args below meth c T' locs' cells slots → T'.heap = h' → Wr h h' a (Jvm.RoadKit.slotOf Z O n d) v → Fr n0 locs' → Goes p e below E T' m q Ls St) : Goes p e below E T m pc Ls (v :: .ref a :: St) := by
  subst hq
  obtain ⟨T', h', X', e', W', st⟩ := putF X C.c_x C.c_z C.c_own w via eT F EX (L.imp id fun r => ⟨r.1, r.2.1, C.c_nm.trans r.2.2⟩) wi hty hn hf (g := mkF m pc Ls (v :: .ref a :: St)) rfl rfl (hb C.c_by hd)
  exact (k T' h' _ X' e' W' (Fr.snoc X' N hn0)).back fun t kt => st t kt
theorem g_new (q : Nat) (hq : pc + 3 = q) (C : Ctx p s m meth c Z own nm bytes ml rt) (X : Stand p l e R s m args below meth c T locs cells slots) {K : String} {i n : Nat} (w : (Cond.classLink own i K).before a0 Z = true) (wi : (Cond.instantiable K n).before a0 Z = true) (wz : (Cond.initialized K).before a0 Z = true) (eT : T.heap = h) (hd : decode bytes pc = .ok (.new i, 3)) (hc : cells + 1 ≤ R.cells) (hl : slots + n ≤ R.slots)
    (k : ∀ T' h' a, a = h.size → Stand p l e R s m args below meth c T' locs (cells + 1) (slots + n) → T'.heap = h' → Ext h h' → Exa Z h' a K → (∀ {O nm d : String} {ty : FieldType}, Laid Z a0 K O nm d → parseFieldDescriptor d = some ty → Fld Z h' a O nm d (defaultValue ty)) → Goes p e below E T' m q Ls (.ref a :: St)) : Goes p e below E T m pc Ls St := by
  subst hq
  obtain ⟨T', h', X', e', E', A', D', -, st⟩ := newO X C.c_x C.c_z C.c_own w wi wz eT (g := mkF m pc Ls St) rfl (hb C.c_by hd) hc hl
  exact (k T' h' _ rfl X' e' E' A' D').back fun t kt => st t kt
theorem g_initO (q : Nat) (hq : pc + 3 = q) (C : Ctx p s m meth c Z own nm bytes ml rt) (X : Stand p l e R s m args below meth c T locs cells slots) {i : Nat} {a : Addr} (w1 : (Cond.methodLink own i Lib.objectInit).before a0 Z = true) (w2 : (Cond.instanceMethod Lib.objectInit).before a0 Z = true) (w3 : (Cond.code Lib.objectInit ⟨#[0xb1]⟩ 1 none).before a0 Z = true) (eT : T.heap = h) (hd : decode bytes pc = .ok (.invokespecial i, 3)) (hsz : Ls.size = ml) (hf : 1 ≤ R.frames) {W : Nat} (hW : (St.map fun v => v.category).sum ≤ W) (hl : W + 12 ≤ R.locals)
    (k : ∀ T', Stand p l e R s m args below meth c T' locs cells slots → T'.heap = h → Goes p e below E T' m q Ls St) : Goes p e below E T m pc Ls (.ref a :: St) := by
  subst hq
  obtain ⟨T', X', e', st⟩ := initO X C.c_x C.c_z C.c_own w1 w2 w3 eT (g := mkF m pc Ls (.ref a :: St)) rfl (hsz.trans C.c_ml.symm) rfl (hb C.c_by hd) hf (W := W) (by show 2 * 0 + _ ≤ _; omega) hl
  exact (k T' X' e').back fun t kt => st t kt
def Ba (Z : State) (h : Heap) (a : Addr) (ty : FieldType) (n : Nat) (f : Nat → Int32) : Prop := ∃ c : Cell, Arr Z h a c ty ∧ c.slots.size = n ∧ n < 2 ^ 31 ∧ (∀ k, k < n → c.slots[k]? = some (.int (f k)))
def upd (f : Nat → Int32) (j : Nat) (v : Int32) : Nat → Int32 := fun k => bif Nat.beq k j then v else f k
theorem upd_same {f : Nat → Int32} {j k : Nat} {v : Int32} (q : k = j) : upd f j v k = v := by subst q; simp [upd]
theorem upd_ne {f : Nat → Int32} {j k : Nat} {v : Int32} (q : k ≠ j) : upd f j v k = f k := by
  have : Nat.beq k j = false := by
    cases hb : Nat.beq k j with
    | false => rfl
    | true => exact absurd (Nat.eq_of_beq_eq_true hb) q
  show (bif Nat.beq k j then v else f k) = f k
  rw [this]; rfl
theorem upd_eq (f : Nat → Int32) (j k : Nat) (v : Int32) : upd f j v k = if k = j then v else f k := by
  split
  · rename_i q; exact upd_same q
  · rename_i q; exact upd_ne q
theorem Ba.lt {a : Addr} {ty : FieldType} {n : Nat} {f : Nat → Int32} (F : Ba Z h a ty n f) : a < h.size := by obtain ⟨c, A, -⟩ := F; exact A.lt
theorem Ba.ext {h' : Heap} {a : Addr} {ty : FieldType} {n : Nat} {f : Nat → Int32} (F : Ba Z h a ty n f) (E : Ext h h') : Ba Z h' a ty n f := by obtain ⟨c, A, r⟩ := F; exact ⟨c, A.ext E, r⟩
theorem Ba.other {h' : Heap} {a b : Addr} {ty : FieldType} {n sl : Nat} {v : Value} {f : Nat → Int32} (F : Ba Z h a ty n f) (W : Wr h h' b sl v) (q : a ≠ b) : Ba Z h' a ty n f := by obtain ⟨c, A, r⟩ := F; exact ⟨c, A.other W q, r⟩
theorem Ba.keep {h' : Heap} {a : Addr} {ty : FieldType} {n : Nat} {ws : List Addr} {f : Nat → Int32} (F : Ba Z h a ty n f) (K : Keep h h' ws) (q : a ∉ ws) : Ba Z h' a ty n f := by obtain ⟨c, A, r⟩ := F; exact ⟨c, ⟨K.2.1 a c A.1 q, A.2⟩, r⟩
theorem Ba.same {h' : Heap} {a : Addr} {ty : FieldType} {n j : Nat} {v : Int32} {f : Nat → Int32} (F : Ba Z h a ty n f) (W : Wr h h' a j (.int v)) : Ba Z h' a ty n (upd f j v) := by
  obtain ⟨c, A, hs, hn, hf⟩ := F
  refine ⟨_, A.same W, by simp [Cell.setSlot, hs], hn, fun k hk => ?_⟩
  rw [upd_eq]
  by_cases q : k = j
  · subst q; simp [Cell.setSlot, hs, hk]
  · rw [if_neg q]; simp only [Cell.setSlot]; rw [Array.getElem?_setIfInBounds_ne (Ne.symm q)]; exact hf k hk
theorem Ba.cong {a : Addr} {ty : FieldType} {n : Nat} {f f' : Nat → Int32} (F : Ba Z h a ty n f) (q : ∀ k, k < n → f k = f' k) : Ba Z h a ty n f' := by
  obtain ⟨c, A, hs, hn, hf⟩ := F
  exact ⟨c, A, hs, hn, fun k hk => by rw [← q k hk]; exact hf k hk⟩
theorem Ba.new {a : Addr} {cA : ClassId} {ty : FieldType} {z : Int32} {n : Nat} (A : Arr Z h a (newA cA ty z) ty) (hz : z.toInt = n) (hd : defaultValue ty = .int 0) : Ba Z h a ty n (fun _ => 0) := by
  have hr := rng32 z
  have hn : z.toNatClampNeg = n := by simp only [Int32.toNatClampNeg, hz]; rfl
  exact ⟨_, A, by rw [sz_new, hn], by omega, fun k hk => by simp [newA, hn, hk, hd]⟩
theorem own_clamp {j : Int32} {k : Nat} (hj : j.toInt = k) : j.toNatClampNeg = k ∧ ¬ j < 0 := by
  refine ⟨by simp only [Int32.toNatClampNeg, hj]; rfl, fun r => ?_⟩
  have := Int32.lt_iff_toInt_lt.mp r
  rw [hj, own_z0] at this; omega
theorem own_in {j : Int32} {k n : Nat} {c : Cell} (hs : c.slots.size = n) (hj : j.toInt = k) (hk : k < n) : ¬ (j < 0 ∨ c.slots.size ≤ j.toNatClampNeg) := by
  obtain ⟨h1, h2⟩ := own_clamp hj
  rw [h1, hs]; intro r; rcases r with r | r
  · exact h2 r
  · omega
theorem own_lenI {n : Nat} (hn : n < 2 ^ 31) : (n.toInt32).toInt = n := by
  have := len_toInt hn
  exact this
theorem own_narByte {b : Int32} (h0 : -128 ≤ b.toInt) (h1 : b.toInt < 128) : b.toInt8.toInt32 = b := by
  have := c_i2b b
  exact Int32.toInt_inj.mp (by omega)
theorem own_fitB {x : Int32} (h0 : -128 ≤ x.toInt) (h1 : x.toInt < 128) : fits .byte (.int x) = true := by
  have e := own_narByte h0 h1
  rw [← e]; exact fits_nar_byte x

theorem g_callN (q : Nat) (hq : pc + 3 = q) (C : Ctx p s m meth c Z own nm bytes ml rt) (X : Stand p l e R s m args below meth c T locs cells slots) {y : MethodName} {bytes' : ByteArray} {maxL' : Nat} {ret' : Option FieldType} {rm : Room} {Q' : Option Value → Heap → List Loc → Prop} {i W : Nat} {a : Addr} {argsL : List Value} (hy1 : y.name = "<init>") (hre : ret' = none) (w1 : (Cond.methodLink own i y).before a0 Z = true) (w2 : (Cond.instanceMethod y).before a0 Z = true) (wc : (Cond.code y bytes' maxL' ret').before a0 Z = true) (wz : (Cond.initialized y.cls).before a0 Z = true) (eT : T.heap = h) (M : MetFree l y (head1 [Cond.code y bytes' maxL' ret'] rm) (fun a' U => a' = (.ref a :: argsL).toArray ∧ Z.Warmed39 U.vm ∧ U.heap = h) (fun _ _ _ _ _ => True) (fun _ U o U' => ∃ v L, o = .returned v ∧ Q' v U'.heap L ∧ FrameEnd U o U' L rm.cells rm.slots)) (hlen : ∀ sig, parseMethodDescriptor y.desc = some sig → argsL.length = sig.parameters.length) (hf : rm.frames + 1 ≤ R.frames) (hl : W + (maxL' + 11) + rm.locals ≤ R.locals) (hc : cells + rm.cells ≤ R.cells) (hsl : slots + rm.slots ≤ R.slots) (hsz : Ls.size = ml) (hW : (St.map fun v => v.category).sum ≤ W) (hy : y.cls ≠ "java/lang/invoke/MethodHandle" ∧ y.cls ≠ "java/lang/invoke/VarHandle") (hd : decode bytes pc = .ok (.invokespecial i, 3)) {St0 : List Value} (hst : St0 = argsL.reverse ++ .ref a :: St)
    (k : ∀ v T' L, Stand p l e R s m args below meth c T' (locs ++ L) (cells + rm.cells) (slots + rm.slots) → Q' v T'.heap L → Goes p e below E T' m q Ls (v.toList ++ St)) : Goes p e below E T m pc Ls St0 := by
  subst hq hst hre
  obtain ⟨v, _, ⟨T', L', k', n'⟩, -, X', ⟨Lc, hQ', l', y', z'⟩, st⟩ := X.specialBack C.c_x (y := y) hy1 C.c_own (mvT C.c_z w1) (mvT C.c_z w2) (mvT C.c_z wc) hy (backOf (W := W) M C.c_z wc wz hf hl) (g := mkF m pc Ls (argsL.reverse ++ .ref a :: St)) rfl (hsz.trans C.c_ml.symm) (Steps.refl _) (a := a) (argsL := argsL) (rest := St) hlen rfl (by show 2 * 0 + _ ≤ _; omega) (hb C.c_by hd) (fun _ _ => ⟨rfl, eT, hc, hsl⟩)
  dsimp only [Pt.U, Pt.locs, Pt.cells, Pt.slots] at X' l' y' z' st hQ'
  subst l' y' z'
  exact (k v T' Lc X' hQ').back fun t kt => st.trans kt
theorem g_callV (q : Nat) (hq : pc + 3 = q) (C : Ctx p s m meth c Z own nm bytes ml rt) (X : Stand p l e R s m args below meth c T locs cells slots) {y : MethodName} {bytes' : ByteArray} {maxL' : Nat} {ret' : Option FieldType} {rm : Room} {Q' : Option Value → Heap → List Loc → Prop} {i W : Nat} {K : String} {a : Addr} {argsL : List Value} (w1 : (Cond.methodLink own i y).before a0 Z = true) (w2 : (Cond.declares y).before a0 Z = true) (w3 : (Cond.selects K y y).before a0 Z = true) (w4 : (Cond.instanceMethod y).before a0 Z = true) (wc : (Cond.code y bytes' maxL' ret').before a0 Z = true) (wz : (Cond.initialized y.cls).before a0 Z = true) (eT : T.heap = h) (EX : Exa Z h a K) (M : MetFree l y (head1 [Cond.code y bytes' maxL' ret'] rm) (fun a' U => a' = (.ref a :: argsL).toArray ∧ Z.Warmed39 U.vm ∧ U.heap = h) (fun _ _ _ _ _ => True) (fun _ U o U' => ∃ v L, o = .returned v ∧ Q' v U'.heap L ∧ FrameEnd U o U' L rm.cells rm.slots)) (hlen : ∀ sig, parseMethodDescriptor y.desc = some sig → argsL.length = sig.parameters.length) (hf : rm.frames + 1 ≤ R.frames) (hl : W + (maxL' + 11) + rm.locals ≤ R.locals) (hc : cells + rm.cells ≤ R.cells) (hsl : slots + rm.slots ≤ R.slots) (hsz : Ls.size = ml) (hW : (St.map fun v => v.category).sum ≤ W) (hy : y.cls ≠ "java/lang/invoke/MethodHandle" ∧ y.cls ≠ "java/lang/invoke/VarHandle") (hd : decode bytes pc = .ok (.invokevirtual i, 3)) {St0 : List Value} (hst : St0 = argsL.reverse ++ .ref a :: St)
    (k : ∀ v T' L, Stand p l e R s m args below meth c T' (locs ++ L) (cells + rm.cells) (slots + rm.slots) → Q' v T'.heap L → Goes p e below E T' m q Ls (v.toList ++ St)) : Goes p e below E T m pc Ls St0 := by
  subst hq hst
  obtain ⟨cB, kB, q1, q2, q3⟩ := isOf C.c_z eT EX
  obtain ⟨v, _, ⟨T', L', k', n'⟩, -, X', ⟨Lc, hQ', l', y', z'⟩, st⟩ := X.virtualBack C.c_x (y := y) (z := y) C.c_own (mvT C.c_z w1) (mvT C.c_z w2) (notFace_of_selects (args := #[]) (mvT C.c_z w3)) (mvT C.c_z w3) (mvT C.c_z w4) hy (backOf (W := W) M C.c_z wc wz hf hl) q1 q3 (g := mkF m pc Ls (argsL.reverse ++ .ref a :: St)) rfl (hsz.trans C.c_ml.symm) (Steps.refl _) (argsL := argsL) (rest := St) hlen rfl (by show 2 * 0 + _ ≤ _; omega) (hb C.c_by hd) (fun _ _ => ⟨rfl, eT, hc, hsl⟩)
  dsimp only [Pt.U, Pt.locs, Pt.cells, Pt.slots] at X' l' y' z' st hQ'
  subst l' y' z'
  exact (k v T' Lc X' hQ').back fun t kt => st.trans kt
end Own
section OwnArith
theorem own_mulc (x y : Int32) (k : Int) (hk : y.toInt = k) : ((x * y).toInt - x.toInt * k) % 4294967296 = 0 := hk ▸ c_imul x y
theorem own_mulc' (x y : Int32) (k : Int) (hk : x.toInt = k) : ((x * y).toInt - k * y.toInt) % 4294967296 = 0 := hk ▸ c_imul x y
theorem own_lmulc (x y : Int64) (k : Int) (hk : y.toInt = k) : ((x * y).toInt - x.toInt * k) % 18446744073709551616 = 0 := hk ▸ c_lmul x y
theorem own_lmulc' (x y : Int64) (k : Int) (hk : x.toInt = k) : ((x * y).toInt - k * y.toInt) % 18446744073709551616 = 0 := hk ▸ c_lmul x y
theorem own_bvor (x y : BitVec 32) : (x ||| y) + (x &&& y) = x + y := by
  have h1 : x = (x &&& y) + (x &&& ~~~y) := by
    rw [BitVec.add_eq_or_of_and_eq_zero]
    · ext i; simp; cases x[i] <;> cases y[i] <;> rfl
    · ext i; simp; cases x[i] <;> cases y[i] <;> simp
  have h2 : x ||| y = y + (x &&& ~~~y) := by
    rw [BitVec.add_eq_or_of_and_eq_zero]
    · ext i; simp; cases x[i] <;> cases y[i] <;> rfl
    · ext i; simp; cases x[i] <;> cases y[i] <;> simp
  rw [h2]
  conv => rhs; rw [h1]
  ac_rfl
theorem own_or0 (x y : Int32) : (x ||| y) + (x &&& y) = x + y := Int32.toBitVec_inj.mp (by simpa using own_bvor x.toBitVec y.toBitVec)
theorem own_or (x y : Int32) : ((x ||| y).toInt + (x &&& y).toInt - (x.toInt + y.toInt)) % 4294967296 = 0 := by
  have h1 := c_iadd (x ||| y) (x &&& y)
  have h2 := c_iadd x y
  rw [own_or0] at h1; omega
theorem own_bvblk (x m a b : BitVec 32) (h1 : m ||| a = b) (h2 : m &&& a = 0#32) : (x &&& m) + (x &&& a) = x &&& b := by
  rw [BitVec.add_eq_or_of_and_eq_zero, ← h1]
  · ext i; simp; cases x[i] <;> simp
  · have : (x &&& m) &&& (x &&& a) = x &&& (m &&& a) := by ext i; simp; cases x[i] <;> simp
    rw [this, h2]; simp
theorem own_blk (x m a b : Int32) (h1 : m ||| a = b) (h2 : m &&& a = 0) : ((x &&& m).toInt + (x &&& a).toInt - (x &&& b).toInt) % 4294967296 = 0 := by
  have e : (x &&& m) + (x &&& a) = x &&& b := Int32.toBitVec_inj.mp (by
    have q1 := congrArg Int32.toBitVec h1
    have q2 := congrArg Int32.toBitVec h2
    simpa using own_bvblk x.toBitVec m.toBitVec a.toBitVec b.toBitVec (by simpa using q1) (by simpa using q2))
  have := c_iadd (x &&& m) (x &&& a)
  rw [e] at this; omega
theorem own_andM1 (x : Int32) : x &&& (-1) = x := Int32.toBitVec_inj.mp (by ext i; simp)
theorem own_narZ {b : Int32} (hb : b.toInt = 0 ∨ b.toInt = 1) : nar .boolean b = b := by
  have : b = 0 ∨ b = 1 := by
    rcases hb with q | q
    · exact Or.inl (Int32.toInt_inj.mp q)
    · exact Or.inr (Int32.toInt_inj.mp q)
  rcases this with rfl | rfl <;> decide
theorem own_narC {b : Int32} (h0 : 0 ≤ b.toInt) (h1 : b.toInt < 65536) : nar .char b = b := by
  have := c_i2c b
  exact Int32.toInt_inj.mp (by show b.toUInt32.toUInt16.toUInt32.toInt32.toInt = _; omega)
theorem own_narB {b : Int32} (h0 : -128 ≤ b.toInt) (h1 : b.toInt < 128) : nar .byte b = b := by
  have := c_i2b b
  exact Int32.toInt_inj.mp (by show b.toInt8.toInt32.toInt = _; omega)
theorem own_eq {x y : Int32} (q : x.toInt = y.toInt) : x = y := Int32.toInt_inj.mp q
theorem own_eqL {x y : Int64} (q : x.toInt = y.toInt) : x = y := Int64.toInt_inj.mp q
end OwnArith


theorem d2_0 : decode jdk_30_method_1_code 0 = .ok (.aload_n 0, 1) := by decide +kernel
theorem d2_1 : decode jdk_30_method_1_code 1 = .ok (.invokespecial 1, 3) := by decide +kernel
theorem d2_4 : decode jdk_30_method_1_code 4 = .ok (.return_, 1) := by decide +kernel
theorem pn_16976308 : plainName "java/lang/Record" = true := by first | (simp [plainName, overriddenIn]; done) | decide +kernel
theorem ef_2 (m : MethodId) (b0 : Addr) : entryFrame m #[(.ref b0)] 1 = mkF m 0 #[.val (.ref b0)] [] := by first | (simp [entryFrame, mkF, argsToLocals, Value.category]; done) | rfl
def Q2 (Z : State) (b0 : Addr) (h0 : Heap) (n0 : Nat) (v : Option Value) (h : Heap) (L : List Loc) : Prop := v = none ∧ Fr n0 L ∧ h = h0
set_option maxRecDepth 65536 in
set_option maxHeartbeats 40000000 in
theorem rm2 (l : Launch) (Z : State) (a0 : Array Value) (hw : ∀ d ∈ tables_1, d.before a0 Z = true) (ws : List Jvm.Cond) (b0 : Addr) (h0 : Heap) (n0 : Nat) (Z0 : n0 ≤ h0.size) :
    MetFree l (⟨"java/lang/Record", "<init>", "()V"⟩ : MethodName) (head1 (Jvm.Cond.code (⟨"java/lang/Record", "<init>", "()V"⟩ : MethodName) jdk_30_method_1_code 1 none :: ws) ({ frames := 1, cells := 0, slots := 0, locals := 12 } : Room)) (fun a U => a = #[(.ref b0)] ∧ Z.Warmed39 U.vm ∧ U.heap = h0) (fun _ _ _ _ _ => True) (fun _ U o U' => ∃ v L, o = .returned v ∧ Q2 Z b0 h0 n0 v U'.heap L ∧ FrameEnd U o U' L ({ frames := 1, cells := 0, slots := 0, locals := 12 } : Room).cells ({ frames := 1, cells := 0, slots := 0, locals := 12 } : Room).slots) := by
  refine MetFree.of_bodySF (plainFor_of_name pn_16976308) hisR ?_
  intro p e s m args below meth c s₁ Bd hml0 hP hK
  obtain ⟨rfl, hZ, hh⟩ := hP
  have C : Ctx p s m meth c Z "java/lang/Record" "<init>" jdk_30_method_1_code 1 none := Ctx.of Bd hml0 hZ
  have X0 : Stand p l e ({ frames := 1, cells := 0, slots := 0, locals := 12 } : Room) s m #[(.ref b0)] below meth c s₁ [] 0 0 := Stand.of_body Bd
  have e0 : s₁.heap = h0 := by rw [← hh, Bd.state]; rfl
  have N0 := Fr.nil n0
  refine Goes.enter (ef_2 m b0) ?_
  clear hK hml0 hh
  refine g_aloadN 1 rfl C X0 d2_0 rfl rfl ?_
  refine g_initO 4 rfl C X0 (hw _ (List.mem_of_getElem? (i := 12) rfl)) (hw _ (List.mem_of_getElem? (i := 13) rfl)) (hw _ (List.mem_of_getElem? (i := 14) rfl)) e0 d2_1 rfl (by decide) (W := 0) (Nat.le_of_eq rfl) (by decide) fun T1 X2 e3 => ?_
  exact g_retV C X2 rfl d2_4 e3 (by decide) (by decide) ⟨rfl, N0, rfl⟩
theorem d1_0 : decode prog_19_method_1_code 0 = .ok (.aload_n 0, 1) := by decide +kernel
theorem d1_1 : decode prog_19_method_1_code 1 = .ok (.invokespecial 1, 3) := by decide +kernel
theorem pd_16428534 : parseMethodDescriptor "()V" = some ⟨[], none⟩ := by decide +kernel
theorem d1_4 : decode prog_19_method_1_code 4 = .ok (.aload_n 0, 1) := by decide +kernel
theorem d1_5 : decode prog_19_method_1_code 5 = .ok (.iload_n 1, 1) := by decide +kernel
theorem d1_6 : decode prog_19_method_1_code 6 = .ok (.putfield 7, 3) := by decide +kernel
theorem d1_9 : decode prog_19_method_1_code 9 = .ok (.aload_n 0, 1) := by decide +kernel
theorem d1_10 : decode prog_19_method_1_code 10 = .ok (.iload_n 2, 1) := by decide +kernel
theorem d1_11 : decode prog_19_method_1_code 11 = .ok (.putfield 13, 3) := by decide +kernel
theorem d1_14 : decode prog_19_method_1_code 14 = .ok (.aload_n 0, 1) := by decide +kernel
theorem d1_15 : decode prog_19_method_1_code 15 = .ok (.lload_n 3, 1) := by decide +kernel
theorem d1_16 : decode prog_19_method_1_code 16 = .ok (.putfield 16, 3) := by decide +kernel
theorem d1_19 : decode prog_19_method_1_code 19 = .ok (.return_, 1) := by decide +kernel
theorem pn_56655965 : plainName "com/example/whitespace_stripper/whitespacestripper/ReadFailures$Place" = true := by first | (simp [plainName, overriddenIn]; done) | decide +kernel
theorem ef_1 (m : MethodId) (b0 : Addr) (p1 : Int32) (p2 : Int32) (p3 : Int64) : entryFrame m #[(.ref b0), (.int p1), (.int p2), (.long p3)] 5 = mkF m 0 #[.val (.ref b0), .val (.int p1), .val (.int p2), .val (.long p3), .second] [] := by first | (simp [entryFrame, mkF, argsToLocals, Value.category]; done) | rfl
def Q1 (Z : State) (b0 : Addr) (p1 : Int32) (p2 : Int32) (p3 : Int64) (h0 : Heap) (n0 : Nat) (v : Option Value) (h : Heap) (L : List Loc) : Prop := v = none ∧ Fr n0 L ∧ Keep h0 h [b0] ∧ Exa Z h b0 "com/example/whitespace_stripper/whitespacestripper/ReadFailures$Place" ∧ Fld Z h b0 "com/example/whitespace_stripper/whitespacestripper/ReadFailures$Place" "line" "I" (.int p1) ∧ Fld Z h b0 "com/example/whitespace_stripper/whitespacestripper/ReadFailures$Place" "column" "I" (.int p2) ∧ Fld Z h b0 "com/example/whitespace_stripper/whitespacestripper/ReadFailures$Place" "offset" "J" (.long p3)
set_option maxRecDepth 65536 in
set_option maxHeartbeats 40000000 in
theorem rm1 (l : Launch) (Z : State) (a0 : Array Value) (hw : ∀ d ∈ tables_1, d.before a0 Z = true) (ws : List Jvm.Cond) (b0 : Addr) (p1 : Int32) (p2 : Int32) (p3 : Int64) (h0 : Heap) (n0 : Nat) (Z0 : n0 ≤ h0.size) (E_b0 : Exa Z h0 b0 "com/example/whitespace_stripper/whitespacestripper/ReadFailures$Place") (F_b0_line : Fld Z h0 b0 "com/example/whitespace_stripper/whitespacestripper/ReadFailures$Place" "line" "I" (.int (0 : Int32))) (F_b0_column : Fld Z h0 b0 "com/example/whitespace_stripper/whitespacestripper/ReadFailures$Place" "column" "I" (.int (0 : Int32))) (F_b0_offset : Fld Z h0 b0 "com/example/whitespace_stripper/whitespacestripper/ReadFailures$Place" "offset" "J" (.long (0 : Int64))) (g_b0 : n0 ≤ b0) :
    MetFree l (⟨"com/example/whitespace_stripper/whitespacestripper/ReadFailures$Place", "<init>", "(IIJ)V"⟩ : MethodName) (head1 (Jvm.Cond.code (⟨"com/example/whitespace_stripper/whitespacestripper/ReadFailures$Place", "<init>", "(IIJ)V"⟩ : MethodName) prog_19_method_1_code 5 none :: ws) ({ frames := 2, cells := 0, slots := 0, locals := 24 } : Room)) (fun a U => a = #[(.ref b0), (.int p1), (.int p2), (.long p3)] ∧ Z.Warmed39 U.vm ∧ U.heap = h0) (fun _ _ _ _ _ => True) (fun _ U o U' => ∃ v L, o = .returned v ∧ Q1 Z b0 p1 p2 p3 h0 n0 v U'.heap L ∧ FrameEnd U o U' L ({ frames := 2, cells := 0, slots := 0, locals := 24 } : Room).cells ({ frames := 2, cells := 0, slots := 0, locals := 24 } : Room).slots) := by
  refine MetFree.of_bodySF (plainFor_of_name pn_56655965) hisR ?_
  intro p e s m args below meth c s₁ Bd hml0 hP hK
  obtain ⟨rfl, hZ, hh⟩ := hP
  have C : Ctx p s m meth c Z "com/example/whitespace_stripper/whitespacestripper/ReadFailures$Place" "<init>" prog_19_method_1_code 5 none := Ctx.of Bd hml0 hZ
  have X0 : Stand p l e ({ frames := 2, cells := 0, slots := 0, locals := 24 } : Room) s m #[(.ref b0), (.int p1), (.int p2), (.long p3)] below meth c s₁ [] 0 0 := Stand.of_body Bd
  have e0 : s₁.heap = h0 := by rw [← hh, Bd.state]; rfl
  have N0 := Fr.nil n0
  refine Goes.enter (ef_1 m b0 p1 p2 p3) ?_
  clear hK hml0 hh
  refine g_aloadN 1 rfl C X0 d1_0 rfl rfl ?_
  refine g_callN 4 rfl C X0 (argsL := []) rfl rfl (hw _ (List.mem_of_getElem? (i := 7) rfl)) (hw _ (List.mem_of_getElem? (i := 8) rfl)) (hw _ (List.mem_of_getElem? (i := 11) rfl)) (hw _ (List.mem_of_getElem? (i := 10) rfl)) e0 (rm2 l Z a0 hw [] b0 h0 n0 Z0) (lenOf pd_16428534 rfl) (by decide) (by decide) (by decide) (by decide) rfl (W := 0) (Nat.le_of_eq rfl) (by decide) d1_1 rfl fun r1 T2 Lc3 X4 hQ5 => ?_
  obtain ⟨rfl, Nq6, eh7⟩ := hQ5
  have N8 := Fr.app N0 Nq6
  show Goes _ _ _ _ _ _ 4 _ []
  refine g_aloadN 5 rfl C X4 d1_4 rfl rfl ?_
  refine g_iloadN 6 rfl C X4 d1_5 rfl ?_
  refine g_putF 9 rfl C X4 (host := "") (Or.inl (hw _ (List.mem_of_getElem? (i := 15) rfl))) Via.refl eh7 F_b0_line E_b0 (Or.inr ⟨(hw _ (List.mem_of_getElem? (i := 16) rfl)), rfl, rfl⟩) (hw _ (List.mem_of_getElem? (i := 2) rfl)) (ty := .int) (by decide) rfl rfl d1_6 N8 g_b0 fun T9 h10 ls11 X12 e13 W14 N15 => ?_
  have F16 : Fld Z h10 b0 "com/example/whitespace_stripper/whitespacestripper/ReadFailures$Place" "line" "I" (.int p1) := F_b0_line.same W14
  have F17 := E_b0.wr W14
  have F18 := F_b0_column.other W14 (Or.inr (slot_ne (Or.inr (hw _ (List.mem_of_getElem? (i := 18) rfl))) (Or.inr (hw _ (List.mem_of_getElem? (i := 16) rfl))) (by decide) (t := .int) (t' := .int) (by decide) (by decide)))
  have F19 := F_b0_offset.other W14 (Or.inr (slot_ne (Or.inr (hw _ (List.mem_of_getElem? (i := 20) rfl))) (Or.inr (hw _ (List.mem_of_getElem? (i := 16) rfl))) (by decide) (t := .long) (t' := .int) (by decide) (by decide)))
  have Zs20 := Nat.le_trans Z0 (Nat.le_of_eq W14.size.symm)
  have Kp21 : Keep h0 h10 [b0] := (Keep.refl h0 [b0]).wr W14 (Or.inl (List.mem_of_getElem? (i := 0) rfl))
  refine g_aloadN 10 rfl C X12 d1_9 rfl rfl ?_
  refine g_iloadN 11 rfl C X12 d1_10 rfl ?_
  refine g_putF 14 rfl C X12 (host := "") (Or.inl (hw _ (List.mem_of_getElem? (i := 17) rfl))) Via.refl e13 F18 F17 (Or.inr ⟨(hw _ (List.mem_of_getElem? (i := 18) rfl)), rfl, rfl⟩) (hw _ (List.mem_of_getElem? (i := 2) rfl)) (ty := .int) (by decide) rfl rfl d1_11 N15 g_b0 fun T22 h23 ls24 X25 e26 W27 N28 => ?_
  have F29 : Fld Z h23 b0 "com/example/whitespace_stripper/whitespacestripper/ReadFailures$Place" "column" "I" (.int p2) := F18.same W27
  have F30 := F17.wr W27
  have F31 := F16.other W27 (Or.inr (slot_ne (Or.inr (hw _ (List.mem_of_getElem? (i := 16) rfl))) (Or.inr (hw _ (List.mem_of_getElem? (i := 18) rfl))) (by decide) (t := .int) (t' := .int) (by decide) (by decide)))
  have F32 := F19.other W27 (Or.inr (slot_ne (Or.inr (hw _ (List.mem_of_getElem? (i := 20) rfl))) (Or.inr (hw _ (List.mem_of_getElem? (i := 18) rfl))) (by decide) (t := .long) (t' := .int) (by decide) (by decide)))
  have Zs33 := Nat.le_trans Zs20 (Nat.le_of_eq W27.size.symm)
  have Kp34 : Keep h0 h23 [b0] := Kp21.wr W27 (Or.inl (List.mem_of_getElem? (i := 0) rfl))
  refine g_aloadN 15 rfl C X25 d1_14 rfl rfl ?_
  refine g_lloadN 16 rfl C X25 d1_15 rfl ?_
  refine g_putF 19 rfl C X25 (host := "") (Or.inl (hw _ (List.mem_of_getElem? (i := 19) rfl))) Via.refl e26 F32 F30 (Or.inr ⟨(hw _ (List.mem_of_getElem? (i := 20) rfl)), rfl, rfl⟩) (hw _ (List.mem_of_getElem? (i := 2) rfl)) (ty := .long) (by decide) rfl rfl d1_16 N28 g_b0 fun T35 h36 ls37 X38 e39 W40 N41 => ?_
  have F42 : Fld Z h36 b0 "com/example/whitespace_stripper/whitespacestripper/ReadFailures$Place" "offset" "J" (.long p3) := F32.same W40
  have F43 := F30.wr W40
  have F44 := F31.other W40 (Or.inr (slot_ne (Or.inr (hw _ (List.mem_of_getElem? (i := 16) rfl))) (Or.inr (hw _ (List.mem_of_getElem? (i := 20) rfl))) (by decide) (t := .int) (t' := .long) (by decide) (by decide)))
  have F45 := F29.other W40 (Or.inr (slot_ne (Or.inr (hw _ (List.mem_of_getElem? (i := 18) rfl))) (Or.inr (hw _ (List.mem_of_getElem? (i := 20) rfl))) (by decide) (t := .int) (t' := .long) (by decide) (by decide)))
  have Zs46 := Nat.le_trans Zs33 (Nat.le_of_eq W40.size.symm)
  have Kp47 : Keep h0 h36 [b0] := Kp34.wr W40 (Or.inl (List.mem_of_getElem? (i := 0) rfl))
  exact g_retV C X38 rfl d1_19 e39 (by decide) (by decide) ⟨rfl, N41, Kp47, F43, F44, F45, F42⟩
theorem d4_0 : decode prog_19_method_4_code 0 = .ok (.aload_n 0, 1) := by decide +kernel
theorem d4_1 : decode prog_19_method_4_code 1 = .ok (.getfield 16, 3) := by decide +kernel
theorem d4_4 : decode prog_19_method_4_code 4 = .ok (.ldc2_w 22, 3) := by decide +kernel
theorem d4_7 : decode prog_19_method_4_code 7 = .ok (.lcmp, 1) := by decide +kernel
theorem d4_8 : decode prog_19_method_4_code 8 = .ok (.ifCond .le 7, 3) := by decide +kernel
theorem d4_11 : decode prog_19_method_4_code 11 = .ok (.iconst (-1), 1) := by decide +kernel
theorem d4_12 : decode prog_19_method_4_code 12 = .ok (.goto 8, 3) := by decide +kernel
theorem d4_20 : decode prog_19_method_4_code 20 = .ok (.ireturn, 1) := by decide +kernel
theorem d4_15 : decode prog_19_method_4_code 15 = .ok (.aload_n 0, 1) := by decide +kernel
theorem d4_16 : decode prog_19_method_4_code 16 = .ok (.getfield 16, 3) := by decide +kernel
theorem d4_19 : decode prog_19_method_4_code 19 = .ok (.l2i, 1) := by decide +kernel
theorem ef_4 (m : MethodId) (b0 : Addr) : entryFrame m #[(.ref b0)] 1 = mkF m 0 #[.val (.ref b0)] [] := by first | (simp [entryFrame, mkF, argsToLocals, Value.category]; done) | rfl
def Q4 (Z : State) (b0 : Addr) (w1 : Int64) (h0 : Heap) (n0 : Nat) (v : Option Value) (h : Heap) (L : List Loc) : Prop := ∃ r : Int32, v = some (.int r) ∧ ((r.toInt = -1 ∧ 2147483647 < w1.toInt) ∨ (r.toInt = w1.toInt ∧ w1.toInt ≤ 2147483647)) ∧ Fr n0 L ∧ h = h0
set_option maxRecDepth 65536 in
set_option maxHeartbeats 40000000 in
theorem rm4 (l : Launch) (Z : State) (a0 : Array Value) (hw : ∀ d ∈ tables_1, d.before a0 Z = true) (ws : List Jvm.Cond) (b0 : Addr) (w1 : Int64) (h0 : Heap) (n0 : Nat) (Z0 : n0 ≤ h0.size) (F_b0_offset : Fld Z h0 b0 "com/example/whitespace_stripper/whitespacestripper/ReadFailures$Place" "offset" "J" (.long w1)) (q1 : 0 ≤ w1.toInt) :
    MetFree l (⟨"com/example/whitespace_stripper/whitespacestripper/ReadFailures$Place", "getCharacterOffset", "()I"⟩ : MethodName) (head1 (Jvm.Cond.code (⟨"com/example/whitespace_stripper/whitespacestripper/ReadFailures$Place", "getCharacterOffset", "()I"⟩ : MethodName) prog_19_method_4_code 1 (some .int) :: ws) ({ frames := 0, cells := 0, slots := 0, locals := 0 } : Room)) (fun a U => a = #[(.ref b0)] ∧ Z.Warmed39 U.vm ∧ U.heap = h0) (fun _ _ _ _ _ => True) (fun _ U o U' => ∃ v L, o = .returned v ∧ Q4 Z b0 w1 h0 n0 v U'.heap L ∧ FrameEnd U o U' L ({ frames := 0, cells := 0, slots := 0, locals := 0 } : Room).cells ({ frames := 0, cells := 0, slots := 0, locals := 0 } : Room).slots) := by
  refine MetFree.of_bodySF (plainFor_of_name pn_56655965) hisR ?_
  intro p e s m args below meth c s₁ Bd hml0 hP hK
  obtain ⟨rfl, hZ, hh⟩ := hP
  have C : Ctx p s m meth c Z "com/example/whitespace_stripper/whitespacestripper/ReadFailures$Place" "getCharacterOffset" prog_19_method_4_code 1 (some .int) := Ctx.of Bd hml0 hZ
  have X0 : Stand p l e ({ frames := 0, cells := 0, slots := 0, locals := 0 } : Room) s m #[(.ref b0)] below meth c s₁ [] 0 0 := Stand.of_body Bd
  have e0 : s₁.heap = h0 := by rw [← hh, Bd.state]; rfl
  have N0 := Fr.nil n0
  refine Goes.enter (ef_4 m b0) ?_
  clear hK hml0 hh
  refine g_aloadN 1 rfl C X0 d4_0 rfl rfl ?_
  refine g_getF 4 rfl C X0 (host := "") (Or.inl (hw _ (List.mem_of_getElem? (i := 19) rfl))) Via.refl e0 F_b0_offset d4_1 fun T1 X2 e3 => ?_
  refine g_ldc2 7 rfl C X2 (hw _ (List.mem_of_getElem? (i := 26) rfl)) d4_4 ?_
  refine g_lcmp 8 rfl C X2 d4_7 ?_
  by_cases hb4 : (2147483647 : Int64).toInt < w1.toInt
  · skip
    refine g_il_le_f 11 rfl C X2 d4_8 hb4 ?_
    refine g_iconst 12 rfl C X2 (-1 : Int32) d4_11 rfl ?_
    refine g_goto 20 C X2 d4_12 (by decide) (by decide) ?_
    have fr5 := rng64 w1
    have fc6 : (2147483647 : Int64).toInt = 2147483647 := rfl
    have fc7 : (-1 : Int32).toInt = -1 := rfl
    exact g_retI C X2 rfl d4_20 e3 (by decide) (by decide) ⟨_, rfl, by omega, N0, rfl⟩
  · skip
    refine g_il_le_t 15 C X2 d4_8 (by decide) (by decide) hb4 ?_
    refine g_aloadN 16 rfl C X2 d4_15 rfl rfl ?_
    refine g_getF 19 rfl C X2 (host := "") (Or.inl (hw _ (List.mem_of_getElem? (i := 19) rfl))) Via.refl e3 F_b0_offset d4_16 fun T8 X9 e10 => ?_
    refine g_l2i 20 rfl C X9 d4_19 ?_
    have fr11 := rng64 w1
    have fc12 : (2147483647 : Int64).toInt = 2147483647 := rfl
    have fo13 := c_l2i w1
    have fr14 := rng32 ((w1).toInt32)
    exact g_retI C X9 rfl d4_20 e10 (by decide) (by decide) ⟨_, rfl, by omega, N0, rfl⟩
theorem pd_35476254 : parseMethodDescriptor "(IIJ)V" = some ⟨[.int, .int, .long], none⟩ := by decide +kernel
theorem pd_16428521 : parseMethodDescriptor "()I" = some ⟨[], some .int⟩ := by decide +kernel
theorem pn_34990899 : plainName "com/example/whitespace_stripper/whitespacestripper/PlaceGetCharacterOffsetPinLaw" = true := by first | (simp [plainName, overriddenIn]; done) | decide +kernel
theorem ef_0 (m : MethodId) (p0 : Int32) (p1 : Int32) (p2 : Int64) (p3 : Int32) : entryFrame m #[(.int p0), (.int p1), (.long p2), (.int p3)] maxLocals = mkF m 0 #[.val (.int p0), .val (.int p1), .val (.long p2), .second, .val (.int p3), .unset, .unset, .unset, .unset] [] := by first | (simp [entryFrame, mkF, argsToLocals, Value.category, maxLocals]; done) | rfl
def Q0 (Z : State) (p0 : Int32) (p1 : Int32) (p2 : Int64) (p3 : Int32) (h0 : Heap) (n0 : Nat) (v : Option Value) (h : Heap) (L : List Loc) : Prop := v = some (.int 1) ∧ Fr n0 L
set_option maxRecDepth 65536 in
set_option maxHeartbeats 40000000 in
theorem rm0 (l : Launch) (Z : State) (a0 : Array Value) (hw : ∀ d ∈ tables_1, d.before a0 Z = true) (ws : List Jvm.Cond) (p0 : Int32) (p1 : Int32) (p2 : Int64) (p3 : Int32) (h0 : Heap) (n0 : Nat) (Z0 : n0 ≤ h0.size) :
    MetFree l x (head1 (Jvm.Cond.code x code maxLocals ret :: ws) room_1) (fun a U => a = #[(.int p0), (.int p1), (.long p2), (.int p3)] ∧ Z.Warmed39 U.vm ∧ U.heap = h0) (fun _ _ _ _ _ => True) (fun _ U o U' => ∃ v L, o = .returned v ∧ Q0 Z p0 p1 p2 p3 h0 n0 v U'.heap L ∧ FrameEnd U o U' L 16 128) := by
  refine MetFree.of_bodySF (plainFor_of_name pn_34990899) hisR ?_
  intro p e s m args below meth c s₁ Bd hml0 hP hK
  obtain ⟨rfl, hZ, hh⟩ := hP
  have C : Ctx p s m meth c Z "com/example/whitespace_stripper/whitespacestripper/PlaceGetCharacterOffsetPinLaw" "law" code maxLocals ret := Ctx.of Bd hml0 hZ
  have X0 : Stand p l e room_1 s m #[(.int p0), (.int p1), (.long p2), (.int p3)] below meth c s₁ [] 0 0 := Stand.of_body Bd
  have e0 : s₁.heap = h0 := by rw [← hh, Bd.state]; rfl
  have N0 := Fr.nil n0
  refine Goes.enter (ef_0 m p0 p1 p2 p3) ?_
  clear hK hml0 hh
  refine g_iload 2 rfl C X0 at_0 rfl ?_
  refine g_iconst 3 rfl C X0 (1 : Int32) at_2 rfl ?_
  refine g_iand 4 rfl C X0 at_3 ?_
  by_cases hb1 : (p3 &&& (1 : Int32)).toInt = 0
  · skip
    refine g_if_eq_t 15 C X0 at_4 (by decide) (by decide) hb1 ?_
    refine g_lloadN 16 rfl C X0 at_15 rfl ?_
    refine g_ldc2 19 rfl C X0 (hw _ (List.mem_of_getElem? (i := 0) rfl)) at_16 ?_
    refine g_land 20 rfl C X0 at_19 ?_
    obtain ⟨v2, hv2⟩ : ∃ z : Int64, (p2 &&& (9223372036854775807 : Int64)) = z := ⟨_, rfl⟩
    refine g_lstore 22 rfl C X0 v2 hv2 #[.val (.int p0), .val (.int p1), .val (.long p2), .second, .val (.int p3), .val (.long v2), .second, .unset, .unset] at_20 rfl ?_
    refine g_new 25 rfl C X0 (hw _ (List.mem_of_getElem? (i := 1) rfl)) (hw _ (List.mem_of_getElem? (i := 2) rfl)) (hw _ (List.mem_of_getElem? (i := 3) rfl)) e0 at_22 (by decide) (by decide) fun T3 h4 o5 g6 X7 e8 E9 A10 D11 => ?_
    have gn12 : n0 ≤ o5 := by rw [g6]; exact Z0
    have Zs13 := Nat.le_trans Z0 E9.1
    have F14 : Fld Z h4 o5 "com/example/whitespace_stripper/whitespacestripper/ReadFailures$Place" "line" "I" (.int (0 : Int32)) := D11 (Or.inr (hw _ (List.mem_of_getElem? (i := 16) rfl))) (ty := .int) (by decide)
    have F15 : Fld Z h4 o5 "com/example/whitespace_stripper/whitespacestripper/ReadFailures$Place" "column" "I" (.int (0 : Int32)) := D11 (Or.inr (hw _ (List.mem_of_getElem? (i := 18) rfl))) (ty := .int) (by decide)
    have F16 : Fld Z h4 o5 "com/example/whitespace_stripper/whitespacestripper/ReadFailures$Place" "offset" "J" (.long (0 : Int64)) := D11 (Or.inr (hw _ (List.mem_of_getElem? (i := 20) rfl))) (ty := .long) (by decide)
    refine g_dup 26 rfl C X7 at_25 rfl ?_
    refine g_iloadN 27 rfl C X7 at_26 rfl ?_
    refine g_iloadN 28 rfl C X7 at_27 rfl ?_
    refine g_lload 30 rfl C X7 at_28 rfl ?_
    refine g_callN 33 rfl C X7 (argsL := [(.int p0), (.int p1), (.long v2)]) rfl rfl (hw _ (List.mem_of_getElem? (i := 4) rfl)) (hw _ (List.mem_of_getElem? (i := 5) rfl)) (hw _ (List.mem_of_getElem? (i := 6) rfl)) (hw _ (List.mem_of_getElem? (i := 3) rfl)) e8 (rm1 l Z a0 hw [] o5 p0 p1 v2 h4 n0 Zs13 A10 F14 F15 F16 gn12) (lenOf pd_35476254 rfl) (by decide) (by decide) (by decide) (by decide) rfl (W := 1) (Nat.le_of_eq rfl) (by decide) at_30 rfl fun r17 T18 Lc19 X20 hQ21 => ?_
    obtain ⟨rfl, Nq22, Kc23, F24, F25, F26, F27⟩ := hQ21
    have F28 := A10.keep Kc23
    have Zs29 := Nat.le_trans Zs13 Kc23.1
    have N30 := Fr.app N0 Nq22
    show Goes _ _ _ _ _ _ 33 _ [(.ref o5)]
    refine g_astore 35 rfl C X20 #[.val (.int p0), .val (.int p1), .val (.long p2), .second, .val (.int p3), .val (.long v2), .second, .val (.ref o5), .unset] at_33 rfl rfl ?_
    refine g_aload 37 rfl C X20 at_35 rfl rfl ?_
    have fr31 := rng64 v2
    have fr32 := rng64 p2
    have fc33 : (9223372036854775807 : Int64).toInt = 9223372036854775807 := rfl
    have fo34 : (p2 &&& (9223372036854775807 : Int64)).toInt = p2.toInt % 9223372036854775808 := c_maskL p2 (9223372036854775807 : Int64) 63 (by decide) (by decide)
    have fe35 : (p2 &&& (9223372036854775807 : Int64)).toInt = v2.toInt := congrArg Int64.toInt hv2
    refine g_callV 40 rfl C X20 (argsL := []) (hw _ (List.mem_of_getElem? (i := 21) rfl)) (hw _ (List.mem_of_getElem? (i := 22) rfl)) (hw _ (List.mem_of_getElem? (i := 24) rfl)) (hw _ (List.mem_of_getElem? (i := 23) rfl)) (hw _ (List.mem_of_getElem? (i := 25) rfl)) (hw _ (List.mem_of_getElem? (i := 3) rfl)) rfl F24 (rm4 l Z a0 hw [] o5 v2 (T18.heap) n0 Zs29 F27 (by omega)) (lenOf pd_16428521 rfl) (by decide) (by decide) (by decide) (by decide) rfl (W := 0) (Nat.le_of_eq rfl) (by decide) at_37 rfl fun r36 T37 Lc38 X39 hQ40 => ?_
    obtain ⟨r41, rfl, hs42, Nq43, eh44⟩ := hQ40
    have N45 := Fr.app N30 Nq43
    show Goes _ _ _ _ _ _ 40 _ [(.int r41)]
    refine g_istore 42 rfl C X39 r41 rfl #[.val (.int p0), .val (.int p1), .val (.long p2), .second, .val (.int p3), .val (.long v2), .second, .val (.ref o5), .val (.int r41)] at_40 rfl ?_
    refine g_lload 44 rfl C X39 at_42 rfl ?_
    refine g_ldc2 47 rfl C X39 (hw _ (List.mem_of_getElem? (i := 27) rfl)) at_44 ?_
    refine g_lcmp 48 rfl C X39 at_47 ?_
    by_cases hb46 : (2147483647 : Int64).toInt < v2.toInt
    · skip
      refine g_il_gt_t 66 C X39 at_48 (by decide) (by decide) hb46 ?_
      refine g_iload 68 rfl C X39 at_66 rfl ?_
      refine g_iconst 69 rfl C X39 (-1 : Int32) at_68 rfl ?_
      by_cases hb47 : r41.toInt = (-1 : Int32).toInt
      · skip
        refine g_icmp_ne_f 72 rfl C X39 at_69 hb47 ?_
        refine g_iconst 73 rfl C X39 (1 : Int32) at_72 rfl ?_
        refine g_goto 77 C X39 at_73 (by decide) (by decide) ?_
        exact g_retN C X39 (z' := (1 : Int32)) rfl (Or.inl rfl) at_77 eh44 (by decide) (by decide) rfl ⟨rfl, N45⟩
      · skip
        refine g_icmp_ne_t 76 C X39 at_69 (by decide) (by decide) hb47 ?_
        refine g_iconst 77 rfl C X39 (0 : Int32) at_76 rfl ?_
        exfalso
        have fr48 := rng32 p3
        have fc49 : (1 : Int32).toInt = 1 := rfl
        have fo50 : (p3 &&& (1 : Int32)).toInt = p3.toInt % 2 := c_mask p3 (1 : Int32) 1 (by decide) (by decide)
        have fr51 := rng32 r41
        have fc52 : (2147483647 : Int64).toInt = 2147483647 := rfl
        have fc53 : (-1 : Int32).toInt = -1 := rfl
        omega
    · skip
      refine g_il_gt_f 51 rfl C X39 at_48 hb46 ?_
      refine g_iload 53 rfl C X39 at_51 rfl ?_
      refine g_i2l 54 rfl C X39 at_53 ?_
      refine g_lload 56 rfl C X39 at_54 rfl ?_
      refine g_lcmp 57 rfl C X39 at_56 ?_
      by_cases hb54 : ((r41).toInt64).toInt = v2.toInt
      · skip
        refine g_il_ne_f 60 rfl C X39 at_57 hb54 ?_
        refine g_iconst 61 rfl C X39 (1 : Int32) at_60 rfl ?_
        refine g_goto 65 C X39 at_61 (by decide) (by decide) ?_
        exact g_retN C X39 (z' := (1 : Int32)) rfl (Or.inl rfl) at_65 eh44 (by decide) (by decide) rfl ⟨rfl, N45⟩
      · skip
        refine g_il_ne_t 64 C X39 at_57 (by decide) (by decide) hb54 ?_
        refine g_iconst 65 rfl C X39 (0 : Int32) at_64 rfl ?_
        exfalso
        have fr55 := rng32 p3
        have fc56 : (1 : Int32).toInt = 1 := rfl
        have fo57 : (p3 &&& (1 : Int32)).toInt = p3.toInt % 2 := c_mask p3 (1 : Int32) 1 (by decide) (by decide)
        have fr58 := rng32 r41
        have fc59 : (2147483647 : Int64).toInt = 2147483647 := rfl
        have fo60 := c_i2l r41
        omega
  · skip
    refine g_if_eq_f 7 rfl C X0 at_4 hb1 ?_
    refine g_lloadN 8 rfl C X0 at_7 rfl ?_
    refine g_ldc2 11 rfl C X0 (hw _ (List.mem_of_getElem? (i := 28) rfl)) at_8 ?_
    refine g_land 12 rfl C X0 at_11 ?_
    refine g_goto 20 C X0 at_12 (by decide) (by decide) ?_
    obtain ⟨v61, hv61⟩ : ∃ z : Int64, (p2 &&& (4294967295 : Int64)) = z := ⟨_, rfl⟩
    refine g_lstore 22 rfl C X0 v61 hv61 #[.val (.int p0), .val (.int p1), .val (.long p2), .second, .val (.int p3), .val (.long v61), .second, .unset, .unset] at_20 rfl ?_
    refine g_new 25 rfl C X0 (hw _ (List.mem_of_getElem? (i := 1) rfl)) (hw _ (List.mem_of_getElem? (i := 2) rfl)) (hw _ (List.mem_of_getElem? (i := 3) rfl)) e0 at_22 (by decide) (by decide) fun T62 h63 o64 g65 X66 e67 E68 A69 D70 => ?_
    have gn71 : n0 ≤ o64 := by rw [g65]; exact Z0
    have Zs72 := Nat.le_trans Z0 E68.1
    have F73 : Fld Z h63 o64 "com/example/whitespace_stripper/whitespacestripper/ReadFailures$Place" "line" "I" (.int (0 : Int32)) := D70 (Or.inr (hw _ (List.mem_of_getElem? (i := 16) rfl))) (ty := .int) (by decide)
    have F74 : Fld Z h63 o64 "com/example/whitespace_stripper/whitespacestripper/ReadFailures$Place" "column" "I" (.int (0 : Int32)) := D70 (Or.inr (hw _ (List.mem_of_getElem? (i := 18) rfl))) (ty := .int) (by decide)
    have F75 : Fld Z h63 o64 "com/example/whitespace_stripper/whitespacestripper/ReadFailures$Place" "offset" "J" (.long (0 : Int64)) := D70 (Or.inr (hw _ (List.mem_of_getElem? (i := 20) rfl))) (ty := .long) (by decide)
    refine g_dup 26 rfl C X66 at_25 rfl ?_
    refine g_iloadN 27 rfl C X66 at_26 rfl ?_
    refine g_iloadN 28 rfl C X66 at_27 rfl ?_
    refine g_lload 30 rfl C X66 at_28 rfl ?_
    refine g_callN 33 rfl C X66 (argsL := [(.int p0), (.int p1), (.long v61)]) rfl rfl (hw _ (List.mem_of_getElem? (i := 4) rfl)) (hw _ (List.mem_of_getElem? (i := 5) rfl)) (hw _ (List.mem_of_getElem? (i := 6) rfl)) (hw _ (List.mem_of_getElem? (i := 3) rfl)) e67 (rm1 l Z a0 hw [] o64 p0 p1 v61 h63 n0 Zs72 A69 F73 F74 F75 gn71) (lenOf pd_35476254 rfl) (by decide) (by decide) (by decide) (by decide) rfl (W := 1) (Nat.le_of_eq rfl) (by decide) at_30 rfl fun r76 T77 Lc78 X79 hQ80 => ?_
    obtain ⟨rfl, Nq81, Kc82, F83, F84, F85, F86⟩ := hQ80
    have F87 := A69.keep Kc82
    have Zs88 := Nat.le_trans Zs72 Kc82.1
    have N89 := Fr.app N0 Nq81
    show Goes _ _ _ _ _ _ 33 _ [(.ref o64)]
    refine g_astore 35 rfl C X79 #[.val (.int p0), .val (.int p1), .val (.long p2), .second, .val (.int p3), .val (.long v61), .second, .val (.ref o64), .unset] at_33 rfl rfl ?_
    refine g_aload 37 rfl C X79 at_35 rfl rfl ?_
    have fr90 := rng64 v61
    have fr91 := rng64 p2
    have fc92 : (4294967295 : Int64).toInt = 4294967295 := rfl
    have fo93 : (p2 &&& (4294967295 : Int64)).toInt = p2.toInt % 4294967296 := c_maskL p2 (4294967295 : Int64) 32 (by decide) (by decide)
    have fe94 : (p2 &&& (4294967295 : Int64)).toInt = v61.toInt := congrArg Int64.toInt hv61
    refine g_callV 40 rfl C X79 (argsL := []) (hw _ (List.mem_of_getElem? (i := 21) rfl)) (hw _ (List.mem_of_getElem? (i := 22) rfl)) (hw _ (List.mem_of_getElem? (i := 24) rfl)) (hw _ (List.mem_of_getElem? (i := 23) rfl)) (hw _ (List.mem_of_getElem? (i := 25) rfl)) (hw _ (List.mem_of_getElem? (i := 3) rfl)) rfl F83 (rm4 l Z a0 hw [] o64 v61 (T77.heap) n0 Zs88 F86 (by omega)) (lenOf pd_16428521 rfl) (by decide) (by decide) (by decide) (by decide) rfl (W := 0) (Nat.le_of_eq rfl) (by decide) at_37 rfl fun r95 T96 Lc97 X98 hQ99 => ?_
    obtain ⟨r100, rfl, hs101, Nq102, eh103⟩ := hQ99
    have N104 := Fr.app N89 Nq102
    show Goes _ _ _ _ _ _ 40 _ [(.int r100)]
    refine g_istore 42 rfl C X98 r100 rfl #[.val (.int p0), .val (.int p1), .val (.long p2), .second, .val (.int p3), .val (.long v61), .second, .val (.ref o64), .val (.int r100)] at_40 rfl ?_
    refine g_lload 44 rfl C X98 at_42 rfl ?_
    refine g_ldc2 47 rfl C X98 (hw _ (List.mem_of_getElem? (i := 27) rfl)) at_44 ?_
    refine g_lcmp 48 rfl C X98 at_47 ?_
    by_cases hb105 : (2147483647 : Int64).toInt < v61.toInt
    · skip
      refine g_il_gt_t 66 C X98 at_48 (by decide) (by decide) hb105 ?_
      refine g_iload 68 rfl C X98 at_66 rfl ?_
      refine g_iconst 69 rfl C X98 (-1 : Int32) at_68 rfl ?_
      by_cases hb106 : r100.toInt = (-1 : Int32).toInt
      · skip
        refine g_icmp_ne_f 72 rfl C X98 at_69 hb106 ?_
        refine g_iconst 73 rfl C X98 (1 : Int32) at_72 rfl ?_
        refine g_goto 77 C X98 at_73 (by decide) (by decide) ?_
        exact g_retN C X98 (z' := (1 : Int32)) rfl (Or.inl rfl) at_77 eh103 (by decide) (by decide) rfl ⟨rfl, N104⟩
      · skip
        refine g_icmp_ne_t 76 C X98 at_69 (by decide) (by decide) hb106 ?_
        refine g_iconst 77 rfl C X98 (0 : Int32) at_76 rfl ?_
        exfalso
        have fr107 := rng32 p3
        have fc108 : (1 : Int32).toInt = 1 := rfl
        have fo109 : (p3 &&& (1 : Int32)).toInt = p3.toInt % 2 := c_mask p3 (1 : Int32) 1 (by decide) (by decide)
        have fr110 := rng32 r100
        have fc111 : (2147483647 : Int64).toInt = 2147483647 := rfl
        have fc112 : (-1 : Int32).toInt = -1 := rfl
        omega
    · skip
      refine g_il_gt_f 51 rfl C X98 at_48 hb105 ?_
      refine g_iload 53 rfl C X98 at_51 rfl ?_
      refine g_i2l 54 rfl C X98 at_53 ?_
      refine g_lload 56 rfl C X98 at_54 rfl ?_
      refine g_lcmp 57 rfl C X98 at_56 ?_
      by_cases hb113 : ((r100).toInt64).toInt = v61.toInt
      · skip
        refine g_il_ne_f 60 rfl C X98 at_57 hb113 ?_
        refine g_iconst 61 rfl C X98 (1 : Int32) at_60 rfl ?_
        refine g_goto 65 C X98 at_61 (by decide) (by decide) ?_
        exact g_retN C X98 (z' := (1 : Int32)) rfl (Or.inl rfl) at_65 eh103 (by decide) (by decide) rfl ⟨rfl, N104⟩
      · skip
        refine g_il_ne_t 64 C X98 at_57 (by decide) (by decide) hb113 ?_
        refine g_iconst 65 rfl C X98 (0 : Int32) at_64 rfl ?_
        exfalso
        have fr114 := rng32 p3
        have fc115 : (1 : Int32).toInt = 1 := rfl
        have fo116 : (p3 &&& (1 : Int32)).toInt = p3.toInt % 2 := c_mask p3 (1 : Int32) 1 (by decide) (by decide)
        have fr117 := rng32 r100
        have fc118 : (2147483647 : Int64).toInt = 2147483647 := rfl
        have fo119 := c_i2l r100
        omega
set_option maxRecDepth 65536 in
set_option maxHeartbeats 40000000 in
theorem comes_1 {Post : Tables → Env → Array Value → State → Outcome → State → Prop} (hpost : ∀ tb e args s v u, (limb_1_1.after args s (.returned v) u = true ∧ limb_1_2.after args s (.returned v) u = true ∧ True) → FrameEnd s (.returned v) u (Jvm.fieldLocs frame_1_writes args s ++ Jvm.arrayLocs frame_1_arrays args s ++ Jvm.staticLocs frame_1_statics s) 16 128 → Post tb e args s (.returned v) u) :
    ArmFor flags0 classFile x code maxLocals ret World_1 tables_1 room_1 Calls_1 rest_1 Pre_1 Post := by
  intro l hfl _ _ p e ha hc hk s m args below hf hA hF happ hP
  obtain ⟨hcalls, hrest, hpre⟩ := hP
  obtain ⟨-, -, -, hnamed, -, -, -, hat⟩ := (Spec.applies_iff hf).mp happ
  obtain ⟨hg, hn⟩ := and_e (Cond.before_iff.mp (show (Jvm.Cond.and given_1 narrow_1).before args s = true from hpre))
  obtain ⟨g1, g2⟩ := and_e hg
  obtain ⟨g3, g4⟩ := and_e g2
  obtain ⟨g5, g6⟩ := and_e g4
  obtain ⟨g7, g8⟩ := and_e g6
  obtain ⟨w0, w1, w2, w3, rfl⟩ : ∃ w0 w1 w2 w3 : Value, args = #[w0, w1, w2, w3] := by
    have hs : args.size = 4 := by simpa [Cond.value, given_1] using g1
    obtain ⟨L⟩ := args
    match L, hs with
    | [w0, w1, w2, w3], _ => exact ⟨w0, w1, w2, w3, rfl⟩
  have hw := fun d (hd : d ∈ tables_1) => atoms_spec (ws := Jvm.Cond.code x code maxLocals ret :: tables_1) hat d (List.mem_cons_of_mem _ hd)
  obtain ⟨i0, ei0⟩ := is_v g3
  obtain rfl : w0 = (.int i0) := Option.some.inj ei0
  obtain ⟨i1, ei1⟩ := is_v g5
  obtain rfl : w1 = (.int i1) := Option.some.inj ei1
  obtain ⟨i2, ei2⟩ := isL_v g7
  obtain rfl : w2 = (.long i2) := Option.some.inj ei2
  obtain ⟨i3, ei3⟩ := is_v g8
  obtain rfl : w3 = (.int i3) := Option.some.inj ei3
  obtain ⟨n, o, h1, h2, h3, _, L, rfl, ⟨rfl, N⟩, hq⟩ := rm0 l s _ hw tables_1 i0 i1 i2 i3 s.heap s.heap.size (Nat.le_refl _) p e ha hc hk s m _ below hf ((Spec.applies_iff_loose hf).mp happ).1 ⟨rfl, State.Warmed39.refl s, rfl⟩ trivial
  refine ⟨n, _, h1, h2, h3, hpost _ _ _ _ _ _ ⟨Cond.after_iff.mpr rfl, Cond.after_iff.mpr (eq_i res_at (Term.int_eval (1)) rfl), trivial⟩ ⟨hq.1, hq.2.1, (hq.2.2.sift fun y hy => Or.inr (N y hy)).mono (by decide) (by decide)⟩⟩
theorem main_1_1 : Claimed_1_1 := comes_1 fun _ _ _ _ _ _ h hF => ⟨h.1, hF⟩
theorem main_1_2 : Claimed_1_2 := comes_1 fun _ _ _ _ _ _ h hF => ⟨h.2.1, hF⟩
end Jvm.Pilot.@@N@@
namespace Jvm.Pilot.@@N@@
open Jvm Jvm.ClassFile Sem Op Lib Jvm.Free Jvm.Stand Jvm.Pilot.@@N@@.Jvm.D
/-! MADE BY PROGRAM (witnessworld.py) out of the Statement's table words and the real class files: 11 classes; the members and pool entries that the words name. The judged class is class 1, her method 1. -/
namespace start1
open Jvm.ClassFile
def u (s : String) : CpInfo := .utf8 (stringToUtf16 s)
/-- a pool by its gaps: so many unusable entries, then the entry; so many at the end -/
def gap : Nat → List CpInfo → List CpInfo
  | 0, r => r
  | n + 1, r => .unusable :: gap n r
def poolList (es : List (Nat × CpInfo)) (last : Nat) : List CpInfo := es.foldr (fun e r => gap e.1 (e.2 :: r)) (gap last [])
def pool (es : List (Nat × CpInfo)) (last : Nat) : Array CpInfo := ⟨poolList es last⟩
def fileOf (pool : Array CpInfo) (this : Nat) (attrs : Array Attribute := #[]) (ms : Array MethodInfo := #[]) (fl : Nat := 33) (sup : Nat := 0) (ifs : Array Nat := #[]) (fds : Array FieldInfo := #[]) : ClassFile where
  minorVersion := 0
  majorVersion := 65
  constantPool := pool
  accessFlags := fl
  thisClass := this
  superClass := sup
  interfaces := ifs
  fields := fds
  methods := ms
  attributes := attrs
def plain (name : String) (sup : Option ClassId) : Class where
  name := name
  kind := .ordinary
  loader := none
  accessFlags := 33
  super := sup
  interfaces := #[]
  cf := none
  fields := #[]
  methods := #[]
  instanceTypes := #[]
  staticTypes := #[]
  resolved := #[]
  callSites := []
  init := .initialized
  statics := none
  mirror := none

def pool0 : Array CpInfo := pool [(5, u "<init>"), (0, u "()V"), (1, .class_ 10), (1, u "java/lang/Object")] 113

def k0c0 : Code := { maxStack := 0, maxLocals := 1, code := object_method_1_code, exceptionTable := #[], attributes := #[] }
def k0m0 : Method := { name := "<init>", desc := "()V", sig := { parameters := [], returnType := none }, accessFlags := 1, code := some k0c0 }
/-- java/lang/Object -/
def k0 : Class := { plain "java/lang/Object" none with
  accessFlags := 33
  interfaces := #[]
  cf := some (fileOf pool0 8 #[] #[{ accessFlags := 1, nameIndex := 5, descriptorIndex := 6, attributes := #[] }] 33 0 #[] #[])
  fields := #[]
  methods := #[k0m0]
  instanceTypes := #[]
  staticTypes := #[]
  resolved := Array.replicate 124 none
  statics := none }

def pool1 : Array CpInfo := pool [(2, .class_ 4), (1, u "java/lang/Object"), (0, u "<init>"), (0, u "()V"), (0, .long 4294967295), (3, .long 9223372036854775807), (1, .class_ 14), (0, u "com/example/whitespace_stripper/whitespacestripper/ReadFailures$Place"), (0, .methodref 13 16), (0, .nameAndType 5 17), (0, u "(IIJ)V"), (0, .methodref 13 19), (0, .nameAndType 20 21), (0, u "getCharacterOffset"), (0, u "()I"), (0, .long 2147483647), (1, .class_ 25), (0, u "com/example/whitespace_stripper/whitespacestripper/PlaceGetCharacterOffsetPinLaw"), (2, u "law"), (0, u "(IIJI)Z")] 7

def k1m0 : Method := { name := "<init>", desc := "()V", sig := { parameters := [], returnType := none }, accessFlags := 2, code := none }
def k1c1 : Code := { maxStack := 6, maxLocals := 9, code := code, exceptionTable := #[], attributes := #[] }
def k1m1 : Method := { name := "law", desc := "(IIJI)Z", sig := { parameters := [.int, .int, .long, .int], returnType := some .boolean }, accessFlags := 9, code := some k1c1 }
/-- com/example/whitespace_stripper/whitespacestripper/PlaceGetCharacterOffsetPinLaw -/
def k1 : Class := { plain "com/example/whitespace_stripper/whitespacestripper/PlaceGetCharacterOffsetPinLaw" (some 0) with
  accessFlags := 49
  interfaces := #[]
  cf := some (fileOf pool1 24 #[] #[{ accessFlags := 2, nameIndex := 5, descriptorIndex := 6, attributes := #[] }, { accessFlags := 9, nameIndex := 28, descriptorIndex := 29, attributes := #[] }] 49 2 #[] #[])
  fields := #[]
  methods := #[k1m0, k1m1]
  instanceTypes := #[]
  staticTypes := #[]
  resolved := Array.replicate 37 none
  statics := none }

def pool2 : Array CpInfo := pool [(1, .methodref 2 3), (0, .class_ 4), (0, .nameAndType 5 6), (0, u "java/lang/Object"), (0, u "<init>"), (0, u "()V"), (0, .class_ 8), (0, u "java/lang/Record")] 13

def k2c0 : Code := { maxStack := 1, maxLocals := 1, code := jdk_30_method_1_code, exceptionTable := #[], attributes := #[] }
def k2m0 : Method := { name := "<init>", desc := "()V", sig := { parameters := [], returnType := none }, accessFlags := 4, code := some k2c0 }
/-- java/lang/Record -/
def k2 : Class := { plain "java/lang/Record" (some 0) with
  accessFlags := 1057
  interfaces := #[]
  cf := some (fileOf pool2 7 #[] #[{ accessFlags := 4, nameIndex := 5, descriptorIndex := 6, attributes := #[] }] 1057 2 #[] #[])
  fields := #[]
  methods := #[k2m0]
  instanceTypes := #[]
  staticTypes := #[]
  resolved := Array.replicate 22 none
  statics := none }

def pool3 : Array CpInfo := pool [(1, .class_ 2), (0, u "javax/xml/stream/Location"), (0, .class_ 4), (0, u "java/lang/Object")] 0

/-- javax/xml/stream/Location -/
def k3 : Class := { plain "javax/xml/stream/Location" (some 0) with
  accessFlags := 1537
  interfaces := #[]
  cf := some (fileOf pool3 1 #[] #[] 1537 3 #[] #[])
  fields := #[]
  methods := #[]
  instanceTypes := #[]
  staticTypes := #[]
  resolved := Array.replicate 5 none
  statics := none }

def pool4 : Array CpInfo := pool [(1, .methodref 2 3), (0, .class_ 4), (0, .nameAndType 5 6), (0, u "java/lang/Record"), (0, u "<init>"), (0, u "()V"), (0, .fieldref 8 9), (0, .class_ 10), (0, .nameAndType 11 12), (0, u "com/example/whitespace_stripper/whitespacestripper/ReadFailures$Place"), (0, u "line"), (0, u "I"), (0, .fieldref 8 14), (0, .nameAndType 15 12), (0, u "column"), (0, .fieldref 8 17), (0, .nameAndType 18 19), (0, u "offset"), (0, u "J"), (2, .long 2147483647), (13, .class_ 37), (0, u "javax/xml/stream/Location"), (0, u "(IIJ)V"), (4, u "()I"), (1, u "getCharacterOffset"), (9, .class_ 56), (0, u "com/example/whitespace_stripper/whitespacestripper/ReadFailures")] 21

def k4c0 : Code := { maxStack := 3, maxLocals := 5, code := prog_19_method_1_code, exceptionTable := #[], attributes := #[] }
def k4m0 : Method := { name := "<init>", desc := "(IIJ)V", sig := { parameters := [.int, .int, .long], returnType := none }, accessFlags := 0, code := some k4c0 }
def k4c1 : Code := { maxStack := 4, maxLocals := 1, code := prog_19_method_4_code, exceptionTable := #[], attributes := #[] }
def k4m1 : Method := { name := "getCharacterOffset", desc := "()I", sig := { parameters := [], returnType := some .int }, accessFlags := 1, code := some k4c1 }
/-- com/example/whitespace_stripper/whitespacestripper/ReadFailures$Place -/
def k4 : Class := { plain "com/example/whitespace_stripper/whitespacestripper/ReadFailures$Place" (some 2) with
  accessFlags := 48
  interfaces := #[3]
  cf := some (fileOf pool4 8 #[.nestHost 55] #[{ accessFlags := 0, nameIndex := 5, descriptorIndex := 38, attributes := #[] }, { accessFlags := 1, nameIndex := 45, descriptorIndex := 43, attributes := #[] }] 48 2 #[36] #[{ accessFlags := 18, nameIndex := 11, descriptorIndex := 12, attributes := #[] }, { accessFlags := 18, nameIndex := 15, descriptorIndex := 12, attributes := #[] }, { accessFlags := 18, nameIndex := 18, descriptorIndex := 19, attributes := #[] }])
  fields := #[{ name := "line", type := .int, accessFlags := 18, slot := 0, constantValue := 0 }, { name := "column", type := .int, accessFlags := 18, slot := 1, constantValue := 0 }, { name := "offset", type := .long, accessFlags := 18, slot := 2, constantValue := 0 }]
  methods := #[k4m0, k4m1]
  instanceTypes := #[.int, .int, .long]
  staticTypes := #[]
  resolved := Array.replicate 78 none
  statics := none }

def pool5 : Array CpInfo := pool [(1, u "java/lang/Cloneable"), (0, .class_ 1), (0, u "java/lang/Object"), (0, .class_ 3)] 3

/-- java/lang/Cloneable -/
def k5 : Class := { plain "java/lang/Cloneable" (some 0) with
  accessFlags := 1537
  interfaces := #[]
  cf := some (fileOf pool5 2 #[] #[] 1537 4 #[] #[])
  fields := #[]
  methods := #[]
  instanceTypes := #[]
  staticTypes := #[]
  resolved := Array.replicate 8 none
  statics := none }

def pool6 : Array CpInfo := pool [(1, u "java/io/Serializable"), (0, .class_ 1), (0, u "java/lang/Object"), (0, .class_ 3)] 3

/-- java/io/Serializable -/
def k6 : Class := { plain "java/io/Serializable" (some 0) with
  accessFlags := 1537
  interfaces := #[]
  cf := some (fileOf pool6 2 #[] #[] 1537 4 #[] #[])
  fields := #[]
  methods := #[]
  instanceTypes := #[]
  staticTypes := #[]
  resolved := Array.replicate 8 none
  statics := none }

/-- the primitive byte -/
def k7 : Class := { plain "byte" none with kind := .primitive 'B', accessFlags := 0x411 }
/-- [B -/
def k8 : Class := { plain "[B" (some 0) with kind := .array 7 .byte, interfaces := #[5, 6], accessFlags := 1041 }

/-- the primitive int -/
def k9 : Class := { plain "int" none with kind := .primitive 'I', accessFlags := 0x411 }
/-- [I -/
def k10 : Class := { plain "[I" (some 0) with kind := .array 9 .int, interfaces := #[5, 6], accessFlags := 1041 }

def heap : Heap := #[]
def classes : Array Class := #[k0, k1, k2, k3, k4, k5, k6, k7, k8, k9, k10]
def interned : List (Array UInt16 × Addr) := []
def slotsUsed : Nat := 0
def theMethod : MethodId := ⟨1, 1⟩
def args0 : Array Value := #[.int 5, .int 7, .long 9, .int 1]
def aboutOver (below : List Frame) : State where
  vm := { classes := classes, interned := interned.toArray }
  heap := heap
  slotsUsed := slotsUsed
  threads := #[{ frames := .invoking theMethod args0 :: below }]
def below0 : List Frame := [.native { method := ⟨0, 0⟩, args := #[] }]
def about1 : State := aboutOver below0
def p0 : Program := .bare "" "" ""
def e0 : Env := launch0.env 0 0 0
theorem w_frames : about1.frames = Frame.invoking theMethod args0 :: below0 := rfl
set_option maxRecDepth 65536 in
theorem w_args : argsFit about1.vm theMethod args0 = true := by decide +kernel
set_option maxRecDepth 65536 in
theorem w_heap : heapFits about1 = true := by decide +kernel
set_option maxRecDepth 65536 in
theorem w_runnable : about1.curStatus? = some .runnable := by decide +kernel
set_option maxRecDepth 65536 in
theorem w_alone : about1.alone = true := by decide +kernel
set_option maxRecDepth 65536 in
theorem w_named : about1.methodNamed? x = some theMethod := by decide +kernel
set_option maxRecDepth 65536 in
theorem w_hears : about1.hears theMethod below0 = true := by decide +kernel
set_option maxRecDepth 65536 in
theorem w_ripe : about1.ripe theMethod args0 below0 = true := by decide +kernel
theorem w_running : about1.status = .running := rfl
set_option maxRecDepth 65536 in
theorem w_room : about1.hasRoom e0.platform room_1 = true :=
  launch0.hasRoom_least _ room_1 (by decide +kernel) (by decide +kernel) (by decide +kernel) (by decide +kernel) (by decide +kernel) (by decide +kernel)
theorem allAtoms_all (ts : List Jvm.Cond) (a : Array Jvm.Value) (st : Jvm.State) : (allAtoms ts).before a st = ts.all (fun c => c.before a st) := by
  induction ts with
  | nil => rfl
  | cons c t ih =>
    show (Jvm.Cond.and c (allAtoms t)).before a st = _
    rw [Jvm.Cond.before_and, ih, List.all_cons]
def words1 : List Jvm.Cond := Jvm.Cond.code x code maxLocals ret :: tables_1
/-- a 'code' word, met by the world's own term for the bytes: nothing is compared byte by byte -/
theorem code_word {y : MethodName} {bytes : ByteArray} {mx : Nat} {rt : Option FieldType} {a : Array Value} {s : State} {m : MethodId} {meth : Method} {c : Code} (h1 : s.methodNamed? y = some m) (h2 : s.vm.method? m = some meth) (h3 : meth.code = some c) (h4 : c.code = bytes)
    (h5 : (c.maxLocals == mx && c.exceptionTable.isEmpty && decide (c.maxStack ≤ mostOperands) && decide (meth.sig.returnType = rt) && !meth.locks && decide (parseMethodDescriptor y.desc = some meth.sig)) = true) : (Jvm.Cond.code y bytes mx rt).before a s = true := by
  simp only [Bool.and_eq_true, beq_iff_eq, Bool.not_eq_true', decide_eq_true_eq] at h5
  obtain ⟨⟨⟨⟨⟨g1, g2⟩, g3⟩, g4⟩, g5⟩, g6⟩ := h5
  simp [Cond.before, Cond.holds, Cond.value, h1, h2, h3, h4, g1, g2, g3, g4, g5, g6]
def isCode : Jvm.Cond → Bool
  | .code _ _ _ _ => true
  | _ => false
theorem all_split {L : List Jvm.Cond} {P : Jvm.Cond → Bool} (h1 : L.all (fun c => isCode c || P c) = true) (h2 : ∀ c ∈ L.filter isCode, P c = true) : L.all P = true := by
  refine List.all_eq_true.mpr fun c hc => ?_
  have h := List.all_eq_true.mp h1 c hc
  rcases Bool.eq_false_or_eq_true (isCode c) with hi | hi
  · exact h2 c (List.mem_filter.mpr ⟨hc, hi⟩)
  · simpa [hi] using h
set_option maxRecDepth 65536 in
theorem w_c0 : (Jvm.Cond.code x code maxLocals ret).before args0 about1 = true := code_word (m := ⟨1, 1⟩) (meth := k1m1) (c := k1c1) (by decide +kernel) rfl rfl rfl (by decide +kernel)
set_option maxRecDepth 65536 in
theorem w_c1 : (Jvm.Cond.code ({ cls := "com/example/whitespace_stripper/whitespacestripper/ReadFailures$Place", name := "<init>", desc := "(IIJ)V" } : Jvm.MethodName) prog_19_method_1_code (5 : Nat) (Option.none : Option Jvm.ClassFile.FieldType)).before args0 about1 = true := code_word (m := ⟨4, 0⟩) (meth := k4m0) (c := k4c0) (by decide +kernel) rfl rfl rfl (by decide +kernel)
set_option maxRecDepth 65536 in
theorem w_c2 : (Jvm.Cond.code ({ cls := "java/lang/Record", name := "<init>", desc := "()V" } : Jvm.MethodName) jdk_30_method_1_code (1 : Nat) (Option.none : Option Jvm.ClassFile.FieldType)).before args0 about1 = true := code_word (m := ⟨2, 0⟩) (meth := k2m0) (c := k2c0) (by decide +kernel) rfl rfl rfl (by decide +kernel)
set_option maxRecDepth 65536 in
theorem w_c3 : (Jvm.Cond.code ({ cls := "java/lang/Object", name := "<init>", desc := "()V" } : Jvm.MethodName) object_method_1_code (1 : Nat) (Option.none : Option Jvm.ClassFile.FieldType)).before args0 about1 = true := code_word (m := ⟨0, 0⟩) (meth := k0m0) (c := k0c0) (by decide +kernel) rfl rfl rfl (by decide +kernel)
set_option maxRecDepth 65536 in
theorem w_c4 : (Jvm.Cond.code ({ cls := "com/example/whitespace_stripper/whitespacestripper/ReadFailures$Place", name := "getCharacterOffset", desc := "()I" } : Jvm.MethodName) prog_19_method_4_code (1 : Nat) (Option.some Jvm.ClassFile.FieldType.int)).before args0 about1 = true := code_word (m := ⟨4, 1⟩) (meth := k4m1) (c := k4c1) (by decide +kernel) rfl rfl rfl (by decide +kernel)
def codes1 : List Jvm.Cond := [Jvm.Cond.code x code maxLocals ret, Jvm.Cond.code ({ cls := "com/example/whitespace_stripper/whitespacestripper/ReadFailures$Place", name := "<init>", desc := "(IIJ)V" } : Jvm.MethodName) prog_19_method_1_code (5 : Nat) (Option.none : Option Jvm.ClassFile.FieldType), Jvm.Cond.code ({ cls := "java/lang/Record", name := "<init>", desc := "()V" } : Jvm.MethodName) jdk_30_method_1_code (1 : Nat) (Option.none : Option Jvm.ClassFile.FieldType), Jvm.Cond.code ({ cls := "java/lang/Object", name := "<init>", desc := "()V" } : Jvm.MethodName) object_method_1_code (1 : Nat) (Option.none : Option Jvm.ClassFile.FieldType), Jvm.Cond.code ({ cls := "com/example/whitespace_stripper/whitespacestripper/ReadFailures$Place", name := "getCharacterOffset", desc := "()I" } : Jvm.MethodName) prog_19_method_4_code (1 : Nat) (Option.some Jvm.ClassFile.FieldType.int)]
set_option maxRecDepth 65536 in
theorem codes_eq : words1.filter isCode = codes1 := rfl
theorem w_codes : ∀ c ∈ words1.filter isCode, c.before args0 about1 = true := by
  rw [codes_eq]
  intro c hc
  simp only [codes1, List.mem_cons, List.not_mem_nil, or_false] at hc
  rcases hc with rfl | rfl | rfl | rfl | rfl
  · exact w_c0
  · exact w_c1
  · exact w_c2
  · exact w_c3
  · exact w_c4
set_option maxRecDepth 65536 in
theorem w_t1 : (words1.take 24).all (fun c => isCode c || c.before args0 about1) = true := by decide +kernel
set_option maxRecDepth 65536 in
theorem w_t2 : (words1.drop 24).all (fun c => isCode c || c.before args0 about1) = true := by decide +kernel
theorem w_tables : (allAtoms (Jvm.Cond.code x code maxLocals ret :: tables_1)).before args0 about1 = true := by
  rw [allAtoms_all]
  show words1.all (fun c => c.before args0 about1) = true
  refine all_split ?_ w_codes
  rw [← List.take_append_drop 24 words1, List.all_append, w_t1, w_t2]
  rfl
set_option maxRecDepth 65536 in
theorem w_case : (Jvm.Cond.and given_1 narrow_1).before args0 about1 = true := by decide +kernel
theorem w_applies : (headSpec (Jvm.Cond.code x code maxLocals ret :: tables_1) room_1).applies x e0.platform about1 = true :=
  (Spec.applies_iff w_frames).mpr ⟨w_running, w_runnable, w_alone, w_named, w_hears, w_ripe, w_room, w_tables⟩
theorem atStart : AtStart classFile x code maxLocals ret World_1 tables_1 room_1 Calls_1 rest_1 Pre_1 launch0 p0 e0 about1 theMethod args0 below0 :=
  ⟨lists_1, trivial, launch0.admits_env _ _ _, launch0.least_env, fairChoices_fair.cas, fairChoices_fair.clock, w_frames, w_args, w_heap, w_applies, trivial, trivial, w_case⟩
end start1
theorem witness_1 : WitnessClaimed_1 := ⟨start1.p0, start1.e0, start1.about1, start1.theMethod, start1.args0, start1.below0, start1.atStart⟩
end Jvm.Pilot.@@N@@
