import JvmDerived
import JvmDerived.Pilot.@@N@@Statement
import JvmDerived.Pilot.@@N@@Code
set_option linter.unusedVariables false
set_option linter.unusedSimpArgs false
namespace Jvm.Pilot.@@N@@
open Jvm Jvm.ClassFile Sem Op Lib Jvm.Free Jvm.Stand Jvm.LawKit Jvm.RoadKit Bundle Jvm.Pilot.@@N@@.Jvm.D
section Own
set_option maxHeartbeats 4000000
variable {p : Program} {l : Launch} {e : Env} {R : Room} {s : State} {m : MethodId} {args : Array Value} {below : List Frame} {meth : Method} {c : Code} {T : State} {locs : List Loc} {cells slots : Nat} {Z : State} {a0 : Array Value} {h : Heap} {own nm : String} {bytes : ByteArray} {ml : Nat} {rt : Option FieldType} {Q : Option Value → Heap → List Loc → Prop} {CC SS : Nat} {E : Outcome → State → Prop} {pc : Nat} {Ls : Array Slot} {St : List Value}
def Ctx (p : Program) (s : State) (m : MethodId) (meth : Method) (c : Code) (Z : State) (own nm : String) (bytes : ByteArray) (ml : Nat) (rt : Option FieldType) : Prop :=
  p.tables.exec = Jvm.exec ∧ Z.Warmed39 s.vm ∧ c.code = bytes ∧ c.maxLocals = ml ∧ s.vm.findClass own = some m.cls ∧ meth.locks = false ∧ meth.sig.returnType = rt ∧ meth.name = nm
theorem Ctx.c_x (C : Ctx p s m meth c Z own nm bytes ml rt) : p.tables.exec = Jvm.exec := C.1
theorem Ctx.c_z (C : Ctx p s m meth c Z own nm bytes ml rt) : Z.Warmed39 s.vm := C.2.1
theorem Ctx.c_by (C : Ctx p s m meth c Z own nm bytes ml rt) : c.code = bytes := C.2.2.1
theorem Ctx.c_ml (C : Ctx p s m meth c Z own nm bytes ml rt) : c.maxLocals = ml := C.2.2.2.1
theorem Ctx.c_own (C : Ctx p s m meth c Z own nm bytes ml rt) : s.vm.findClass own = some m.cls := C.2.2.2.2.1
theorem Ctx.c_lk (C : Ctx p s m meth c Z own nm bytes ml rt) : meth.locks = false := C.2.2.2.2.2.1
theorem Ctx.c_rt (C : Ctx p s m meth c Z own nm bytes ml rt) : meth.sig.returnType = rt := C.2.2.2.2.2.2.1
theorem Ctx.c_nm (C : Ctx p s m meth c Z own nm bytes ml rt) : meth.name = nm := C.2.2.2.2.2.2.2
def EndN (s : State) (Q : Option Value → Heap → List Loc → Prop) (CC SS : Nat) (o : Outcome) (t : State) : Prop := ∃ v L, o = .returned v ∧ Q v t.heap L ∧ FrameEnd s o t L CC SS
def Goes (p : Program) (e : Env) (below : List Frame) (E : Outcome → State → Prop) (T : State) (m : MethodId) (pc : Nat) (Ls : Array Slot) (St : List Value) : Prop :=
  ∃ s₂ o, Steps p.tables e below (T.setTop (mkF m pc Ls St)) s₂ ∧ s₂.status = .running ∧ Ended s₂ below o ∧ E o s₂
theorem Goes.back {T' : State} {q : Nat} {Ls' : Array Slot} {St' : List Value} (k : Goes p e below E T' m q Ls' St') (f : ∀ t, Steps p.tables e below (T'.setTop (mkF m q Ls' St')) t → Steps p.tables e below (T.setTop (mkF m pc Ls St)) t) : Goes p e below E T m pc Ls St := by
  obtain ⟨s2, o, h1, h2⟩ := k
  exact ⟨s2, o, f _ h1, h2⟩
theorem Goes.enter {g : JFrame} (hg : g = mkF m 0 Ls []) (k : Goes p e below (EndN s Q CC SS) T m 0 Ls []) : ∃ s₂ o, Steps p.tables e below (T.setTop g) s₂ ∧ s₂.status = .running ∧ Ended s₂ below o ∧ ∃ v L, o = .returned v ∧ Q v s₂.heap L ∧ FrameEnd s o s₂ L CC SS := by
  subst hg
  exact k
theorem Ctx.of {x : MethodName} {S : Spec} {s₁ : State} (Bd : BodyLoose p l x S bytes ml rt e s m args below meth c s₁) (hml : c.maxLocals = ml) (hZ : Z.Warmed39 s.vm) : Ctx p s m meth c Z x.cls x.name bytes ml rt :=
  ⟨Bd.exec, hZ, Bd.bytes, hml, findClass_of_methodNamed Bd.named, Bd.notSynchronized, Bd.returns, (name_of_methodNamed Bd.named Bd.method).1⟩
theorem g_iadd (q : Nat) (hq : pc + 1 = q) (C : Ctx p s m meth c Z own nm bytes ml rt) (X : Stand p l e R s m args below meth c T locs cells slots) {x y : Int32} (hd : decode bytes pc = .ok (.iadd, 1)) (k : Goes p e below E T m q Ls (.int (x + y) :: St)) : Goes p e below E T m pc Ls (.int y :: .int x :: St) := by
  subst hq
  exact k.back fun t kt => XS.iadd (g := mkF m pc Ls (.int y :: .int x :: St)) X.here C.c_x rfl (hb C.c_by hd) rfl kt
theorem g_imul (q : Nat) (hq : pc + 1 = q) (C : Ctx p s m meth c Z own nm bytes ml rt) (X : Stand p l e R s m args below meth c T locs cells slots) {x y : Int32} (hd : decode bytes pc = .ok (.imul, 1)) (k : Goes p e below E T m q Ls (.int (x * y) :: St)) : Goes p e below E T m pc Ls (.int y :: .int x :: St) := by
  subst hq
  exact k.back fun t kt => XS.imul (g := mkF m pc Ls (.int y :: .int x :: St)) X.here C.c_x rfl (hb C.c_by hd) rfl kt
theorem g_iand (q : Nat) (hq : pc + 1 = q) (C : Ctx p s m meth c Z own nm bytes ml rt) (X : Stand p l e R s m args below meth c T locs cells slots) {x y : Int32} (hd : decode bytes pc = .ok (.iand, 1)) (k : Goes p e below E T m q Ls (.int (x &&& y) :: St)) : Goes p e below E T m pc Ls (.int y :: .int x :: St) := by
  subst hq
  exact k.back fun t kt => XS.iand (g := mkF m pc Ls (.int y :: .int x :: St)) X.here C.c_x rfl (hb C.c_by hd) rfl kt
theorem g_irem (q : Nat) (hq : pc + 1 = q) (C : Ctx p s m meth c Z own nm bytes ml rt) (X : Stand p l e R s m args below meth c T locs cells slots) {x y : Int32} (hd : decode bytes pc = .ok (.irem, 1)) (hy : y ≠ 0) (k : Goes p e below E T m q Ls (.int (x % y) :: St)) : Goes p e below E T m pc Ls (.int y :: .int x :: St) := by
  subst hq
  exact k.back fun t kt => XS.irem (g := mkF m pc Ls (.int y :: .int x :: St)) X.here C.c_x rfl (hb C.c_by hd) rfl hy (by rw [irem_eq_mod]; exact kt)
theorem g_iconst (q : Nat) (hq : pc + 1 = q) (C : Ctx p s m meth c Z own nm bytes ml rt) (X : Stand p l e R s m args below meth c T locs cells slots) {i : Int} (v : Int32) (hd : decode bytes pc = .ok (.iconst i, 1)) (hv : Int32.ofInt i = v) (k : Goes p e below E T m q Ls (.int v :: St)) : Goes p e below E T m pc Ls St := by
  subst hq
  exact k.back fun t kt => XS.iconst (g := mkF m pc Ls St) X.here C.c_x rfl (hb C.c_by hd) (by subst hv; exact kt)
theorem g_sipush (q : Nat) (hq : pc + 3 = q) (C : Ctx p s m meth c Z own nm bytes ml rt) (X : Stand p l e R s m args below meth c T locs cells slots) {i : Int} (v : Int32) (hd : decode bytes pc = .ok (.sipush i, 3)) (hv : (Int16.ofInt i).toInt32 = v) (k : Goes p e below E T m q Ls (.int v :: St)) : Goes p e below E T m pc Ls St := by
  subst hq
  exact k.back fun t kt => XS.sipush (g := mkF m pc Ls St) X.here C.c_x rfl (hb C.c_by hd) (by subst hv; exact kt)
theorem g_iloadN (q : Nat) (hq : pc + 1 = q) (C : Ctx p s m meth c Z own nm bytes ml rt) (X : Stand p l e R s m args below meth c T locs cells slots) {k0 : Fin 4} {v : Int32} (hd : decode bytes pc = .ok (.iload_n k0, 1)) (hl : Ls[k0.val]? = some (.val (.int v))) (k : Goes p e below E T m q Ls (.int v :: St)) : Goes p e below E T m pc Ls St := by
  subst hq
  exact k.back fun t kt => XS.iloadN (g := mkF m pc Ls St) X.here C.c_x rfl (hb C.c_by hd) hl kt
theorem g_iload (q : Nat) (hq : pc + 2 = q) (C : Ctx p s m meth c Z own nm bytes ml rt) (X : Stand p l e R s m args below meth c T locs cells slots) {k0 : Nat} {v : Int32} (hd : decode bytes pc = .ok (.iload k0, 2)) (hl : Ls[k0]? = some (.val (.int v))) (k : Goes p e below E T m q Ls (.int v :: St)) : Goes p e below E T m pc Ls St := by
  subst hq
  exact k.back fun t kt => XS.iload (g := mkF m pc Ls St) X.here C.c_x rfl (hb C.c_by hd) hl kt
theorem g_aloadN (q : Nat) (hq : pc + 1 = q) (C : Ctx p s m meth c Z own nm bytes ml rt) (X : Stand p l e R s m args below meth c T locs cells slots) {k0 : Fin 4} {v : Value} (hd : decode bytes pc = .ok (.aload_n k0, 1)) (hl : Ls[k0.val]? = some (.val v)) (hv : v.isRef = true) (k : Goes p e below E T m q Ls (v :: St)) : Goes p e below E T m pc Ls St := by
  subst hq
  exact k.back fun t kt => XS.aloadN (g := mkF m pc Ls St) X.here C.c_x rfl (hb C.c_by hd) hl hv kt
theorem g_aload (q : Nat) (hq : pc + 2 = q) (C : Ctx p s m meth c Z own nm bytes ml rt) (X : Stand p l e R s m args below meth c T locs cells slots) {k0 : Nat} {v : Value} (hd : decode bytes pc = .ok (.aload k0, 2)) (hl : Ls[k0]? = some (.val v)) (hv : v.isRef = true) (k : Goes p e below E T m q Ls (v :: St)) : Goes p e below E T m pc Ls St := by
  subst hq
  exact k.back fun t kt => XS.aload (g := mkF m pc Ls St) X.here C.c_x rfl (hb C.c_by hd) hl hv kt
theorem g_istore (q : Nat) (hq : pc + 2 = q) (C : Ctx p s m meth c Z own nm bytes ml rt) (X : Stand p l e R s m args below meth c T locs cells slots) {k0 : Nat} {x : Int32} (v : Int32) (hv : x = v) (Ls' : Array Slot) (hd : decode bytes pc = .ok (.istore k0, 2)) (hl : storeLocals Ls k0 (.int v) = some Ls') (k : Goes p e below E T m q Ls' St) : Goes p e below E T m pc Ls (.int x :: St) := by
  subst hq
  exact k.back fun t kt => XS.istore (g := mkF m pc Ls (.int x :: St)) X.here C.c_x rfl (hb C.c_by hd) rfl (by subst hv; exact hl) kt
theorem g_astore (q : Nat) (hq : pc + 2 = q) (C : Ctx p s m meth c Z own nm bytes ml rt) (X : Stand p l e R s m args below meth c T locs cells slots) {k0 : Nat} {x : Value} (Ls' : Array Slot) (hd : decode bytes pc = .ok (.astore k0, 2)) (hv : x.isRef = true) (hl : storeLocals Ls k0 x = some Ls') (k : Goes p e below E T m q Ls' St) : Goes p e below E T m pc Ls (x :: St) := by
  subst hq
  exact k.back fun t kt => XS.astore (g := mkF m pc Ls (x :: St)) X.here C.c_x rfl (hb C.c_by hd) rfl hv hl kt
theorem g_dup (q : Nat) (hq : pc + 1 = q) (C : Ctx p s m meth c Z own nm bytes ml rt) (X : Stand p l e R s m args below meth c T locs cells slots) {v : Value} (hd : decode bytes pc = .ok (.dup, 1)) (hv : v.category = 1) (k : Goes p e below E T m q Ls (v :: v :: St)) : Goes p e below E T m pc Ls (v :: St) := by
  subst hq
  exact k.back fun t kt => XS.dup (g := mkF m pc Ls (v :: St)) X.here C.c_x rfl (hb C.c_by hd) rfl hv kt
theorem g_goto (q : Nat) (C : Ctx p s m meth c Z own nm bytes ml rt) (X : Stand p l e R s m args below meth c T locs cells slots) {o : Int} (hd : decode bytes pc = .ok (.goto o, 3)) (ho : 0 ≤ (pc : Int) + o) (hp : ((pc : Int) + o).toNat = q) (k : Goes p e below E T m q Ls St) : Goes p e below E T m pc Ls St :=
  k.back fun t kt => XS.goto (g := mkF m pc Ls St) X.here C.c_x rfl (pc0 := pc) (pc' := q) rfl (hb C.c_by hd) ho hp kt
theorem own_z0 : (0 : Int32).toInt = 0 := rfl
theorem g_icmp_lt_t (q : Nat) (C : Ctx p s m meth c Z own nm bytes ml rt) (X : Stand p l e R s m args below meth c T locs cells slots) {o : Int} {x y : Int32} (hd : decode bytes pc = .ok (.if_icmp .lt o, 3)) (ho : 0 ≤ (pc : Int) + o) (hp : ((pc : Int) + o).toNat = q) (h : x.toInt < y.toInt) (k : Goes p e below E T m q Ls St) : Goes p e below E T m pc Ls (.int y :: .int x :: St) :=
  k.back fun t kt => XS.icmpYes (g := mkF m pc Ls (.int y :: .int x :: St)) X.here C.c_x rfl (pc0 := pc) (pc' := q) rfl (hb C.c_by hd) rfl (tlt (Int32.lt_iff_toInt_lt.mpr h)).1 ho hp kt
theorem g_icmp_lt_f (q : Nat) (hq : pc + 3 = q) (C : Ctx p s m meth c Z own nm bytes ml rt) (X : Stand p l e R s m args below meth c T locs cells slots) {o : Int} {x y : Int32} (hd : decode bytes pc = .ok (.if_icmp .lt o, 3)) (h : ¬ x.toInt < y.toInt) (k : Goes p e below E T m q Ls St) : Goes p e below E T m pc Ls (.int y :: .int x :: St) := by
  subst hq
  exact k.back fun t kt => XS.icmpNo (g := mkF m pc Ls (.int y :: .int x :: St)) X.here C.c_x rfl (hb C.c_by hd) rfl (flt (fun r => h (Int32.lt_iff_toInt_lt.mp r))).1 kt
theorem g_icmp_gt_t (q : Nat) (C : Ctx p s m meth c Z own nm bytes ml rt) (X : Stand p l e R s m args below meth c T locs cells slots) {o : Int} {x y : Int32} (hd : decode bytes pc = .ok (.if_icmp .gt o, 3)) (ho : 0 ≤ (pc : Int) + o) (hp : ((pc : Int) + o).toNat = q) (h : y.toInt < x.toInt) (k : Goes p e below E T m q Ls St) : Goes p e below E T m pc Ls (.int y :: .int x :: St) :=
  k.back fun t kt => XS.icmpYes (g := mkF m pc Ls (.int y :: .int x :: St)) X.here C.c_x rfl (pc0 := pc) (pc' := q) rfl (hb C.c_by hd) rfl (tlt (Int32.lt_iff_toInt_lt.mpr h)).2.2.1 ho hp kt
theorem g_icmp_gt_f (q : Nat) (hq : pc + 3 = q) (C : Ctx p s m meth c Z own nm bytes ml rt) (X : Stand p l e R s m args below meth c T locs cells slots) {o : Int} {x y : Int32} (hd : decode bytes pc = .ok (.if_icmp .gt o, 3)) (h : ¬ y.toInt < x.toInt) (k : Goes p e below E T m q Ls St) : Goes p e below E T m pc Ls (.int y :: .int x :: St) := by
  subst hq
  exact k.back fun t kt => XS.icmpNo (g := mkF m pc Ls (.int y :: .int x :: St)) X.here C.c_x rfl (hb C.c_by hd) rfl (flt (fun r => h (Int32.lt_iff_toInt_lt.mp r))).2.2.1 kt
theorem g_if_eq_t (q : Nat) (C : Ctx p s m meth c Z own nm bytes ml rt) (X : Stand p l e R s m args below meth c T locs cells slots) {o : Int} {x : Int32} (hd : decode bytes pc = .ok (.ifCond .eq o, 3)) (ho : 0 ≤ (pc : Int) + o) (hp : ((pc : Int) + o).toNat = q) (h : x.toInt = 0) (k : Goes p e below E T m q Ls St) : Goes p e below E T m pc Ls (.int x :: St) :=
  k.back fun t kt => XS.ifYes (g := mkF m pc Ls (.int x :: St)) X.here C.c_x rfl (pc0 := pc) (pc' := q) rfl (hb C.c_by hd) rfl ((if0 _ _).trans (teq (Int32.toInt_inj.mp h)).1) ho hp kt
theorem g_if_eq_f (q : Nat) (hq : pc + 3 = q) (C : Ctx p s m meth c Z own nm bytes ml rt) (X : Stand p l e R s m args below meth c T locs cells slots) {o : Int} {x : Int32} (hd : decode bytes pc = .ok (.ifCond .eq o, 3)) (h : ¬ x.toInt = 0) (k : Goes p e below E T m q Ls St) : Goes p e below E T m pc Ls (.int x :: St) := by
  subst hq
  exact k.back fun t kt => XS.ifNo (g := mkF m pc Ls (.int x :: St)) X.here C.c_x rfl (hb C.c_by hd) rfl ((if0 _ _).trans (feq (fun r => h (congrArg Int32.toInt r))).1) kt
theorem g_if_ne_t (q : Nat) (C : Ctx p s m meth c Z own nm bytes ml rt) (X : Stand p l e R s m args below meth c T locs cells slots) {o : Int} {x : Int32} (hd : decode bytes pc = .ok (.ifCond .ne o, 3)) (ho : 0 ≤ (pc : Int) + o) (hp : ((pc : Int) + o).toNat = q) (h : ¬ x.toInt = 0) (k : Goes p e below E T m q Ls St) : Goes p e below E T m pc Ls (.int x :: St) :=
  k.back fun t kt => XS.ifYes (g := mkF m pc Ls (.int x :: St)) X.here C.c_x rfl (pc0 := pc) (pc' := q) rfl (hb C.c_by hd) rfl ((if0 _ _).trans (feq (fun r => h (congrArg Int32.toInt r))).2) ho hp kt
theorem g_icmp_ne_f (q : Nat) (hq : pc + 3 = q) (C : Ctx p s m meth c Z own nm bytes ml rt) (X : Stand p l e R s m args below meth c T locs cells slots) {o : Int} {x y : Int32} (hd : decode bytes pc = .ok (.if_icmp .ne o, 3)) (h : x.toInt = y.toInt) (k : Goes p e below E T m q Ls St) : Goes p e below E T m pc Ls (.int y :: .int x :: St) := by
  subst hq
  exact k.back fun t kt => XS.icmpNo (g := mkF m pc Ls (.int y :: .int x :: St)) X.here C.c_x rfl (hb C.c_by hd) rfl (teq (Int32.toInt_inj.mp h)).2 kt
theorem g_if_ne_f (q : Nat) (hq : pc + 3 = q) (C : Ctx p s m meth c Z own nm bytes ml rt) (X : Stand p l e R s m args below meth c T locs cells slots) {o : Int} {x : Int32} (hd : decode bytes pc = .ok (.ifCond .ne o, 3)) (h : x.toInt = 0) (k : Goes p e below E T m q Ls St) : Goes p e below E T m pc Ls (.int x :: St) := by
  subst hq
  exact k.back fun t kt => XS.ifNo (g := mkF m pc Ls (.int x :: St)) X.here C.c_x rfl (hb C.c_by hd) rfl ((if0 _ _).trans (teq (Int32.toInt_inj.mp h)).2) kt
theorem g_ldc (q : Nat) (hq : pc + 2 = q) (C : Ctx p s m meth c Z own nm bytes ml rt) (X : Stand p l e R s m args below meth c T locs cells slots) {i : Nat} {v : Int32} (w : (Cond.constant own i v).before a0 Z = true) (hd : decode bytes pc = .ok (.ldc i, 2)) (k : Goes p e below E T m q Ls (.int v :: St)) : Goes p e below E T m pc Ls St := by
  subst hq
  exact k.back fun t kt => X.ldcInt C.c_x C.c_own (mvT C.c_z w) (g := mkF m pc Ls St) rfl (hb C.c_by hd) _ kt
theorem g_retW (C : Ctx p s m meth c Z own nm bytes ml rt) (X : Stand p l e R s m args below meth c T locs cells slots) {w : Value} {t : FieldType} {i : Instr} (hrt : rt = some t) (hn : narrow t w = w)
    (hi : (i = .ireturn ∧ (t = .int ∨ t = .boolean ∨ t = .byte ∨ t = .char ∨ t = .short) ∧ ∃ z, w = .int z) ∨ (i = .lreturn ∧ t = .long ∧ ∃ z, w = .long z) ∨ (i = .dreturn ∧ t = .double ∧ ∃ z, w = .double z) ∨ (i = .freturn ∧ t = .float ∧ ∃ z, w = .float z) ∨ (i = .areturn ∧ t.isReference = true ∧ w.isRef = true))
    (hd : decode bytes pc = .ok (i, 1)) (eT : T.heap = h) (hc : cells ≤ CC) (hs : slots ≤ SS) (hQ : Q (some w) h locs) : Goes p e below (EndN s Q CC SS) T m pc Ls (w :: St) := by
  obtain ⟨fs, hr, hrun, hended, hW, hsame⟩ := X.leave (v := some w) (fun r => by rw [C.c_rt, hrt] at r; cases r) C.c_lk
  subst eT
  exact ⟨_, _, retOut X C.c_x (C.c_rt.trans hrt) hn hi (hb C.c_by hd) hr, hrun, hended, _, _, rfl, hQ, ⟨_, rfl⟩, hW, hsame.mono hc hs⟩
theorem g_retI (C : Ctx p s m meth c Z own nm bytes ml rt) (X : Stand p l e R s m args below meth c T locs cells slots) {z : Int32} (hrt : rt = some .int) (hd : decode bytes pc = .ok (.ireturn, 1)) (eT : T.heap = h) (hc : cells ≤ CC) (hs : slots ≤ SS) (hQ : Q (some (.int z)) h locs) : Goes p e below (EndN s Q CC SS) T m pc Ls (.int z :: St) :=
  g_retW C X hrt rfl (Or.inl ⟨rfl, Or.inl rfl, z, rfl⟩) hd eT hc hs hQ
theorem g_retN (C : Ctx p s m meth c Z own nm bytes ml rt) (X : Stand p l e R s m args below meth c T locs cells slots) {z z' : Int32} {t : FieldType} (hrt : rt = some t) (ht : t = .boolean ∨ t = .byte ∨ t = .char ∨ t = .short) (hd : decode bytes pc = .ok (.ireturn, 1)) (eT : T.heap = h) (hc : cells ≤ CC) (hs : slots ≤ SS) (hz : nar t z = z') (hQ : Q (some (.int z')) h locs) : Goes p e below (EndN s Q CC SS) T m pc Ls (.int z :: St) := by
  obtain ⟨fs, hr, hrun, hended, hW, hsame⟩ := X.leave (v := some (.int (nar t z))) (fun r => by rw [C.c_rt, hrt] at r; cases r) C.c_lk
  subst eT
  subst hz
  exact ⟨_, _, retN X C.c_x (C.c_rt.trans hrt) ht (hb C.c_by hd) hr, hrun, hended, _, _, rfl, hQ, ⟨_, rfl⟩, hW, hsame.mono hc hs⟩
theorem g_retV (C : Ctx p s m meth c Z own nm bytes ml rt) (X : Stand p l e R s m args below meth c T locs cells slots) (hrt : rt = none) (hd : decode bytes pc = .ok (.return_, 1)) (eT : T.heap = h) (hc : cells ≤ CC) (hs : slots ≤ SS) (hQ : Q none h locs) : Goes p e below (EndN s Q CC SS) T m pc Ls [] := by
  obtain ⟨fs, hr, hrun, hended, hW, hsame⟩ := X.leave (v := none) (fun _ => rfl) C.c_lk
  subst eT
  exact ⟨_, _, X.returnOut C.c_x (C.c_rt.trans hrt) (hb C.c_by hd) hr, hrun, hended, _, _, rfl, hQ, ⟨_, rfl⟩, hW, hsame.mono hc hs⟩
theorem g_getF (q : Nat) (hq : pc + 3 = q) (C : Ctx p s m meth c Z own nm bytes ml rt) (X : Stand p l e R s m args below meth c T locs cells slots) {R0 O n d host : String} {i : Nat} {a : Addr} {v : Value} (w : (Cond.fieldLink own i R0 n d).before a0 Z = true ∨ (Cond.fieldLinkNest own i R0 n d host).before a0 Z = true) (via : Via Z R0 O n d) (eT : T.heap = h) (F : Fld Z h a O n d v) (hd : decode bytes pc = .ok (.getfield i, 3))
    (k : ∀ T', Stand p l e R s m args below meth c T' locs cells slots → T'.heap = h → Goes p e below E T' m q Ls (v :: St)) : Goes p e below E T m pc Ls (.ref a :: St) := by
  subst hq
  obtain ⟨T', X', e', st⟩ := getF X C.c_x C.c_z C.c_own w via eT F (g := mkF m pc Ls (.ref a :: St)) rfl rfl (hb C.c_by hd)
  exact (k T' X' e').back fun t kt => st t kt
theorem g_putF (q : Nat) (hq : pc + 3 = q) (C : Ctx p s m meth c Z own nm bytes ml rt) (X : Stand p l e R s m args below meth c T locs cells slots) {R0 O n d host K : String} {i kk : Nat} {ty : FieldType} {a : Addr} {v old : Value} (w : (Cond.fieldLink own i R0 n d).before a0 Z = true ∨ (Cond.fieldLinkNest own i R0 n d host).before a0 Z = true) (via : Via Z R0 O n d) (eT : T.heap = h) (F : Fld Z h a O n d old) (EX : Exa Z h a K)
    (L : (Cond.lays K O n d).before a0 Z = true ∨ ((Cond.laysFinal K O n d).before a0 Z = true ∧ own = O ∧ nm = "<init>")) (wi : (Cond.instantiable K kk).before a0 Z = true) (hty : parseFieldDescriptor d = some ty) (hn : narrow ty v = v) (hf : fits ty v = true) (hd : decode bytes pc = .ok (.putfield i, 3)) {n0 : Nat} (N : Fr n0 locs) (hn0 : n0 ≤ a)
    (k : ∀ T' h' locs', Stand p l e R s m args below meth c T' locs' cells slots → T'.heap = h' → Wr h h' a (Jvm.RoadKit.slotOf Z O n d) v → Fr n0 locs' → Goes p e below E T' m q Ls St) : Goes p e below E T m pc Ls (v :: .ref a :: St) := by
  subst hq
  obtain ⟨T', h', X', e', W', st⟩ := putF X C.c_x C.c_z C.c_own w via eT F EX (L.imp id fun r => ⟨r.1, r.2.1, C.c_nm.trans r.2.2⟩) wi hty hn hf (g := mkF m pc Ls (v :: .ref a :: St)) rfl rfl (hb C.c_by hd)
  exact (k T' h' _ X' e' W' (Fr.snoc X' N hn0)).back fun t kt => st t kt
theorem g_new (q : Nat) (hq : pc + 3 = q) (C : Ctx p s m meth c Z own nm bytes ml rt) (X : Stand p l e R s m args below meth c T locs cells slots) {K : String} {i n : Nat} (w : (Cond.classLink own i K).before a0 Z = true) (wi : (Cond.instantiable K n).before a0 Z = true) (wz : (Cond.initialized K).before a0 Z = true) (eT : T.heap = h) (hd : decode bytes pc = .ok (.new i, 3)) (hc : cells + 1 ≤ R.cells) (hl : slots + n ≤ R.slots)
    (k : ∀ T' h' a, a = h.size → Stand p l e R s m args below meth c T' locs (cells + 1) (slots + n) → T'.heap = h' → Ext h h' → Exa Z h' a K → (∀ {O nm d : String} {ty : FieldType}, Laid Z a0 K O nm d → parseFieldDescriptor d = some ty → Fld Z h' a O nm d (defaultValue ty)) → Goes p e below E T' m q Ls (.ref a :: St)) : Goes p e below E T m pc Ls St := by
  subst hq
  obtain ⟨T', h', X', e', E', A', D', -, st⟩ := newO X C.c_x C.c_z C.c_own w wi wz eT (g := mkF m pc Ls St) rfl (hb C.c_by hd) hc hl
  exact (k T' h' _ rfl X' e' E' A' D').back fun t kt => st t kt
theorem g_initO (q : Nat) (hq : pc + 3 = q) (C : Ctx p s m meth c Z own nm bytes ml rt) (X : Stand p l e R s m args below meth c T locs cells slots) {i : Nat} {a : Addr} (w1 : (Cond.methodLink own i Lib.objectInit).before a0 Z = true) (w2 : (Cond.instanceMethod Lib.objectInit).before a0 Z = true) (w3 : (Cond.code Lib.objectInit ⟨#[0xb1]⟩ 1 none).before a0 Z = true) (eT : T.heap = h) (hd : decode bytes pc = .ok (.invokespecial i, 3)) (hsz : Ls.size = ml) (hf : 1 ≤ R.frames) {W : Nat} (hW : (St.map fun v => v.category).sum ≤ W) (hl : W + 12 ≤ R.locals)
    (k : ∀ T', Stand p l e R s m args below meth c T' locs cells slots → T'.heap = h → Goes p e below E T' m q Ls St) : Goes p e below E T m pc Ls (.ref a :: St) := by
  subst hq
  obtain ⟨T', X', e', st⟩ := initO X C.c_x C.c_z C.c_own w1 w2 w3 eT (g := mkF m pc Ls (.ref a :: St)) rfl (hsz.trans C.c_ml.symm) rfl (hb C.c_by hd) hf (W := W) (by show 2 * 0 + _ ≤ _; omega) hl
  exact (k T' X' e').back fun t kt => st t kt
def Ba (Z : State) (h : Heap) (a : Addr) (ty : FieldType) (n : Nat) (f : Nat → Int32) : Prop := ∃ c : Cell, Arr Z h a c ty ∧ c.slots.size = n ∧ n < 2 ^ 31 ∧ (∀ k, k < n → c.slots[k]? = some (.int (f k)))
def upd (f : Nat → Int32) (j : Nat) (v : Int32) : Nat → Int32 := fun k => bif Nat.beq k j then v else f k
theorem upd_same {f : Nat → Int32} {j k : Nat} {v : Int32} (q : k = j) : upd f j v k = v := by subst q; simp [upd]
theorem upd_ne {f : Nat → Int32} {j k : Nat} {v : Int32} (q : k ≠ j) : upd f j v k = f k := by
  have : Nat.beq k j = false := by
    cases hb : Nat.beq k j with
    | false => rfl
    | true => exact absurd (Nat.eq_of_beq_eq_true hb) q
  show (bif Nat.beq k j then v else f k) = f k
  rw [this]; rfl
theorem upd_eq (f : Nat → Int32) (j k : Nat) (v : Int32) : upd f j v k = if k = j then v else f k := by
  split
  · rename_i q; exact upd_same q
  · rename_i q; exact upd_ne q
theorem Ba.lt {a : Addr} {ty : FieldType} {n : Nat} {f : Nat → Int32} (F : Ba Z h a ty n f) : a < h.size := by obtain ⟨c, A, -⟩ := F; exact A.lt
theorem Ba.ext {h' : Heap} {a : Addr} {ty : FieldType} {n : Nat} {f : Nat → Int32} (F : Ba Z h a ty n f) (E : Ext h h') : Ba Z h' a ty n f := by obtain ⟨c, A, r⟩ := F; exact ⟨c, A.ext E, r⟩
theorem Ba.other {h' : Heap} {a b : Addr} {ty : FieldType} {n sl : Nat} {v : Value} {f : Nat → Int32} (F : Ba Z h a ty n f) (W : Wr h h' b sl v) (q : a ≠ b) : Ba Z h' a ty n f := by obtain ⟨c, A, r⟩ := F; exact ⟨c, A.other W q, r⟩
theorem Ba.keep {h' : Heap} {a : Addr} {ty : FieldType} {n : Nat} {ws : List Addr} {f : Nat → Int32} (F : Ba Z h a ty n f) (K : Keep h h' ws) (q : a ∉ ws) : Ba Z h' a ty n f := by obtain ⟨c, A, r⟩ := F; exact ⟨c, ⟨K.2.1 a c A.1 q, A.2⟩, r⟩
theorem Ba.same {h' : Heap} {a : Addr} {ty : FieldType} {n j : Nat} {v : Int32} {f : Nat → Int32} (F : Ba Z h a ty n f) (W : Wr h h' a j (.int v)) : Ba Z h' a ty n (upd f j v) := by
  obtain ⟨c, A, hs, hn, hf⟩ := F
  refine ⟨_, A.same W, by simp [Cell.setSlot, hs], hn, fun k hk => ?_⟩
  rw [upd_eq]
  by_cases q : k = j
  · subst q; simp [Cell.setSlot, hs, hk]
  · rw [if_neg q]; simp only [Cell.setSlot]; rw [Array.getElem?_setIfInBounds_ne (Ne.symm q)]; exact hf k hk
theorem Ba.cong {a : Addr} {ty : FieldType} {n : Nat} {f f' : Nat → Int32} (F : Ba Z h a ty n f) (q : ∀ k, k < n → f k = f' k) : Ba Z h a ty n f' := by
  obtain ⟨c, A, hs, hn, hf⟩ := F
  exact ⟨c, A, hs, hn, fun k hk => by rw [← q k hk]; exact hf k hk⟩
theorem Ba.new {a : Addr} {cA : ClassId} {ty : FieldType} {z : Int32} {n : Nat} (A : Arr Z h a (newA cA ty z) ty) (hz : z.toInt = n) (hd : defaultValue ty = .int 0) : Ba Z h a ty n (fun _ => 0) := by
  have hr := rng32 z
  have hn : z.toNatClampNeg = n := by simp only [Int32.toNatClampNeg, hz]; rfl
  exact ⟨_, A, by rw [sz_new, hn], by omega, fun k hk => by simp [newA, hn, hk, hd]⟩
theorem own_clamp {j : Int32} {k : Nat} (hj : j.toInt = k) : j.toNatClampNeg = k ∧ ¬ j < 0 := by
  refine ⟨by simp only [Int32.toNatClampNeg, hj]; rfl, fun r => ?_⟩
  have := Int32.lt_iff_toInt_lt.mp r
  rw [hj, own_z0] at this; omega
theorem own_in {j : Int32} {k n : Nat} {c : Cell} (hs : c.slots.size = n) (hj : j.toInt = k) (hk : k < n) : ¬ (j < 0 ∨ c.slots.size ≤ j.toNatClampNeg) := by
  obtain ⟨h1, h2⟩ := own_clamp hj
  rw [h1, hs]; intro r; rcases r with r | r
  · exact h2 r
  · omega
theorem own_lenI {n : Nat} (hn : n < 2 ^ 31) : (n.toInt32).toInt = n := by
  have := len_toInt hn
  exact this
theorem own_narByte {b : Int32} (h0 : -128 ≤ b.toInt) (h1 : b.toInt < 128) : b.toInt8.toInt32 = b := by
  have := c_i2b b
  exact Int32.toInt_inj.mp (by omega)
theorem own_fitB {x : Int32} (h0 : -128 ≤ x.toInt) (h1 : x.toInt < 128) : fits .byte (.int x) = true := by
  have e := own_narByte h0 h1
  rw [← e]; exact fits_nar_byte x

theorem g_callS (q : Nat) (hq : pc + 3 = q) (C : Ctx p s m meth c Z own nm bytes ml rt) (X : Stand p l e R s m args below meth c T locs cells slots) {y : MethodName} {bytes' : ByteArray} {maxL' : Nat} {ret' : Option FieldType} {rm : Room} {Q' : Option Value → Heap → List Loc → Prop} {i W : Nat} {argsL : List Value} (w1 : (Cond.methodLink own i y).before a0 Z = true) (w2 : (Cond.static y).before a0 Z = true) (wc : (Cond.code y bytes' maxL' ret').before a0 Z = true) (wz : (Cond.initialized y.cls).before a0 Z = true) (eT : T.heap = h) (M : MetFree l y (head1 [Cond.code y bytes' maxL' ret'] rm) (fun a' U => a' = argsL.toArray ∧ Z.Warmed39 U.vm ∧ U.heap = h) (fun _ _ _ _ _ => True) (fun _ U o U' => ∃ v L, o = .returned v ∧ Q' v U'.heap L ∧ FrameEnd U o U' L rm.cells rm.slots)) (hlen : ∀ sig, parseMethodDescriptor y.desc = some sig → argsL.length = sig.parameters.length) (hf : rm.frames + 1 ≤ R.frames) (hl : W + (maxL' + 11) + rm.locals ≤ R.locals) (hc : cells + rm.cells ≤ R.cells) (hsl : slots + rm.slots ≤ R.slots) (hsz : Ls.size = ml) (hW : (St.map fun v => v.category).sum ≤ W) (hy : y.cls ≠ "java/lang/invoke/MethodHandle" ∧ y.cls ≠ "java/lang/invoke/VarHandle") (hd : decode bytes pc = .ok (.invokestatic i, 3)) {St0 : List Value} (hst : St0 = argsL.reverse ++ St)
    (k : ∀ v T' L, Stand p l e R s m args below meth c T' (locs ++ L) (cells + rm.cells) (slots + rm.slots) → Q' v T'.heap L → Goes p e below E T' m q Ls (v.toList ++ St)) : Goes p e below E T m pc Ls St0 := by
  subst hq hst
  obtain ⟨v, _, ⟨T', L', k', n'⟩, -, X', ⟨Lc, hQ', l', y', z'⟩, st⟩ := Jvm.LawKit.callS X C.c_x (y := y) C.c_own (mvT C.c_z w1) (mvT C.c_z w2) (mvT C.c_z wz) (mvT C.c_z wc) hy (backOf (W := W) M C.c_z wc wz hf hl) (g := mkF m pc Ls (argsL.reverse ++ St)) rfl (hsz.trans C.c_ml.symm) (argsL := argsL) (rest := St) hlen rfl (by show 2 * 0 + _ ≤ _; omega) (hb C.c_by hd) (fun _ _ => ⟨rfl, eT, hc, hsl⟩)
  dsimp only [Pt.U, Pt.locs, Pt.cells, Pt.slots] at X' l' y' z' st hQ'
  subst l' y' z'
  exact (k v T' Lc X' hQ').back fun t kt => st t kt
theorem g_callN (q : Nat) (hq : pc + 3 = q) (C : Ctx p s m meth c Z own nm bytes ml rt) (X : Stand p l e R s m args below meth c T locs cells slots) {y : MethodName} {bytes' : ByteArray} {maxL' : Nat} {ret' : Option FieldType} {rm : Room} {Q' : Option Value → Heap → List Loc → Prop} {i W : Nat} {a : Addr} {argsL : List Value} (hy1 : y.name = "<init>") (hre : ret' = none) (w1 : (Cond.methodLink own i y).before a0 Z = true) (w2 : (Cond.instanceMethod y).before a0 Z = true) (wc : (Cond.code y bytes' maxL' ret').before a0 Z = true) (wz : (Cond.initialized y.cls).before a0 Z = true) (eT : T.heap = h) (M : MetFree l y (head1 [Cond.code y bytes' maxL' ret'] rm) (fun a' U => a' = (.ref a :: argsL).toArray ∧ Z.Warmed39 U.vm ∧ U.heap = h) (fun _ _ _ _ _ => True) (fun _ U o U' => ∃ v L, o = .returned v ∧ Q' v U'.heap L ∧ FrameEnd U o U' L rm.cells rm.slots)) (hlen : ∀ sig, parseMethodDescriptor y.desc = some sig → argsL.length = sig.parameters.length) (hf : rm.frames + 1 ≤ R.frames) (hl : W + (maxL' + 11) + rm.locals ≤ R.locals) (hc : cells + rm.cells ≤ R.cells) (hsl : slots + rm.slots ≤ R.slots) (hsz : Ls.size = ml) (hW : (St.map fun v => v.category).sum ≤ W) (hy : y.cls ≠ "java/lang/invoke/MethodHandle" ∧ y.cls ≠ "java/lang/invoke/VarHandle") (hd : decode bytes pc = .ok (.invokespecial i, 3)) {St0 : List Value} (hst : St0 = argsL.reverse ++ .ref a :: St)
    (k : ∀ v T' L, Stand p l e R s m args below meth c T' (locs ++ L) (cells + rm.cells) (slots + rm.slots) → Q' v T'.heap L → Goes p e below E T' m q Ls (v.toList ++ St)) : Goes p e below E T m pc Ls St0 := by
  subst hq hst hre
  obtain ⟨v, _, ⟨T', L', k', n'⟩, -, X', ⟨Lc, hQ', l', y', z'⟩, st⟩ := X.specialBack C.c_x (y := y) hy1 C.c_own (mvT C.c_z w1) (mvT C.c_z w2) (mvT C.c_z wc) hy (backOf (W := W) M C.c_z wc wz hf hl) (g := mkF m pc Ls (argsL.reverse ++ .ref a :: St)) rfl (hsz.trans C.c_ml.symm) (Steps.refl _) (a := a) (argsL := argsL) (rest := St) hlen rfl (by show 2 * 0 + _ ≤ _; omega) (hb C.c_by hd) (fun _ _ => ⟨rfl, eT, hc, hsl⟩)
  dsimp only [Pt.U, Pt.locs, Pt.cells, Pt.slots] at X' l' y' z' st hQ'
  subst l' y' z'
  exact (k v T' Lc X' hQ').back fun t kt => st.trans kt
theorem g_callV (q : Nat) (hq : pc + 3 = q) (C : Ctx p s m meth c Z own nm bytes ml rt) (X : Stand p l e R s m args below meth c T locs cells slots) {y : MethodName} {bytes' : ByteArray} {maxL' : Nat} {ret' : Option FieldType} {rm : Room} {Q' : Option Value → Heap → List Loc → Prop} {i W : Nat} {K : String} {a : Addr} {argsL : List Value} (w1 : (Cond.methodLink own i y).before a0 Z = true) (w2 : (Cond.declares y).before a0 Z = true) (w3 : (Cond.selects K y y).before a0 Z = true) (w4 : (Cond.instanceMethod y).before a0 Z = true) (wc : (Cond.code y bytes' maxL' ret').before a0 Z = true) (wz : (Cond.initialized y.cls).before a0 Z = true) (eT : T.heap = h) (EX : Exa Z h a K) (M : MetFree l y (head1 [Cond.code y bytes' maxL' ret'] rm) (fun a' U => a' = (.ref a :: argsL).toArray ∧ Z.Warmed39 U.vm ∧ U.heap = h) (fun _ _ _ _ _ => True) (fun _ U o U' => ∃ v L, o = .returned v ∧ Q' v U'.heap L ∧ FrameEnd U o U' L rm.cells rm.slots)) (hlen : ∀ sig, parseMethodDescriptor y.desc = some sig → argsL.length = sig.parameters.length) (hf : rm.frames + 1 ≤ R.frames) (hl : W + (maxL' + 11) + rm.locals ≤ R.locals) (hc : cells + rm.cells ≤ R.cells) (hsl : slots + rm.slots ≤ R.slots) (hsz : Ls.size = ml) (hW : (St.map fun v => v.category).sum ≤ W) (hy : y.cls ≠ "java/lang/invoke/MethodHandle" ∧ y.cls ≠ "java/lang/invoke/VarHandle") (hd : decode bytes pc = .ok (.invokevirtual i, 3)) {St0 : List Value} (hst : St0 = argsL.reverse ++ .ref a :: St)
    (k : ∀ v T' L, Stand p l e R s m args below meth c T' (locs ++ L) (cells + rm.cells) (slots + rm.slots) → Q' v T'.heap L → Goes p e below E T' m q Ls (v.toList ++ St)) : Goes p e below E T m pc Ls St0 := by
  subst hq hst
  obtain ⟨cB, kB, q1, q2, q3⟩ := isOf C.c_z eT EX
  obtain ⟨v, _, ⟨T', L', k', n'⟩, -, X', ⟨Lc, hQ', l', y', z'⟩, st⟩ := X.virtualBack C.c_x (y := y) (z := y) C.c_own (mvT C.c_z w1) (mvT C.c_z w2) (notFace_of_selects (args := #[]) (mvT C.c_z w3)) (mvT C.c_z w3) (mvT C.c_z w4) hy (backOf (W := W) M C.c_z wc wz hf hl) q1 q3 (g := mkF m pc Ls (argsL.reverse ++ .ref a :: St)) rfl (hsz.trans C.c_ml.symm) (Steps.refl _) (argsL := argsL) (rest := St) hlen rfl (by show 2 * 0 + _ ≤ _; omega) (hb C.c_by hd) (fun _ _ => ⟨rfl, eT, hc, hsl⟩)
  dsimp only [Pt.U, Pt.locs, Pt.cells, Pt.slots] at X' l' y' z' st hQ'
  subst l' y' z'
  exact (k v T' Lc X' hQ').back fun t kt => st.trans kt
end Own
section OwnArith
theorem own_mulc (x y : Int32) (k : Int) (hk : y.toInt = k) : ((x * y).toInt - x.toInt * k) % 4294967296 = 0 := hk ▸ c_imul x y
theorem own_mulc' (x y : Int32) (k : Int) (hk : x.toInt = k) : ((x * y).toInt - k * y.toInt) % 4294967296 = 0 := hk ▸ c_imul x y
theorem own_lmulc (x y : Int64) (k : Int) (hk : y.toInt = k) : ((x * y).toInt - x.toInt * k) % 18446744073709551616 = 0 := hk ▸ c_lmul x y
theorem own_lmulc' (x y : Int64) (k : Int) (hk : x.toInt = k) : ((x * y).toInt - k * y.toInt) % 18446744073709551616 = 0 := hk ▸ c_lmul x y
theorem own_bvor (x y : BitVec 32) : (x ||| y) + (x &&& y) = x + y := by
  have h1 : x = (x &&& y) + (x &&& ~~~y) := by
    rw [BitVec.add_eq_or_of_and_eq_zero]
    · ext i; simp; cases x[i] <;> cases y[i] <;> rfl
    · ext i; simp; cases x[i] <;> cases y[i] <;> simp
  have h2 : x ||| y = y + (x &&& ~~~y) := by
    rw [BitVec.add_eq_or_of_and_eq_zero]
    · ext i; simp; cases x[i] <;> cases y[i] <;> rfl
    · ext i; simp; cases x[i] <;> cases y[i] <;> simp
  rw [h2]
  conv => rhs; rw [h1]
  ac_rfl
theorem own_or0 (x y : Int32) : (x ||| y) + (x &&& y) = x + y := Int32.toBitVec_inj.mp (by simpa using own_bvor x.toBitVec y.toBitVec)
theorem own_or (x y : Int32) : ((x ||| y).toInt + (x &&& y).toInt - (x.toInt + y.toInt)) % 4294967296 = 0 := by
  have h1 := c_iadd (x ||| y) (x &&& y)
  have h2 := c_iadd x y
  rw [own_or0] at h1; omega
theorem own_bvblk (x m a b : BitVec 32) (h1 : m ||| a = b) (h2 : m &&& a = 0#32) : (x &&& m) + (x &&& a) = x &&& b := by
  rw [BitVec.add_eq_or_of_and_eq_zero, ← h1]
  · ext i; simp; cases x[i] <;> simp
  · have : (x &&& m) &&& (x &&& a) = x &&& (m &&& a) := by ext i; simp; cases x[i] <;> simp
    rw [this, h2]; simp
theorem own_blk (x m a b : Int32) (h1 : m ||| a = b) (h2 : m &&& a = 0) : ((x &&& m).toInt + (x &&& a).toInt - (x &&& b).toInt) % 4294967296 = 0 := by
  have e : (x &&& m) + (x &&& a) = x &&& b := Int32.toBitVec_inj.mp (by
    have q1 := congrArg Int32.toBitVec h1
    have q2 := congrArg Int32.toBitVec h2
    simpa using own_bvblk x.toBitVec m.toBitVec a.toBitVec b.toBitVec (by simpa using q1) (by simpa using q2))
  have := c_iadd (x &&& m) (x &&& a)
  rw [e] at this; omega
theorem own_andM1 (x : Int32) : x &&& (-1) = x := Int32.toBitVec_inj.mp (by ext i; simp)
theorem own_narZ {b : Int32} (hb : b.toInt = 0 ∨ b.toInt = 1) : nar .boolean b = b := by
  have : b = 0 ∨ b = 1 := by
    rcases hb with q | q
    · exact Or.inl (Int32.toInt_inj.mp q)
    · exact Or.inr (Int32.toInt_inj.mp q)
  rcases this with rfl | rfl <;> decide
theorem own_narC {b : Int32} (h0 : 0 ≤ b.toInt) (h1 : b.toInt < 65536) : nar .char b = b := by
  have := c_i2c b
  exact Int32.toInt_inj.mp (by show b.toUInt32.toUInt16.toUInt32.toInt32.toInt = _; omega)
theorem own_narB {b : Int32} (h0 : -128 ≤ b.toInt) (h1 : b.toInt < 128) : nar .byte b = b := by
  have := c_i2b b
  exact Int32.toInt_inj.mp (by show b.toInt8.toInt32.toInt = _; omega)
theorem own_eq {x y : Int32} (q : x.toInt = y.toInt) : x = y := Int32.toInt_inj.mp q
theorem own_eqL {x y : Int64} (q : x.toInt = y.toInt) : x = y := Int64.toInt_inj.mp q
end OwnArith


theorem d3_0 : decode jdk_30_method_1_code 0 = .ok (.aload_n 0, 1) := by decide +kernel
theorem d3_1 : decode jdk_30_method_1_code 1 = .ok (.invokespecial 1, 3) := by decide +kernel
theorem d3_4 : decode jdk_30_method_1_code 4 = .ok (.return_, 1) := by decide +kernel
theorem pn_16976308 : plainName "java/lang/Record" = true := by first | (simp [plainName, overriddenIn]; done) | decide +kernel
theorem ef_3 (m : MethodId) (b0 : Addr) : entryFrame m #[(.ref b0)] 1 = mkF m 0 #[.val (.ref b0)] [] := by first | (simp [entryFrame, mkF, argsToLocals, Value.category]; done) | rfl
def Q3 (Z : State) (b0 : Addr) (h0 : Heap) (n0 : Nat) (v : Option Value) (h : Heap) (L : List Loc) : Prop := v = none ∧ Fr n0 L ∧ h = h0
set_option maxRecDepth 65536 in
set_option maxHeartbeats 40000000 in
theorem rm3 (l : Launch) (Z : State) (a0 : Array Value) (hw : ∀ d ∈ tables_1, d.before a0 Z = true) (ws : List Jvm.Cond) (b0 : Addr) (h0 : Heap) (n0 : Nat) (Z0 : n0 ≤ h0.size) :
    MetFree l (⟨"java/lang/Record", "<init>", "()V"⟩ : MethodName) (head1 (Jvm.Cond.code (⟨"java/lang/Record", "<init>", "()V"⟩ : MethodName) jdk_30_method_1_code 1 none :: ws) ({ frames := 1, cells := 0, slots := 0, locals := 12 } : Room)) (fun a U => a = #[(.ref b0)] ∧ Z.Warmed39 U.vm ∧ U.heap = h0) (fun _ _ _ _ _ => True) (fun _ U o U' => ∃ v L, o = .returned v ∧ Q3 Z b0 h0 n0 v U'.heap L ∧ FrameEnd U o U' L ({ frames := 1, cells := 0, slots := 0, locals := 12 } : Room).cells ({ frames := 1, cells := 0, slots := 0, locals := 12 } : Room).slots) := by
  refine MetFree.of_bodySF (plainFor_of_name pn_16976308) hisR ?_
  intro p e s m args below meth c s₁ Bd hml0 hP hK
  obtain ⟨rfl, hZ, hh⟩ := hP
  have C : Ctx p s m meth c Z "java/lang/Record" "<init>" jdk_30_method_1_code 1 none := Ctx.of Bd hml0 hZ
  have X0 : Stand p l e ({ frames := 1, cells := 0, slots := 0, locals := 12 } : Room) s m #[(.ref b0)] below meth c s₁ [] 0 0 := Stand.of_body Bd
  have e0 : s₁.heap = h0 := by rw [← hh, Bd.state]; rfl
  have N0 := Fr.nil n0
  refine Goes.enter (ef_3 m b0) ?_
  clear hK hml0 hh
  refine g_aloadN 1 rfl C X0 d3_0 rfl rfl ?_
  refine g_initO 4 rfl C X0 (hw _ (List.mem_of_getElem? (i := 16) rfl)) (hw _ (List.mem_of_getElem? (i := 17) rfl)) (hw _ (List.mem_of_getElem? (i := 18) rfl)) e0 d3_1 rfl (by decide) (W := 0) (Nat.le_of_eq rfl) (by decide) fun T1 X2 e3 => ?_
  exact g_retV C X2 rfl d3_4 e3 (by decide) (by decide) ⟨rfl, N0, rfl⟩
theorem d1_0 : decode jdk_29_method_65_code 0 = .ok (.iload_n 0, 1) := by decide +kernel
theorem d1_1 : decode jdk_29_method_65_code 1 = .ok (.iload_n 1, 1) := by decide +kernel
theorem d1_2 : decode jdk_29_method_65_code 2 = .ok (.if_icmp .lt 7, 3) := by decide +kernel
theorem d1_9 : decode jdk_29_method_65_code 9 = .ok (.iload_n 1, 1) := by decide +kernel
theorem d1_10 : decode jdk_29_method_65_code 10 = .ok (.ireturn, 1) := by decide +kernel
theorem d1_5 : decode jdk_29_method_65_code 5 = .ok (.iload_n 0, 1) := by decide +kernel
theorem d1_6 : decode jdk_29_method_65_code 6 = .ok (.goto 4, 3) := by decide +kernel
theorem ef_1 (m : MethodId) (p0 : Int32) (p1 : Int32) : entryFrame m #[(.int p0), (.int p1)] 2 = mkF m 0 #[.val (.int p0), .val (.int p1)] [] := by first | (simp [entryFrame, mkF, argsToLocals, Value.category]; done) | rfl
def Q1 (Z : State) (p0 : Int32) (p1 : Int32) (h0 : Heap) (n0 : Nat) (v : Option Value) (h : Heap) (L : List Loc) : Prop := ∃ r : Int32, v = some (.int r) ∧ (p0.toInt ≤ r.toInt ∧ p1.toInt ≤ r.toInt ∧ (r.toInt = p0.toInt ∨ r.toInt = p1.toInt)) ∧ Fr n0 L ∧ h = h0
set_option maxRecDepth 65536 in
set_option maxHeartbeats 40000000 in
theorem rm1 (l : Launch) (Z : State) (a0 : Array Value) (hw : ∀ d ∈ tables_1, d.before a0 Z = true) (ws : List Jvm.Cond) (p0 : Int32) (p1 : Int32) (h0 : Heap) (n0 : Nat) (Z0 : n0 ≤ h0.size) :
    MetFree l (⟨"java/lang/Math", "max", "(II)I"⟩ : MethodName) (head1 (Jvm.Cond.code (⟨"java/lang/Math", "max", "(II)I"⟩ : MethodName) jdk_29_method_65_code 2 (some .int) :: ws) ({ frames := 0, cells := 0, slots := 0, locals := 0 } : Room)) (fun a U => a = #[(.int p0), (.int p1)] ∧ Z.Warmed39 U.vm ∧ U.heap = h0) (fun _ _ _ _ _ => True) (fun _ U o U' => ∃ v L, o = .returned v ∧ Q1 Z p0 p1 h0 n0 v U'.heap L ∧ FrameEnd U o U' L ({ frames := 0, cells := 0, slots := 0, locals := 0 } : Room).cells ({ frames := 0, cells := 0, slots := 0, locals := 0 } : Room).slots) := by
  refine MetFree.of_bodySF (Jvm.Free.JP.mathPlain rfl (by decide +kernel)) hisR ?_
  intro p e s m args below meth c s₁ Bd hml0 hP hK
  obtain ⟨rfl, hZ, hh⟩ := hP
  have C : Ctx p s m meth c Z "java/lang/Math" "max" jdk_29_method_65_code 2 (some .int) := Ctx.of Bd hml0 hZ
  have X0 : Stand p l e ({ frames := 0, cells := 0, slots := 0, locals := 0 } : Room) s m #[(.int p0), (.int p1)] below meth c s₁ [] 0 0 := Stand.of_body Bd
  have e0 : s₁.heap = h0 := by rw [← hh, Bd.state]; rfl
  have N0 := Fr.nil n0
  refine Goes.enter (ef_1 m p0 p1) ?_
  clear hK hml0 hh
  refine g_iloadN 1 rfl C X0 d1_0 rfl ?_
  refine g_iloadN 2 rfl C X0 d1_1 rfl ?_
  by_cases hb1 : p0.toInt < p1.toInt
  · skip
    refine g_icmp_lt_t 9 C X0 d1_2 (by decide) (by decide) hb1 ?_
    refine g_iloadN 10 rfl C X0 d1_9 rfl ?_
    have fr2 := rng32 p0
    have fr3 := rng32 p1
    exact g_retI C X0 rfl d1_10 e0 (by decide) (by decide) ⟨_, rfl, by omega, N0, rfl⟩
  · skip
    refine g_icmp_lt_f 5 rfl C X0 d1_2 hb1 ?_
    refine g_iloadN 6 rfl C X0 d1_5 rfl ?_
    refine g_goto 10 C X0 d1_6 (by decide) (by decide) ?_
    have fr4 := rng32 p0
    have fr5 := rng32 p1
    exact g_retI C X0 rfl d1_10 e0 (by decide) (by decide) ⟨_, rfl, by omega, N0, rfl⟩
theorem d7_0 : decode prog_63_method_4_code 0 = .ok (.iload_n 0, 1) := by decide +kernel
theorem d7_1 : decode prog_63_method_4_code 1 = .ok (.iconst 2, 1) := by decide +kernel
theorem d7_2 : decode prog_63_method_4_code 2 = .ok (.if_icmp .lt 19, 3) := by decide +kernel
theorem d7_21 : decode prog_63_method_4_code 21 = .ok (.iconst 0, 1) := by decide +kernel
theorem d7_22 : decode prog_63_method_4_code 22 = .ok (.ireturn, 1) := by decide +kernel
theorem d7_5 : decode prog_63_method_4_code 5 = .ok (.iload_n 0, 1) := by decide +kernel
theorem d7_6 : decode prog_63_method_4_code 6 = .ok (.sipush 512, 3) := by decide +kernel
theorem d7_9 : decode prog_63_method_4_code 9 = .ok (.if_icmp .gt 12, 3) := by decide +kernel
theorem d7_12 : decode prog_63_method_4_code 12 = .ok (.iload_n 1, 1) := by decide +kernel
theorem d7_13 : decode prog_63_method_4_code 13 = .ok (.iconst 1, 1) := by decide +kernel
theorem d7_14 : decode prog_63_method_4_code 14 = .ok (.if_icmp .lt 7, 3) := by decide +kernel
theorem d7_17 : decode prog_63_method_4_code 17 = .ok (.iconst 1, 1) := by decide +kernel
theorem d7_18 : decode prog_63_method_4_code 18 = .ok (.goto 4, 3) := by decide +kernel
theorem pn_41043831 : plainName "com/example/cairn_search/cairnsearch/vector/Graph" = true := by first | (simp [plainName, overriddenIn]; done) | decide +kernel
theorem ef_7 (m : MethodId) (p0 : Int32) (p1 : Int32) : entryFrame m #[(.int p0), (.int p1)] 2 = mkF m 0 #[.val (.int p0), .val (.int p1)] [] := by first | (simp [entryFrame, mkF, argsToLocals, Value.category]; done) | rfl
def Q7 (Z : State) (p0 : Int32) (p1 : Int32) (h0 : Heap) (n0 : Nat) (v : Option Value) (h : Heap) (L : List Loc) : Prop := ∃ r : Int32, v = some (.int r) ∧ ((r.toInt = 1 ∧ (2 ≤ p0.toInt ∧ p0.toInt ≤ 512 ∧ 1 ≤ p1.toInt)) ∨ (r.toInt = 0 ∧ ¬ (2 ≤ p0.toInt ∧ p0.toInt ≤ 512 ∧ 1 ≤ p1.toInt))) ∧ Fr n0 L ∧ h = h0
set_option maxRecDepth 65536 in
set_option maxHeartbeats 40000000 in
theorem rm7 (l : Launch) (Z : State) (a0 : Array Value) (hw : ∀ d ∈ tables_1, d.before a0 Z = true) (ws : List Jvm.Cond) (p0 : Int32) (p1 : Int32) (h0 : Heap) (n0 : Nat) (Z0 : n0 ≤ h0.size) :
    MetFree l (⟨"com/example/cairn_search/cairnsearch/vector/Graph", "isHnsw", "(II)Z"⟩ : MethodName) (head1 (Jvm.Cond.code (⟨"com/example/cairn_search/cairnsearch/vector/Graph", "isHnsw", "(II)Z"⟩ : MethodName) prog_63_method_4_code 2 (some .boolean) :: ws) ({ frames := 0, cells := 0, slots := 0, locals := 0 } : Room)) (fun a U => a = #[(.int p0), (.int p1)] ∧ Z.Warmed39 U.vm ∧ U.heap = h0) (fun _ _ _ _ _ => True) (fun _ U o U' => ∃ v L, o = .returned v ∧ Q7 Z p0 p1 h0 n0 v U'.heap L ∧ FrameEnd U o U' L ({ frames := 0, cells := 0, slots := 0, locals := 0 } : Room).cells ({ frames := 0, cells := 0, slots := 0, locals := 0 } : Room).slots) := by
  refine MetFree.of_bodySF (plainFor_of_name pn_41043831) hisR ?_
  intro p e s m args below meth c s₁ Bd hml0 hP hK
  obtain ⟨rfl, hZ, hh⟩ := hP
  have C : Ctx p s m meth c Z "com/example/cairn_search/cairnsearch/vector/Graph" "isHnsw" prog_63_method_4_code 2 (some .boolean) := Ctx.of Bd hml0 hZ
  have X0 : Stand p l e ({ frames := 0, cells := 0, slots := 0, locals := 0 } : Room) s m #[(.int p0), (.int p1)] below meth c s₁ [] 0 0 := Stand.of_body Bd
  have e0 : s₁.heap = h0 := by rw [← hh, Bd.state]; rfl
  have N0 := Fr.nil n0
  refine Goes.enter (ef_7 m p0 p1) ?_
  clear hK hml0 hh
  refine g_iloadN 1 rfl C X0 d7_0 rfl ?_
  refine g_iconst 2 rfl C X0 (2 : Int32) d7_1 rfl ?_
  by_cases hb1 : p0.toInt < (2 : Int32).toInt
  · skip
    refine g_icmp_lt_t 21 C X0 d7_2 (by decide) (by decide) hb1 ?_
    refine g_iconst 22 rfl C X0 (0 : Int32) d7_21 rfl ?_
    have fr2 := rng32 p0
    have fc3 : (2 : Int32).toInt = 2 := rfl
    have fc4 : (0 : Int32).toInt = 0 := rfl
    exact g_retN C X0 (z' := (0 : Int32)) rfl (Or.inl rfl) d7_22 e0 (by decide) (by decide) rfl ⟨_, rfl, by omega, N0, rfl⟩
  · skip
    refine g_icmp_lt_f 5 rfl C X0 d7_2 hb1 ?_
    refine g_iloadN 6 rfl C X0 d7_5 rfl ?_
    refine g_sipush 9 rfl C X0 (512 : Int32) d7_6 rfl ?_
    by_cases hb5 : (512 : Int32).toInt < p0.toInt
    · skip
      refine g_icmp_gt_t 21 C X0 d7_9 (by decide) (by decide) hb5 ?_
      refine g_iconst 22 rfl C X0 (0 : Int32) d7_21 rfl ?_
      have fr6 := rng32 p0
      have fc7 : (2 : Int32).toInt = 2 := rfl
      have fc8 : (512 : Int32).toInt = 512 := rfl
      have fc9 : (0 : Int32).toInt = 0 := rfl
      exact g_retN C X0 (z' := (0 : Int32)) rfl (Or.inl rfl) d7_22 e0 (by decide) (by decide) rfl ⟨_, rfl, by omega, N0, rfl⟩
    · skip
      refine g_icmp_gt_f 12 rfl C X0 d7_9 hb5 ?_
      refine g_iloadN 13 rfl C X0 d7_12 rfl ?_
      refine g_iconst 14 rfl C X0 (1 : Int32) d7_13 rfl ?_
      by_cases hb10 : p1.toInt < (1 : Int32).toInt
      · skip
        refine g_icmp_lt_t 21 C X0 d7_14 (by decide) (by decide) hb10 ?_
        refine g_iconst 22 rfl C X0 (0 : Int32) d7_21 rfl ?_
        have fr11 := rng32 p0
        have fc12 : (2 : Int32).toInt = 2 := rfl
        have fc13 : (512 : Int32).toInt = 512 := rfl
        have fr14 := rng32 p1
        have fc15 : (1 : Int32).toInt = 1 := rfl
        have fc16 : (0 : Int32).toInt = 0 := rfl
        exact g_retN C X0 (z' := (0 : Int32)) rfl (Or.inl rfl) d7_22 e0 (by decide) (by decide) rfl ⟨_, rfl, by omega, N0, rfl⟩
      · skip
        refine g_icmp_lt_f 17 rfl C X0 d7_14 hb10 ?_
        refine g_iconst 18 rfl C X0 (1 : Int32) d7_17 rfl ?_
        refine g_goto 22 C X0 d7_18 (by decide) (by decide) ?_
        have fr17 := rng32 p0
        have fc18 : (2 : Int32).toInt = 2 := rfl
        have fc19 : (512 : Int32).toInt = 512 := rfl
        have fr20 := rng32 p1
        have fc21 : (1 : Int32).toInt = 1 := rfl
        exact g_retN C X0 (z' := (1 : Int32)) rfl (Or.inl rfl) d7_22 e0 (by decide) (by decide) rfl ⟨_, rfl, by omega, N0, rfl⟩
theorem d2_0 : decode prog_63_method_1_code 0 = .ok (.aload_n 0, 1) := by decide +kernel
theorem d2_1 : decode prog_63_method_1_code 1 = .ok (.invokespecial 1, 3) := by decide +kernel
theorem pd_16428534 : parseMethodDescriptor "()V" = some ⟨[], none⟩ := by decide +kernel
theorem d2_4 : decode prog_63_method_1_code 4 = .ok (.iload_n 1, 1) := by decide +kernel
theorem d2_5 : decode prog_63_method_1_code 5 = .ok (.ifCond .ne 7, 3) := by decide +kernel
theorem d2_8 : decode prog_63_method_1_code 8 = .ok (.iload_n 2, 1) := by decide +kernel
theorem d2_9 : decode prog_63_method_1_code 9 = .ok (.ifCond .eq 17, 3) := by decide +kernel
theorem d2_26 : decode prog_63_method_1_code 26 = .ok (.aload_n 0, 1) := by decide +kernel
theorem d2_27 : decode prog_63_method_1_code 27 = .ok (.iload_n 1, 1) := by decide +kernel
theorem d2_28 : decode prog_63_method_1_code 28 = .ok (.putfield 17, 3) := by decide +kernel
theorem d2_31 : decode prog_63_method_1_code 31 = .ok (.aload_n 0, 1) := by decide +kernel
theorem d2_32 : decode prog_63_method_1_code 32 = .ok (.iload_n 2, 1) := by decide +kernel
theorem d2_33 : decode prog_63_method_1_code 33 = .ok (.putfield 21, 3) := by decide +kernel
theorem d2_36 : decode prog_63_method_1_code 36 = .ok (.return_, 1) := by decide +kernel
theorem d2_12 : decode prog_63_method_1_code 12 = .ok (.iload_n 1, 1) := by decide +kernel
theorem d2_13 : decode prog_63_method_1_code 13 = .ok (.iload_n 2, 1) := by decide +kernel
theorem d2_14 : decode prog_63_method_1_code 14 = .ok (.invokestatic 7, 3) := by decide +kernel
theorem pd_1793254 : parseMethodDescriptor "(II)Z" = some ⟨[.int, .int], some .boolean⟩ := by decide +kernel
theorem d2_17 : decode prog_63_method_1_code 17 = .ok (.ifCond .ne 9, 3) := by decide +kernel
theorem ef_2 (m : MethodId) (b0 : Addr) (p1 : Int32) (p2 : Int32) : entryFrame m #[(.ref b0), (.int p1), (.int p2)] 3 = mkF m 0 #[.val (.ref b0), .val (.int p1), .val (.int p2)] [] := by first | (simp [entryFrame, mkF, argsToLocals, Value.category]; done) | rfl
def Q2 (Z : State) (b0 : Addr) (p1 : Int32) (p2 : Int32) (h0 : Heap) (n0 : Nat) (v : Option Value) (h : Heap) (L : List Loc) : Prop := v = none ∧ Fr n0 L ∧ Keep h0 h [b0] ∧ Exa Z h b0 "com/example/cairn_search/cairnsearch/vector/Graph" ∧ Fld Z h b0 "com/example/cairn_search/cairnsearch/vector/Graph" "m" "I" (.int p1) ∧ Fld Z h b0 "com/example/cairn_search/cairnsearch/vector/Graph" "beamWidth" "I" (.int p2)
set_option maxRecDepth 65536 in
set_option maxHeartbeats 40000000 in
theorem rm2 (l : Launch) (Z : State) (a0 : Array Value) (hw : ∀ d ∈ tables_1, d.before a0 Z = true) (ws : List Jvm.Cond) (b0 : Addr) (p1 : Int32) (p2 : Int32) (h0 : Heap) (n0 : Nat) (Z0 : n0 ≤ h0.size) (E_b0 : Exa Z h0 b0 "com/example/cairn_search/cairnsearch/vector/Graph") (F_b0_m : Fld Z h0 b0 "com/example/cairn_search/cairnsearch/vector/Graph" "m" "I" (.int (0 : Int32))) (F_b0_beamWidth : Fld Z h0 b0 "com/example/cairn_search/cairnsearch/vector/Graph" "beamWidth" "I" (.int (0 : Int32))) (g_b0 : n0 ≤ b0) (q1 : (p1.toInt = 0 ∧ p2.toInt = 0) ∨ (2 ≤ p1.toInt ∧ p1.toInt ≤ 512 ∧ 1 ≤ p2.toInt)) :
    MetFree l (⟨"com/example/cairn_search/cairnsearch/vector/Graph", "<init>", "(II)V"⟩ : MethodName) (head1 (Jvm.Cond.code (⟨"com/example/cairn_search/cairnsearch/vector/Graph", "<init>", "(II)V"⟩ : MethodName) prog_63_method_1_code 3 none :: ws) ({ frames := 2, cells := 0, slots := 0, locals := 24 } : Room)) (fun a U => a = #[(.ref b0), (.int p1), (.int p2)] ∧ Z.Warmed39 U.vm ∧ U.heap = h0) (fun _ _ _ _ _ => True) (fun _ U o U' => ∃ v L, o = .returned v ∧ Q2 Z b0 p1 p2 h0 n0 v U'.heap L ∧ FrameEnd U o U' L ({ frames := 2, cells := 0, slots := 0, locals := 24 } : Room).cells ({ frames := 2, cells := 0, slots := 0, locals := 24 } : Room).slots) := by
  refine MetFree.of_bodySF (plainFor_of_name pn_41043831) hisR ?_
  intro p e s m args below meth c s₁ Bd hml0 hP hK
  obtain ⟨rfl, hZ, hh⟩ := hP
  have C : Ctx p s m meth c Z "com/example/cairn_search/cairnsearch/vector/Graph" "<init>" prog_63_method_1_code 3 none := Ctx.of Bd hml0 hZ
  have X0 : Stand p l e ({ frames := 2, cells := 0, slots := 0, locals := 24 } : Room) s m #[(.ref b0), (.int p1), (.int p2)] below meth c s₁ [] 0 0 := Stand.of_body Bd
  have e0 : s₁.heap = h0 := by rw [← hh, Bd.state]; rfl
  have N0 := Fr.nil n0
  refine Goes.enter (ef_2 m b0 p1 p2) ?_
  clear hK hml0 hh
  refine g_aloadN 1 rfl C X0 d2_0 rfl rfl ?_
  refine g_callN 4 rfl C X0 (argsL := []) rfl rfl (hw _ (List.mem_of_getElem? (i := 11) rfl)) (hw _ (List.mem_of_getElem? (i := 12) rfl)) (hw _ (List.mem_of_getElem? (i := 15) rfl)) (hw _ (List.mem_of_getElem? (i := 14) rfl)) e0 (rm3 l Z a0 hw [] b0 h0 n0 Z0) (lenOf pd_16428534 rfl) (by decide) (by decide) (by decide) (by decide) rfl (W := 0) (Nat.le_of_eq rfl) (by decide) d2_1 rfl fun r1 T2 Lc3 X4 hQ5 => ?_
  obtain ⟨rfl, Nq6, eh7⟩ := hQ5
  have N8 := Fr.app N0 Nq6
  show Goes _ _ _ _ _ _ 4 _ []
  refine g_iloadN 5 rfl C X4 d2_4 rfl ?_
  by_cases hb9 : p1.toInt = 0
  · skip
    refine g_if_ne_f 8 rfl C X4 d2_5 hb9 ?_
    refine g_iloadN 9 rfl C X4 d2_8 rfl ?_
    have fr10 := rng32 p1
    have fr11 := rng32 p2
    have hb12 : p2.toInt = 0 := by omega
    refine g_if_eq_t 26 C X4 d2_9 (by decide) (by decide) hb12 ?_
    refine g_aloadN 27 rfl C X4 d2_26 rfl rfl ?_
    refine g_iloadN 28 rfl C X4 d2_27 rfl ?_
    refine g_putF 31 rfl C X4 (host := "") (Or.inl (hw _ (List.mem_of_getElem? (i := 19) rfl))) Via.refl eh7 F_b0_m E_b0 (Or.inr ⟨(hw _ (List.mem_of_getElem? (i := 20) rfl)), rfl, rfl⟩) (hw _ (List.mem_of_getElem? (i := 6) rfl)) (ty := .int) (by decide) rfl rfl d2_28 N8 g_b0 fun T13 h14 ls15 X16 e17 W18 N19 => ?_
    have F20 : Fld Z h14 b0 "com/example/cairn_search/cairnsearch/vector/Graph" "m" "I" (.int p1) := F_b0_m.same W18
    have F21 := E_b0.wr W18
    have F22 := F_b0_beamWidth.other W18 (Or.inr (slot_ne (Or.inr (hw _ (List.mem_of_getElem? (i := 22) rfl))) (Or.inr (hw _ (List.mem_of_getElem? (i := 20) rfl))) (by decide) (t := .int) (t' := .int) (by decide) (by decide)))
    have Zs23 := Nat.le_trans Z0 (Nat.le_of_eq W18.size.symm)
    have Kp24 : Keep h0 h14 [b0] := (Keep.refl h0 [b0]).wr W18 (Or.inl (List.mem_of_getElem? (i := 0) rfl))
    refine g_aloadN 32 rfl C X16 d2_31 rfl rfl ?_
    refine g_iloadN 33 rfl C X16 d2_32 rfl ?_
    refine g_putF 36 rfl C X16 (host := "") (Or.inl (hw _ (List.mem_of_getElem? (i := 21) rfl))) Via.refl e17 F22 F21 (Or.inr ⟨(hw _ (List.mem_of_getElem? (i := 22) rfl)), rfl, rfl⟩) (hw _ (List.mem_of_getElem? (i := 6) rfl)) (ty := .int) (by decide) rfl rfl d2_33 N19 g_b0 fun T25 h26 ls27 X28 e29 W30 N31 => ?_
    have F32 : Fld Z h26 b0 "com/example/cairn_search/cairnsearch/vector/Graph" "beamWidth" "I" (.int p2) := F22.same W30
    have F33 := F21.wr W30
    have F34 := F20.other W30 (Or.inr (slot_ne (Or.inr (hw _ (List.mem_of_getElem? (i := 20) rfl))) (Or.inr (hw _ (List.mem_of_getElem? (i := 22) rfl))) (by decide) (t := .int) (t' := .int) (by decide) (by decide)))
    have Zs35 := Nat.le_trans Zs23 (Nat.le_of_eq W30.size.symm)
    have Kp36 : Keep h0 h26 [b0] := Kp24.wr W30 (Or.inl (List.mem_of_getElem? (i := 0) rfl))
    exact g_retV C X28 rfl d2_36 e29 (by decide) (by decide) ⟨rfl, N31, Kp36, F33, F34, F32⟩
  · skip
    refine g_if_ne_t 12 C X4 d2_5 (by decide) (by decide) hb9 ?_
    refine g_iloadN 13 rfl C X4 d2_12 rfl ?_
    refine g_iloadN 14 rfl C X4 d2_13 rfl ?_
    refine g_callS 17 rfl C X4 (argsL := [(.int p1), (.int p2)]) (hw _ (List.mem_of_getElem? (i := 33) rfl)) (hw _ (List.mem_of_getElem? (i := 34) rfl)) (hw _ (List.mem_of_getElem? (i := 35) rfl)) (hw _ (List.mem_of_getElem? (i := 7) rfl)) eh7 (rm7 l Z a0 hw [] p1 p2 h0 n0 Z0) (lenOf pd_1793254 rfl) (by decide) (by decide) (by decide) (by decide) rfl (W := 0) (Nat.le_of_eq rfl) (by decide) d2_14 rfl fun r37 T38 Lc39 X40 hQ41 => ?_
    obtain ⟨r42, rfl, hs43, Nq44, eh45⟩ := hQ41
    have N46 := Fr.app N8 Nq44
    show Goes _ _ _ _ _ _ 17 _ [(.int r42)]
    have fr47 := rng32 p1
    have fr48 := rng32 p2
    have fr49 := rng32 r42
    have hb50 : ¬ (r42.toInt = 0) := by omega
    refine g_if_ne_t 26 C X40 d2_17 (by decide) (by decide) hb50 ?_
    refine g_aloadN 27 rfl C X40 d2_26 rfl rfl ?_
    refine g_iloadN 28 rfl C X40 d2_27 rfl ?_
    refine g_putF 31 rfl C X40 (host := "") (Or.inl (hw _ (List.mem_of_getElem? (i := 19) rfl))) Via.refl eh45 F_b0_m E_b0 (Or.inr ⟨(hw _ (List.mem_of_getElem? (i := 20) rfl)), rfl, rfl⟩) (hw _ (List.mem_of_getElem? (i := 6) rfl)) (ty := .int) (by decide) rfl rfl d2_28 N46 g_b0 fun T51 h52 ls53 X54 e55 W56 N57 => ?_
    have F58 : Fld Z h52 b0 "com/example/cairn_search/cairnsearch/vector/Graph" "m" "I" (.int p1) := F_b0_m.same W56
    have F59 := E_b0.wr W56
    have F60 := F_b0_beamWidth.other W56 (Or.inr (slot_ne (Or.inr (hw _ (List.mem_of_getElem? (i := 22) rfl))) (Or.inr (hw _ (List.mem_of_getElem? (i := 20) rfl))) (by decide) (t := .int) (t' := .int) (by decide) (by decide)))
    have Zs61 := Nat.le_trans Z0 (Nat.le_of_eq W56.size.symm)
    have Kp62 : Keep h0 h52 [b0] := (Keep.refl h0 [b0]).wr W56 (Or.inl (List.mem_of_getElem? (i := 0) rfl))
    refine g_aloadN 32 rfl C X54 d2_31 rfl rfl ?_
    refine g_iloadN 33 rfl C X54 d2_32 rfl ?_
    refine g_putF 36 rfl C X54 (host := "") (Or.inl (hw _ (List.mem_of_getElem? (i := 21) rfl))) Via.refl e55 F60 F59 (Or.inr ⟨(hw _ (List.mem_of_getElem? (i := 22) rfl)), rfl, rfl⟩) (hw _ (List.mem_of_getElem? (i := 6) rfl)) (ty := .int) (by decide) rfl rfl d2_33 N57 g_b0 fun T63 h64 ls65 X66 e67 W68 N69 => ?_
    have F70 : Fld Z h64 b0 "com/example/cairn_search/cairnsearch/vector/Graph" "beamWidth" "I" (.int p2) := F60.same W68
    have F71 := F59.wr W68
    have F72 := F58.other W68 (Or.inr (slot_ne (Or.inr (hw _ (List.mem_of_getElem? (i := 20) rfl))) (Or.inr (hw _ (List.mem_of_getElem? (i := 22) rfl))) (by decide) (t := .int) (t' := .int) (by decide) (by decide)))
    have Zs73 := Nat.le_trans Zs61 (Nat.le_of_eq W68.size.symm)
    have Kp74 : Keep h0 h64 [b0] := Kp62.wr W68 (Or.inl (List.mem_of_getElem? (i := 0) rfl))
    exact g_retV C X66 rfl d2_36 e67 (by decide) (by decide) ⟨rfl, N69, Kp74, F71, F72, F70⟩
theorem d5_0 : decode prog_63_method_6_code 0 = .ok (.iload_n 1, 1) := by decide +kernel
theorem d5_1 : decode prog_63_method_6_code 1 = .ok (.ifCond .ne 12, 3) := by decide +kernel
theorem d5_4 : decode prog_63_method_6_code 4 = .ok (.iconst 2, 1) := by decide +kernel
theorem d5_5 : decode prog_63_method_6_code 5 = .ok (.aload_n 0, 1) := by decide +kernel
theorem d5_6 : decode prog_63_method_6_code 6 = .ok (.getfield 17, 3) := by decide +kernel
theorem d5_9 : decode prog_63_method_6_code 9 = .ok (.imul, 1) := by decide +kernel
theorem d5_10 : decode prog_63_method_6_code 10 = .ok (.goto 7, 3) := by decide +kernel
theorem d5_17 : decode prog_63_method_6_code 17 = .ok (.ireturn, 1) := by decide +kernel
theorem d5_13 : decode prog_63_method_6_code 13 = .ok (.aload_n 0, 1) := by decide +kernel
theorem d5_14 : decode prog_63_method_6_code 14 = .ok (.getfield 17, 3) := by decide +kernel
theorem ef_5 (m : MethodId) (b0 : Addr) (p1 : Int32) : entryFrame m #[(.ref b0), (.int p1)] 2 = mkF m 0 #[.val (.ref b0), .val (.int p1)] [] := by first | (simp [entryFrame, mkF, argsToLocals, Value.category]; done) | rfl
def Q5 (Z : State) (b0 : Addr) (p1 : Int32) (w1 : Int32) (h0 : Heap) (n0 : Nat) (v : Option Value) (h : Heap) (L : List Loc) : Prop := ∃ r : Int32, v = some (.int r) ∧ ((p1.toInt = 0 ∧ r.toInt = 2 * w1.toInt) ∨ (p1.toInt ≠ 0 ∧ r.toInt = w1.toInt)) ∧ Fr n0 L ∧ h = h0
set_option maxRecDepth 65536 in
set_option maxHeartbeats 40000000 in
theorem rm5 (l : Launch) (Z : State) (a0 : Array Value) (hw : ∀ d ∈ tables_1, d.before a0 Z = true) (ws : List Jvm.Cond) (b0 : Addr) (p1 : Int32) (w1 : Int32) (h0 : Heap) (n0 : Nat) (Z0 : n0 ≤ h0.size) (F_b0_m : Fld Z h0 b0 "com/example/cairn_search/cairnsearch/vector/Graph" "m" "I" (.int w1)) (q1 : 0 ≤ w1.toInt ∧ w1.toInt ≤ 512) :
    MetFree l (⟨"com/example/cairn_search/cairnsearch/vector/Graph", "maxDegree", "(I)I"⟩ : MethodName) (head1 (Jvm.Cond.code (⟨"com/example/cairn_search/cairnsearch/vector/Graph", "maxDegree", "(I)I"⟩ : MethodName) prog_63_method_6_code 2 (some .int) :: ws) ({ frames := 0, cells := 0, slots := 0, locals := 0 } : Room)) (fun a U => a = #[(.ref b0), (.int p1)] ∧ Z.Warmed39 U.vm ∧ U.heap = h0) (fun _ _ _ _ _ => True) (fun _ U o U' => ∃ v L, o = .returned v ∧ Q5 Z b0 p1 w1 h0 n0 v U'.heap L ∧ FrameEnd U o U' L ({ frames := 0, cells := 0, slots := 0, locals := 0 } : Room).cells ({ frames := 0, cells := 0, slots := 0, locals := 0 } : Room).slots) := by
  refine MetFree.of_bodySF (plainFor_of_name pn_41043831) hisR ?_
  intro p e s m args below meth c s₁ Bd hml0 hP hK
  obtain ⟨rfl, hZ, hh⟩ := hP
  have C : Ctx p s m meth c Z "com/example/cairn_search/cairnsearch/vector/Graph" "maxDegree" prog_63_method_6_code 2 (some .int) := Ctx.of Bd hml0 hZ
  have X0 : Stand p l e ({ frames := 0, cells := 0, slots := 0, locals := 0 } : Room) s m #[(.ref b0), (.int p1)] below meth c s₁ [] 0 0 := Stand.of_body Bd
  have e0 : s₁.heap = h0 := by rw [← hh, Bd.state]; rfl
  have N0 := Fr.nil n0
  refine Goes.enter (ef_5 m b0 p1) ?_
  clear hK hml0 hh
  refine g_iloadN 1 rfl C X0 d5_0 rfl ?_
  by_cases hb1 : p1.toInt = 0
  · skip
    refine g_if_ne_f 4 rfl C X0 d5_1 hb1 ?_
    refine g_iconst 5 rfl C X0 (2 : Int32) d5_4 rfl ?_
    refine g_aloadN 6 rfl C X0 d5_5 rfl rfl ?_
    refine g_getF 9 rfl C X0 (host := "") (Or.inl (hw _ (List.mem_of_getElem? (i := 19) rfl))) Via.refl e0 F_b0_m d5_6 fun T2 X3 e4 => ?_
    refine g_imul 10 rfl C X3 d5_9 ?_
    refine g_goto 17 C X3 d5_10 (by decide) (by decide) ?_
    have fr5 := rng32 p1
    have fc6 : (2 : Int32).toInt = 2 := rfl
    have fr7 := rng32 w1
    have fo8 := own_mulc' (2 : Int32) w1 2 rfl
    have fr9 := rng32 ((2 : Int32) * w1)
    exact g_retI C X3 rfl d5_17 e4 (by decide) (by decide) ⟨_, rfl, by omega, N0, rfl⟩
  · skip
    refine g_if_ne_t 13 C X0 d5_1 (by decide) (by decide) hb1 ?_
    refine g_aloadN 14 rfl C X0 d5_13 rfl rfl ?_
    refine g_getF 17 rfl C X0 (host := "") (Or.inl (hw _ (List.mem_of_getElem? (i := 19) rfl))) Via.refl e0 F_b0_m d5_14 fun T10 X11 e12 => ?_
    have fr13 := rng32 p1
    have fr14 := rng32 w1
    exact g_retI C X11 rfl d5_17 e12 (by decide) (by decide) ⟨_, rfl, by omega, N0, rfl⟩
theorem d6_0 : decode prog_63_method_10_code 0 = .ok (.aload_n 0, 1) := by decide +kernel
theorem d6_1 : decode prog_63_method_10_code 1 = .ok (.getfield 17, 3) := by decide +kernel
theorem d6_4 : decode prog_63_method_10_code 4 = .ok (.ireturn, 1) := by decide +kernel
theorem ef_6 (m : MethodId) (b0 : Addr) : entryFrame m #[(.ref b0)] 1 = mkF m 0 #[.val (.ref b0)] [] := by first | (simp [entryFrame, mkF, argsToLocals, Value.category]; done) | rfl
def Q6 (Z : State) (b0 : Addr) (w1 : Int32) (h0 : Heap) (n0 : Nat) (v : Option Value) (h : Heap) (L : List Loc) : Prop := ∃ r : Int32, v = some (.int r) ∧ (r.toInt = w1.toInt) ∧ Fr n0 L ∧ h = h0
set_option maxRecDepth 65536 in
set_option maxHeartbeats 40000000 in
theorem rm6 (l : Launch) (Z : State) (a0 : Array Value) (hw : ∀ d ∈ tables_1, d.before a0 Z = true) (ws : List Jvm.Cond) (b0 : Addr) (w1 : Int32) (h0 : Heap) (n0 : Nat) (Z0 : n0 ≤ h0.size) (F_b0_m : Fld Z h0 b0 "com/example/cairn_search/cairnsearch/vector/Graph" "m" "I" (.int w1)) :
    MetFree l (⟨"com/example/cairn_search/cairnsearch/vector/Graph", "m", "()I"⟩ : MethodName) (head1 (Jvm.Cond.code (⟨"com/example/cairn_search/cairnsearch/vector/Graph", "m", "()I"⟩ : MethodName) prog_63_method_10_code 1 (some .int) :: ws) ({ frames := 0, cells := 0, slots := 0, locals := 0 } : Room)) (fun a U => a = #[(.ref b0)] ∧ Z.Warmed39 U.vm ∧ U.heap = h0) (fun _ _ _ _ _ => True) (fun _ U o U' => ∃ v L, o = .returned v ∧ Q6 Z b0 w1 h0 n0 v U'.heap L ∧ FrameEnd U o U' L ({ frames := 0, cells := 0, slots := 0, locals := 0 } : Room).cells ({ frames := 0, cells := 0, slots := 0, locals := 0 } : Room).slots) := by
  refine MetFree.of_bodySF (plainFor_of_name pn_41043831) hisR ?_
  intro p e s m args below meth c s₁ Bd hml0 hP hK
  obtain ⟨rfl, hZ, hh⟩ := hP
  have C : Ctx p s m meth c Z "com/example/cairn_search/cairnsearch/vector/Graph" "m" prog_63_method_10_code 1 (some .int) := Ctx.of Bd hml0 hZ
  have X0 : Stand p l e ({ frames := 0, cells := 0, slots := 0, locals := 0 } : Room) s m #[(.ref b0)] below meth c s₁ [] 0 0 := Stand.of_body Bd
  have e0 : s₁.heap = h0 := by rw [← hh, Bd.state]; rfl
  have N0 := Fr.nil n0
  refine Goes.enter (ef_6 m b0) ?_
  clear hK hml0 hh
  refine g_aloadN 1 rfl C X0 d6_0 rfl rfl ?_
  refine g_getF 4 rfl C X0 (host := "") (Or.inl (hw _ (List.mem_of_getElem? (i := 19) rfl))) Via.refl e0 F_b0_m d6_1 fun T1 X2 e3 => ?_
  have fr4 := rng32 w1
  exact g_retI C X2 rfl d6_4 e3 (by decide) (by decide) ⟨_, rfl, by omega, N0, rfl⟩
theorem pd_1793237 : parseMethodDescriptor "(II)I" = some ⟨[.int, .int], some .int⟩ := by decide +kernel
theorem pd_1793250 : parseMethodDescriptor "(II)V" = some ⟨[.int, .int], none⟩ := by decide +kernel
theorem pd_52681284 : parseMethodDescriptor "(I)I" = some ⟨[.int], some .int⟩ := by decide +kernel
theorem pd_16428521 : parseMethodDescriptor "()I" = some ⟨[], some .int⟩ := by decide +kernel
theorem pn_74293866 : plainName "com/example/cairn_search/cairnsearch/vector/GraphMaxDegreePinLaw" = true := by first | (simp [plainName, overriddenIn]; done) | decide +kernel
theorem ef_0 (m : MethodId) (p0 : Int32) (p1 : Int32) (p2 : Int32) (p3 : Int32) : entryFrame m #[(.int p0), (.int p1), (.int p2), (.int p3)] maxLocals = mkF m 0 #[.val (.int p0), .val (.int p1), .val (.int p2), .val (.int p3), .unset, .unset, .unset, .unset, .unset, .unset, .unset, .unset, .unset] [] := by first | (simp [entryFrame, mkF, argsToLocals, Value.category, maxLocals]; done) | rfl
def Q0 (Z : State) (p0 : Int32) (p1 : Int32) (p2 : Int32) (p3 : Int32) (h0 : Heap) (n0 : Nat) (v : Option Value) (h : Heap) (L : List Loc) : Prop := v = some (.int 1) ∧ Fr n0 L
set_option maxRecDepth 65536 in
set_option maxHeartbeats 40000000 in
theorem rm0 (l : Launch) (Z : State) (a0 : Array Value) (hw : ∀ d ∈ tables_1, d.before a0 Z = true) (ws : List Jvm.Cond) (p0 : Int32) (p1 : Int32) (p2 : Int32) (p3 : Int32) (h0 : Heap) (n0 : Nat) (Z0 : n0 ≤ h0.size) :
    MetFree l x (head1 (Jvm.Cond.code x code maxLocals ret :: ws) room_1) (fun a U => a = #[(.int p0), (.int p1), (.int p2), (.int p3)] ∧ Z.Warmed39 U.vm ∧ U.heap = h0) (fun _ _ _ _ _ => True) (fun _ U o U' => ∃ v L, o = .returned v ∧ Q0 Z p0 p1 p2 p3 h0 n0 v U'.heap L ∧ FrameEnd U o U' L 16 128) := by
  refine MetFree.of_bodySF (plainFor_of_name pn_74293866) hisR ?_
  intro p e s m args below meth c s₁ Bd hml0 hP hK
  obtain ⟨rfl, hZ, hh⟩ := hP
  have C : Ctx p s m meth c Z "com/example/cairn_search/cairnsearch/vector/GraphMaxDegreePinLaw" "law" code maxLocals ret := Ctx.of Bd hml0 hZ
  have X0 : Stand p l e room_1 s m #[(.int p0), (.int p1), (.int p2), (.int p3)] below meth c s₁ [] 0 0 := Stand.of_body Bd
  have e0 : s₁.heap = h0 := by rw [← hh, Bd.state]; rfl
  have N0 := Fr.nil n0
  refine Goes.enter (ef_0 m p0 p1 p2 p3) ?_
  clear hK hml0 hh
  refine g_iloadN 1 rfl C X0 at_0 rfl ?_
  refine g_iconst 2 rfl C X0 (1 : Int32) at_1 rfl ?_
  refine g_iand 3 rfl C X0 at_2 ?_
  by_cases hb1 : (p3 &&& (1 : Int32)).toInt = 0
  · skip
    refine g_if_eq_t 10 C X0 at_3 (by decide) (by decide) hb1 ?_
    refine g_iconst 11 rfl C X0 (0 : Int32) at_10 rfl ?_
    refine g_istore 13 rfl C X0 (0 : Int32) rfl #[.val (.int p0), .val (.int p1), .val (.int p2), .val (.int p3), .val (.int (0 : Int32)), .unset, .unset, .unset, .unset, .unset, .unset, .unset, .unset] at_11 rfl ?_
    refine g_iconst 14 rfl C X0 (2 : Int32) at_13 rfl ?_
    refine g_iloadN 15 rfl C X0 at_14 rfl ?_
    refine g_ldc 17 rfl C X0 (hw _ (List.mem_of_getElem? (i := 0) rfl)) at_15 ?_
    refine g_iand 18 rfl C X0 at_17 ?_
    refine g_sipush 21 rfl C X0 (511 : Int32) at_18 rfl ?_
    refine g_irem 22 rfl C X0 at_21 (by decide) ?_
    refine g_iadd 23 rfl C X0 at_22 ?_
    obtain ⟨v2, hv2⟩ : ∃ z : Int32, ((2 : Int32) + ((p0 &&& (2147483647 : Int32)) % (511 : Int32))) = z := ⟨_, rfl⟩
    refine g_istore 25 rfl C X0 v2 hv2 #[.val (.int p0), .val (.int p1), .val (.int p2), .val (.int p3), .val (.int (0 : Int32)), .val (.int v2), .unset, .unset, .unset, .unset, .unset, .unset, .unset] at_23 rfl ?_
    refine g_iconst 26 rfl C X0 (1 : Int32) at_25 rfl ?_
    refine g_iloadN 27 rfl C X0 at_26 rfl ?_
    refine g_ldc 29 rfl C X0 (hw _ (List.mem_of_getElem? (i := 0) rfl)) at_27 ?_
    refine g_iand 30 rfl C X0 at_29 ?_
    refine g_callS 33 rfl C X0 (argsL := [(.int (1 : Int32)), (.int (p1 &&& (2147483647 : Int32)))]) (hw _ (List.mem_of_getElem? (i := 1) rfl)) (hw _ (List.mem_of_getElem? (i := 2) rfl)) (hw _ (List.mem_of_getElem? (i := 4) rfl)) (hw _ (List.mem_of_getElem? (i := 3) rfl)) e0 (rm1 l Z a0 hw [] (1 : Int32) (p1 &&& (2147483647 : Int32)) h0 n0 Z0) (lenOf pd_1793237 rfl) (by decide) (by decide) (by decide) (by decide) rfl (W := 0) (Nat.le_of_eq rfl) (by decide) at_30 rfl fun r3 T4 Lc5 X6 hQ7 => ?_
    obtain ⟨r8, rfl, hs9, Nq10, eh11⟩ := hQ7
    have N12 := Fr.app N0 Nq10
    show Goes _ _ _ _ _ _ 33 _ [(.int r8)]
    refine g_istore 35 rfl C X6 r8 rfl #[.val (.int p0), .val (.int p1), .val (.int p2), .val (.int p3), .val (.int (0 : Int32)), .val (.int v2), .val (.int r8), .unset, .unset, .unset, .unset, .unset, .unset] at_33 rfl ?_
    refine g_iload 37 rfl C X6 at_35 rfl ?_
    refine g_if_eq_t 44 C X6 at_37 (by decide) (by decide) (by decide) ?_
    refine g_iload 46 rfl C X6 at_44 rfl ?_
    refine g_istore 48 rfl C X6 v2 rfl #[.val (.int p0), .val (.int p1), .val (.int p2), .val (.int p3), .val (.int (0 : Int32)), .val (.int v2), .val (.int r8), .val (.int v2), .unset, .unset, .unset, .unset, .unset] at_46 rfl ?_
    refine g_iconst 49 rfl C X6 (1 : Int32) at_48 rfl ?_
    refine g_iloadN 50 rfl C X6 at_49 rfl ?_
    refine g_ldc 52 rfl C X6 (hw _ (List.mem_of_getElem? (i := 0) rfl)) at_50 ?_
    refine g_iand 53 rfl C X6 at_52 ?_
    refine g_callS 56 rfl C X6 (argsL := [(.int (1 : Int32)), (.int (p2 &&& (2147483647 : Int32)))]) (hw _ (List.mem_of_getElem? (i := 1) rfl)) (hw _ (List.mem_of_getElem? (i := 2) rfl)) (hw _ (List.mem_of_getElem? (i := 4) rfl)) (hw _ (List.mem_of_getElem? (i := 3) rfl)) eh11 (rm1 l Z a0 hw [] (1 : Int32) (p2 &&& (2147483647 : Int32)) h0 n0 Z0) (lenOf pd_1793237 rfl) (by decide) (by decide) (by decide) (by decide) rfl (W := 0) (Nat.le_of_eq rfl) (by decide) at_53 rfl fun r13 T14 Lc15 X16 hQ17 => ?_
    obtain ⟨r18, rfl, hs19, Nq20, eh21⟩ := hQ17
    have N22 := Fr.app N12 Nq20
    show Goes _ _ _ _ _ _ 56 _ [(.int r18)]
    refine g_istore 58 rfl C X16 r18 rfl #[.val (.int p0), .val (.int p1), .val (.int p2), .val (.int p3), .val (.int (0 : Int32)), .val (.int v2), .val (.int r8), .val (.int v2), .val (.int r18), .unset, .unset, .unset, .unset] at_56 rfl ?_
    refine g_iload 60 rfl C X16 at_58 rfl ?_
    refine g_if_eq_t 75 C X16 at_60 (by decide) (by decide) (by decide) ?_
    refine g_new 78 rfl C X16 (hw _ (List.mem_of_getElem? (i := 5) rfl)) (hw _ (List.mem_of_getElem? (i := 6) rfl)) (hw _ (List.mem_of_getElem? (i := 7) rfl)) eh21 at_75 (by decide) (by decide) fun T23 h24 o25 g26 X27 e28 E29 A30 D31 => ?_
    have gn32 : n0 ≤ o25 := by rw [g26]; exact Z0
    have Zs33 := Nat.le_trans Z0 E29.1
    have F34 : Fld Z h24 o25 "com/example/cairn_search/cairnsearch/vector/Graph" "m" "I" (.int (0 : Int32)) := D31 (Or.inr (hw _ (List.mem_of_getElem? (i := 20) rfl))) (ty := .int) (by decide)
    have F35 : Fld Z h24 o25 "com/example/cairn_search/cairnsearch/vector/Graph" "beamWidth" "I" (.int (0 : Int32)) := D31 (Or.inr (hw _ (List.mem_of_getElem? (i := 22) rfl))) (ty := .int) (by decide)
    refine g_dup 79 rfl C X27 at_78 rfl ?_
    refine g_iload 81 rfl C X27 at_79 rfl ?_
    refine g_iload 83 rfl C X27 at_81 rfl ?_
    have fr36 := rng32 p3
    have fc37 : (1 : Int32).toInt = 1 := rfl
    have fo38 : (p3 &&& (1 : Int32)).toInt = p3.toInt % 2 := c_mask p3 (1 : Int32) 1 (by decide) (by decide)
    have fr39 := rng32 p1
    have fc40 : (2147483647 : Int32).toInt = 2147483647 := rfl
    have fo41 : (p1 &&& (2147483647 : Int32)).toInt = p1.toInt % 2147483648 := c_mask p1 (2147483647 : Int32) 31 (by decide) (by decide)
    have fr42 := rng32 r8
    have fc43 : (0 : Int32).toInt = 0 := rfl
    have fr44 := rng32 p2
    have fo45 : (p2 &&& (2147483647 : Int32)).toInt = p2.toInt % 2147483648 := c_mask p2 (2147483647 : Int32) 31 (by decide) (by decide)
    have fr46 := rng32 r18
    have fr47 := rng32 v2
    have fc48 : (2 : Int32).toInt = 2 := rfl
    have fr49 := rng32 p0
    have fo50 : (p0 &&& (2147483647 : Int32)).toInt = p0.toInt % 2147483648 := c_mask p0 (2147483647 : Int32) 31 (by decide) (by decide)
    have fc51 : (511 : Int32).toInt = 511 := rfl
    have fo52 := c_irem (p0 &&& (2147483647 : Int32)) (511 : Int32) 511 rfl
    have fr53 := rng32 ((p0 &&& (2147483647 : Int32)) % (511 : Int32))
    have fo54 := c_iadd (2 : Int32) ((p0 &&& (2147483647 : Int32)) % (511 : Int32))
    have fr55 := rng32 ((2 : Int32) + ((p0 &&& (2147483647 : Int32)) % (511 : Int32)))
    have fe56 : ((2 : Int32) + ((p0 &&& (2147483647 : Int32)) % (511 : Int32))).toInt = v2.toInt := congrArg Int32.toInt hv2
    refine g_callN 86 rfl C X27 (argsL := [(.int v2), (.int r8)]) rfl rfl (hw _ (List.mem_of_getElem? (i := 8) rfl)) (hw _ (List.mem_of_getElem? (i := 9) rfl)) (hw _ (List.mem_of_getElem? (i := 10) rfl)) (hw _ (List.mem_of_getElem? (i := 7) rfl)) e28 (rm2 l Z a0 hw [] o25 v2 r8 h24 n0 Zs33 A30 F34 F35 gn32 (by omega)) (lenOf pd_1793250 rfl) (by decide) (by decide) (by decide) (by decide) rfl (W := 1) (Nat.le_of_eq rfl) (by decide) at_83 rfl fun r57 T58 Lc59 X60 hQ61 => ?_
    obtain ⟨rfl, Nq62, Kc63, F64, F65, F66⟩ := hQ61
    have F67 := A30.keep Kc63
    have Zs68 := Nat.le_trans Zs33 Kc63.1
    have N69 := Fr.app N22 Nq62
    show Goes _ _ _ _ _ _ 86 _ [(.ref o25)]
    refine g_astore 88 rfl C X60 #[.val (.int p0), .val (.int p1), .val (.int p2), .val (.int p3), .val (.int (0 : Int32)), .val (.int v2), .val (.int r8), .val (.int v2), .val (.int r18), .val (.ref o25), .unset, .unset, .unset] at_86 rfl rfl ?_
    refine g_aload 90 rfl C X60 at_88 rfl rfl ?_
    refine g_iconst 91 rfl C X60 (0 : Int32) at_90 rfl ?_
    refine g_callV 94 rfl C X60 (argsL := [(.int (0 : Int32))]) (hw _ (List.mem_of_getElem? (i := 23) rfl)) (hw _ (List.mem_of_getElem? (i := 24) rfl)) (hw _ (List.mem_of_getElem? (i := 26) rfl)) (hw _ (List.mem_of_getElem? (i := 25) rfl)) (hw _ (List.mem_of_getElem? (i := 27) rfl)) (hw _ (List.mem_of_getElem? (i := 7) rfl)) rfl F64 (rm5 l Z a0 hw [] o25 (0 : Int32) v2 (T58.heap) n0 Zs68 F65 (by omega)) (lenOf pd_52681284 rfl) (by decide) (by decide) (by decide) (by decide) rfl (W := 0) (Nat.le_of_eq rfl) (by decide) at_91 rfl fun r70 T71 Lc72 X73 hQ74 => ?_
    obtain ⟨r75, rfl, hs76, Nq77, eh78⟩ := hQ74
    have N79 := Fr.app N69 Nq77
    show Goes _ _ _ _ _ _ 94 _ [(.int r75)]
    refine g_istore 96 rfl C X73 r75 rfl #[.val (.int p0), .val (.int p1), .val (.int p2), .val (.int p3), .val (.int (0 : Int32)), .val (.int v2), .val (.int r8), .val (.int v2), .val (.int r18), .val (.ref o25), .val (.int r75), .unset, .unset] at_94 rfl ?_
    refine g_aload 98 rfl C X73 at_96 rfl rfl ?_
    refine g_iconst 99 rfl C X73 (1 : Int32) at_98 rfl ?_
    refine g_callV 102 rfl C X73 (argsL := [(.int (1 : Int32))]) (hw _ (List.mem_of_getElem? (i := 23) rfl)) (hw _ (List.mem_of_getElem? (i := 24) rfl)) (hw _ (List.mem_of_getElem? (i := 26) rfl)) (hw _ (List.mem_of_getElem? (i := 25) rfl)) (hw _ (List.mem_of_getElem? (i := 27) rfl)) (hw _ (List.mem_of_getElem? (i := 7) rfl)) eh78 F64 (rm5 l Z a0 hw [] o25 (1 : Int32) v2 (T58.heap) n0 Zs68 F65 (by omega)) (lenOf pd_52681284 rfl) (by decide) (by decide) (by decide) (by decide) rfl (W := 0) (Nat.le_of_eq rfl) (by decide) at_99 rfl fun r80 T81 Lc82 X83 hQ84 => ?_
    obtain ⟨r85, rfl, hs86, Nq87, eh88⟩ := hQ84
    have N89 := Fr.app N79 Nq87
    show Goes _ _ _ _ _ _ 102 _ [(.int r85)]
    refine g_istore 104 rfl C X83 r85 rfl #[.val (.int p0), .val (.int p1), .val (.int p2), .val (.int p3), .val (.int (0 : Int32)), .val (.int v2), .val (.int r8), .val (.int v2), .val (.int r18), .val (.ref o25), .val (.int r75), .val (.int r85), .unset] at_102 rfl ?_
    refine g_aload 106 rfl C X83 at_104 rfl rfl ?_
    refine g_iload 108 rfl C X83 at_106 rfl ?_
    refine g_callV 111 rfl C X83 (argsL := [(.int r18)]) (hw _ (List.mem_of_getElem? (i := 23) rfl)) (hw _ (List.mem_of_getElem? (i := 24) rfl)) (hw _ (List.mem_of_getElem? (i := 26) rfl)) (hw _ (List.mem_of_getElem? (i := 25) rfl)) (hw _ (List.mem_of_getElem? (i := 27) rfl)) (hw _ (List.mem_of_getElem? (i := 7) rfl)) eh88 F64 (rm5 l Z a0 hw [] o25 r18 v2 (T58.heap) n0 Zs68 F65 (by omega)) (lenOf pd_52681284 rfl) (by decide) (by decide) (by decide) (by decide) rfl (W := 0) (Nat.le_of_eq rfl) (by decide) at_108 rfl fun r90 T91 Lc92 X93 hQ94 => ?_
    obtain ⟨r95, rfl, hs96, Nq97, eh98⟩ := hQ94
    have N99 := Fr.app N89 Nq97
    show Goes _ _ _ _ _ _ 111 _ [(.int r95)]
    refine g_istore 113 rfl C X93 r95 rfl #[.val (.int p0), .val (.int p1), .val (.int p2), .val (.int p3), .val (.int (0 : Int32)), .val (.int v2), .val (.int r8), .val (.int v2), .val (.int r18), .val (.ref o25), .val (.int r75), .val (.int r85), .val (.int r95)] at_111 rfl ?_
    refine g_iload 115 rfl C X93 at_113 rfl ?_
    refine g_iload 117 rfl C X93 at_115 rfl ?_
    refine g_iload 119 rfl C X93 at_117 rfl ?_
    refine g_iadd 120 rfl C X93 at_119 ?_
    have fr100 := rng32 r75
    have fr101 := rng32 r85
    have fr102 := rng32 r95
    have fo103 := c_iadd v2 v2
    have fr104 := rng32 (v2 + v2)
    have hb105 : r75.toInt = (v2 + v2).toInt := by omega
    refine g_icmp_ne_f 123 rfl C X93 at_120 hb105 ?_
    refine g_iload 125 rfl C X93 at_123 rfl ?_
    refine g_iload 127 rfl C X93 at_125 rfl ?_
    have hb106 : r85.toInt = v2.toInt := by omega
    refine g_icmp_ne_f 130 rfl C X93 at_127 hb106 ?_
    refine g_iload 132 rfl C X93 at_130 rfl ?_
    refine g_iload 134 rfl C X93 at_132 rfl ?_
    have hb107 : r95.toInt = v2.toInt := by omega
    refine g_icmp_ne_f 137 rfl C X93 at_134 hb107 ?_
    refine g_aload 139 rfl C X93 at_137 rfl rfl ?_
    refine g_callV 142 rfl C X93 (argsL := []) (hw _ (List.mem_of_getElem? (i := 28) rfl)) (hw _ (List.mem_of_getElem? (i := 29) rfl)) (hw _ (List.mem_of_getElem? (i := 31) rfl)) (hw _ (List.mem_of_getElem? (i := 30) rfl)) (hw _ (List.mem_of_getElem? (i := 32) rfl)) (hw _ (List.mem_of_getElem? (i := 7) rfl)) eh98 F64 (rm6 l Z a0 hw [] o25 v2 (T58.heap) n0 Zs68 F65) (lenOf pd_16428521 rfl) (by decide) (by decide) (by decide) (by decide) rfl (W := 0) (Nat.le_of_eq rfl) (by decide) at_139 rfl fun r108 T109 Lc110 X111 hQ112 => ?_
    obtain ⟨r113, rfl, hs114, Nq115, eh116⟩ := hQ112
    have N117 := Fr.app N99 Nq115
    show Goes _ _ _ _ _ _ 142 _ [(.int r113)]
    refine g_iload 144 rfl C X111 at_142 rfl ?_
    have fr118 := rng32 r113
    have hb119 : r113.toInt = v2.toInt := by omega
    refine g_icmp_ne_f 147 rfl C X111 at_144 hb119 ?_
    refine g_iconst 148 rfl C X111 (1 : Int32) at_147 rfl ?_
    refine g_goto 152 C X111 at_148 (by decide) (by decide) ?_
    exact g_retN C X111 (z' := (1 : Int32)) rfl (Or.inl rfl) at_152 eh116 (by decide) (by decide) rfl ⟨rfl, N117⟩
  · skip
    refine g_if_eq_f 6 rfl C X0 at_3 hb1 ?_
    refine g_iconst 7 rfl C X0 (1 : Int32) at_6 rfl ?_
    refine g_goto 11 C X0 at_7 (by decide) (by decide) ?_
    refine g_istore 13 rfl C X0 (1 : Int32) rfl #[.val (.int p0), .val (.int p1), .val (.int p2), .val (.int p3), .val (.int (1 : Int32)), .unset, .unset, .unset, .unset, .unset, .unset, .unset, .unset] at_11 rfl ?_
    refine g_iconst 14 rfl C X0 (2 : Int32) at_13 rfl ?_
    refine g_iloadN 15 rfl C X0 at_14 rfl ?_
    refine g_ldc 17 rfl C X0 (hw _ (List.mem_of_getElem? (i := 0) rfl)) at_15 ?_
    refine g_iand 18 rfl C X0 at_17 ?_
    refine g_sipush 21 rfl C X0 (511 : Int32) at_18 rfl ?_
    refine g_irem 22 rfl C X0 at_21 (by decide) ?_
    refine g_iadd 23 rfl C X0 at_22 ?_
    obtain ⟨v120, hv120⟩ : ∃ z : Int32, ((2 : Int32) + ((p0 &&& (2147483647 : Int32)) % (511 : Int32))) = z := ⟨_, rfl⟩
    refine g_istore 25 rfl C X0 v120 hv120 #[.val (.int p0), .val (.int p1), .val (.int p2), .val (.int p3), .val (.int (1 : Int32)), .val (.int v120), .unset, .unset, .unset, .unset, .unset, .unset, .unset] at_23 rfl ?_
    refine g_iconst 26 rfl C X0 (1 : Int32) at_25 rfl ?_
    refine g_iloadN 27 rfl C X0 at_26 rfl ?_
    refine g_ldc 29 rfl C X0 (hw _ (List.mem_of_getElem? (i := 0) rfl)) at_27 ?_
    refine g_iand 30 rfl C X0 at_29 ?_
    refine g_callS 33 rfl C X0 (argsL := [(.int (1 : Int32)), (.int (p1 &&& (2147483647 : Int32)))]) (hw _ (List.mem_of_getElem? (i := 1) rfl)) (hw _ (List.mem_of_getElem? (i := 2) rfl)) (hw _ (List.mem_of_getElem? (i := 4) rfl)) (hw _ (List.mem_of_getElem? (i := 3) rfl)) e0 (rm1 l Z a0 hw [] (1 : Int32) (p1 &&& (2147483647 : Int32)) h0 n0 Z0) (lenOf pd_1793237 rfl) (by decide) (by decide) (by decide) (by decide) rfl (W := 0) (Nat.le_of_eq rfl) (by decide) at_30 rfl fun r121 T122 Lc123 X124 hQ125 => ?_
    obtain ⟨r126, rfl, hs127, Nq128, eh129⟩ := hQ125
    have N130 := Fr.app N0 Nq128
    show Goes _ _ _ _ _ _ 33 _ [(.int r126)]
    refine g_istore 35 rfl C X124 r126 rfl #[.val (.int p0), .val (.int p1), .val (.int p2), .val (.int p3), .val (.int (1 : Int32)), .val (.int v120), .val (.int r126), .unset, .unset, .unset, .unset, .unset, .unset] at_33 rfl ?_
    refine g_iload 37 rfl C X124 at_35 rfl ?_
    refine g_if_eq_f 40 rfl C X124 at_37 (by decide) ?_
    refine g_iconst 41 rfl C X124 (0 : Int32) at_40 rfl ?_
    refine g_goto 46 C X124 at_41 (by decide) (by decide) ?_
    refine g_istore 48 rfl C X124 (0 : Int32) rfl #[.val (.int p0), .val (.int p1), .val (.int p2), .val (.int p3), .val (.int (1 : Int32)), .val (.int v120), .val (.int r126), .val (.int (0 : Int32)), .unset, .unset, .unset, .unset, .unset] at_46 rfl ?_
    refine g_iconst 49 rfl C X124 (1 : Int32) at_48 rfl ?_
    refine g_iloadN 50 rfl C X124 at_49 rfl ?_
    refine g_ldc 52 rfl C X124 (hw _ (List.mem_of_getElem? (i := 0) rfl)) at_50 ?_
    refine g_iand 53 rfl C X124 at_52 ?_
    refine g_callS 56 rfl C X124 (argsL := [(.int (1 : Int32)), (.int (p2 &&& (2147483647 : Int32)))]) (hw _ (List.mem_of_getElem? (i := 1) rfl)) (hw _ (List.mem_of_getElem? (i := 2) rfl)) (hw _ (List.mem_of_getElem? (i := 4) rfl)) (hw _ (List.mem_of_getElem? (i := 3) rfl)) eh129 (rm1 l Z a0 hw [] (1 : Int32) (p2 &&& (2147483647 : Int32)) h0 n0 Z0) (lenOf pd_1793237 rfl) (by decide) (by decide) (by decide) (by decide) rfl (W := 0) (Nat.le_of_eq rfl) (by decide) at_53 rfl fun r131 T132 Lc133 X134 hQ135 => ?_
    obtain ⟨r136, rfl, hs137, Nq138, eh139⟩ := hQ135
    have N140 := Fr.app N130 Nq138
    show Goes _ _ _ _ _ _ 56 _ [(.int r136)]
    refine g_istore 58 rfl C X134 r136 rfl #[.val (.int p0), .val (.int p1), .val (.int p2), .val (.int p3), .val (.int (1 : Int32)), .val (.int v120), .val (.int r126), .val (.int (0 : Int32)), .val (.int r136), .unset, .unset, .unset, .unset] at_56 rfl ?_
    refine g_iload 60 rfl C X134 at_58 rfl ?_
    refine g_if_eq_f 63 rfl C X134 at_60 (by decide) ?_
    refine g_new 66 rfl C X134 (hw _ (List.mem_of_getElem? (i := 5) rfl)) (hw _ (List.mem_of_getElem? (i := 6) rfl)) (hw _ (List.mem_of_getElem? (i := 7) rfl)) eh139 at_63 (by decide) (by decide) fun T141 h142 o143 g144 X145 e146 E147 A148 D149 => ?_
    have gn150 : n0 ≤ o143 := by rw [g144]; exact Z0
    have Zs151 := Nat.le_trans Z0 E147.1
    have F152 : Fld Z h142 o143 "com/example/cairn_search/cairnsearch/vector/Graph" "m" "I" (.int (0 : Int32)) := D149 (Or.inr (hw _ (List.mem_of_getElem? (i := 20) rfl))) (ty := .int) (by decide)
    have F153 : Fld Z h142 o143 "com/example/cairn_search/cairnsearch/vector/Graph" "beamWidth" "I" (.int (0 : Int32)) := D149 (Or.inr (hw _ (List.mem_of_getElem? (i := 22) rfl))) (ty := .int) (by decide)
    refine g_dup 67 rfl C X145 at_66 rfl ?_
    refine g_iconst 68 rfl C X145 (0 : Int32) at_67 rfl ?_
    refine g_iconst 69 rfl C X145 (0 : Int32) at_68 rfl ?_
    have fr154 := rng32 p3
    have fc155 : (1 : Int32).toInt = 1 := rfl
    have fo156 : (p3 &&& (1 : Int32)).toInt = p3.toInt % 2 := c_mask p3 (1 : Int32) 1 (by decide) (by decide)
    have fr157 := rng32 p1
    have fc158 : (2147483647 : Int32).toInt = 2147483647 := rfl
    have fo159 : (p1 &&& (2147483647 : Int32)).toInt = p1.toInt % 2147483648 := c_mask p1 (2147483647 : Int32) 31 (by decide) (by decide)
    have fr160 := rng32 r126
    have fr161 := rng32 p2
    have fo162 : (p2 &&& (2147483647 : Int32)).toInt = p2.toInt % 2147483648 := c_mask p2 (2147483647 : Int32) 31 (by decide) (by decide)
    have fr163 := rng32 r136
    have fc164 : (0 : Int32).toInt = 0 := rfl
    refine g_callN 72 rfl C X145 (argsL := [(.int (0 : Int32)), (.int (0 : Int32))]) rfl rfl (hw _ (List.mem_of_getElem? (i := 8) rfl)) (hw _ (List.mem_of_getElem? (i := 9) rfl)) (hw _ (List.mem_of_getElem? (i := 10) rfl)) (hw _ (List.mem_of_getElem? (i := 7) rfl)) e146 (rm2 l Z a0 hw [] o143 (0 : Int32) (0 : Int32) h142 n0 Zs151 A148 F152 F153 gn150 (by omega)) (lenOf pd_1793250 rfl) (by decide) (by decide) (by decide) (by decide) rfl (W := 1) (Nat.le_of_eq rfl) (by decide) at_69 rfl fun r165 T166 Lc167 X168 hQ169 => ?_
    obtain ⟨rfl, Nq170, Kc171, F172, F173, F174⟩ := hQ169
    have F175 := A148.keep Kc171
    have Zs176 := Nat.le_trans Zs151 Kc171.1
    have N177 := Fr.app N140 Nq170
    show Goes _ _ _ _ _ _ 72 _ [(.ref o143)]
    refine g_goto 86 C X168 at_72 (by decide) (by decide) ?_
    refine g_astore 88 rfl C X168 #[.val (.int p0), .val (.int p1), .val (.int p2), .val (.int p3), .val (.int (1 : Int32)), .val (.int v120), .val (.int r126), .val (.int (0 : Int32)), .val (.int r136), .val (.ref o143), .unset, .unset, .unset] at_86 rfl rfl ?_
    refine g_aload 90 rfl C X168 at_88 rfl rfl ?_
    refine g_iconst 91 rfl C X168 (0 : Int32) at_90 rfl ?_
    refine g_callV 94 rfl C X168 (argsL := [(.int (0 : Int32))]) (hw _ (List.mem_of_getElem? (i := 23) rfl)) (hw _ (List.mem_of_getElem? (i := 24) rfl)) (hw _ (List.mem_of_getElem? (i := 26) rfl)) (hw _ (List.mem_of_getElem? (i := 25) rfl)) (hw _ (List.mem_of_getElem? (i := 27) rfl)) (hw _ (List.mem_of_getElem? (i := 7) rfl)) rfl F172 (rm5 l Z a0 hw [] o143 (0 : Int32) (0 : Int32) (T166.heap) n0 Zs176 F173 (by omega)) (lenOf pd_52681284 rfl) (by decide) (by decide) (by decide) (by decide) rfl (W := 0) (Nat.le_of_eq rfl) (by decide) at_91 rfl fun r178 T179 Lc180 X181 hQ182 => ?_
    obtain ⟨r183, rfl, hs184, Nq185, eh186⟩ := hQ182
    have N187 := Fr.app N177 Nq185
    show Goes _ _ _ _ _ _ 94 _ [(.int r183)]
    refine g_istore 96 rfl C X181 r183 rfl #[.val (.int p0), .val (.int p1), .val (.int p2), .val (.int p3), .val (.int (1 : Int32)), .val (.int v120), .val (.int r126), .val (.int (0 : Int32)), .val (.int r136), .val (.ref o143), .val (.int r183), .unset, .unset] at_94 rfl ?_
    refine g_aload 98 rfl C X181 at_96 rfl rfl ?_
    refine g_iconst 99 rfl C X181 (1 : Int32) at_98 rfl ?_
    refine g_callV 102 rfl C X181 (argsL := [(.int (1 : Int32))]) (hw _ (List.mem_of_getElem? (i := 23) rfl)) (hw _ (List.mem_of_getElem? (i := 24) rfl)) (hw _ (List.mem_of_getElem? (i := 26) rfl)) (hw _ (List.mem_of_getElem? (i := 25) rfl)) (hw _ (List.mem_of_getElem? (i := 27) rfl)) (hw _ (List.mem_of_getElem? (i := 7) rfl)) eh186 F172 (rm5 l Z a0 hw [] o143 (1 : Int32) (0 : Int32) (T166.heap) n0 Zs176 F173 (by omega)) (lenOf pd_52681284 rfl) (by decide) (by decide) (by decide) (by decide) rfl (W := 0) (Nat.le_of_eq rfl) (by decide) at_99 rfl fun r188 T189 Lc190 X191 hQ192 => ?_
    obtain ⟨r193, rfl, hs194, Nq195, eh196⟩ := hQ192
    have N197 := Fr.app N187 Nq195
    show Goes _ _ _ _ _ _ 102 _ [(.int r193)]
    refine g_istore 104 rfl C X191 r193 rfl #[.val (.int p0), .val (.int p1), .val (.int p2), .val (.int p3), .val (.int (1 : Int32)), .val (.int v120), .val (.int r126), .val (.int (0 : Int32)), .val (.int r136), .val (.ref o143), .val (.int r183), .val (.int r193), .unset] at_102 rfl ?_
    refine g_aload 106 rfl C X191 at_104 rfl rfl ?_
    refine g_iload 108 rfl C X191 at_106 rfl ?_
    refine g_callV 111 rfl C X191 (argsL := [(.int r136)]) (hw _ (List.mem_of_getElem? (i := 23) rfl)) (hw _ (List.mem_of_getElem? (i := 24) rfl)) (hw _ (List.mem_of_getElem? (i := 26) rfl)) (hw _ (List.mem_of_getElem? (i := 25) rfl)) (hw _ (List.mem_of_getElem? (i := 27) rfl)) (hw _ (List.mem_of_getElem? (i := 7) rfl)) eh196 F172 (rm5 l Z a0 hw [] o143 r136 (0 : Int32) (T166.heap) n0 Zs176 F173 (by omega)) (lenOf pd_52681284 rfl) (by decide) (by decide) (by decide) (by decide) rfl (W := 0) (Nat.le_of_eq rfl) (by decide) at_108 rfl fun r198 T199 Lc200 X201 hQ202 => ?_
    obtain ⟨r203, rfl, hs204, Nq205, eh206⟩ := hQ202
    have N207 := Fr.app N197 Nq205
    show Goes _ _ _ _ _ _ 111 _ [(.int r203)]
    refine g_istore 113 rfl C X201 r203 rfl #[.val (.int p0), .val (.int p1), .val (.int p2), .val (.int p3), .val (.int (1 : Int32)), .val (.int v120), .val (.int r126), .val (.int (0 : Int32)), .val (.int r136), .val (.ref o143), .val (.int r183), .val (.int r193), .val (.int r203)] at_111 rfl ?_
    refine g_iload 115 rfl C X201 at_113 rfl ?_
    refine g_iload 117 rfl C X201 at_115 rfl ?_
    refine g_iload 119 rfl C X201 at_117 rfl ?_
    refine g_iadd 120 rfl C X201 at_119 ?_
    have fr208 := rng32 r183
    have fr209 := rng32 r193
    have fr210 := rng32 r203
    have fc211 : ((0 : Int32) + (0 : Int32)).toInt = 0 := by decide
    have hb212 : r183.toInt = ((0 : Int32) + (0 : Int32)).toInt := by omega
    refine g_icmp_ne_f 123 rfl C X201 at_120 hb212 ?_
    refine g_iload 125 rfl C X201 at_123 rfl ?_
    refine g_iload 127 rfl C X201 at_125 rfl ?_
    have hb213 : r193.toInt = (0 : Int32).toInt := by omega
    refine g_icmp_ne_f 130 rfl C X201 at_127 hb213 ?_
    refine g_iload 132 rfl C X201 at_130 rfl ?_
    refine g_iload 134 rfl C X201 at_132 rfl ?_
    have hb214 : r203.toInt = (0 : Int32).toInt := by omega
    refine g_icmp_ne_f 137 rfl C X201 at_134 hb214 ?_
    refine g_aload 139 rfl C X201 at_137 rfl rfl ?_
    refine g_callV 142 rfl C X201 (argsL := []) (hw _ (List.mem_of_getElem? (i := 28) rfl)) (hw _ (List.mem_of_getElem? (i := 29) rfl)) (hw _ (List.mem_of_getElem? (i := 31) rfl)) (hw _ (List.mem_of_getElem? (i := 30) rfl)) (hw _ (List.mem_of_getElem? (i := 32) rfl)) (hw _ (List.mem_of_getElem? (i := 7) rfl)) eh206 F172 (rm6 l Z a0 hw [] o143 (0 : Int32) (T166.heap) n0 Zs176 F173) (lenOf pd_16428521 rfl) (by decide) (by decide) (by decide) (by decide) rfl (W := 0) (Nat.le_of_eq rfl) (by decide) at_139 rfl fun r215 T216 Lc217 X218 hQ219 => ?_
    obtain ⟨r220, rfl, hs221, Nq222, eh223⟩ := hQ219
    have N224 := Fr.app N207 Nq222
    show Goes _ _ _ _ _ _ 142 _ [(.int r220)]
    refine g_iload 144 rfl C X218 at_142 rfl ?_
    have fr225 := rng32 r220
    have hb226 : r220.toInt = (0 : Int32).toInt := by omega
    refine g_icmp_ne_f 147 rfl C X218 at_144 hb226 ?_
    refine g_iconst 148 rfl C X218 (1 : Int32) at_147 rfl ?_
    refine g_goto 152 C X218 at_148 (by decide) (by decide) ?_
    exact g_retN C X218 (z' := (1 : Int32)) rfl (Or.inl rfl) at_152 eh223 (by decide) (by decide) rfl ⟨rfl, N224⟩
set_option maxRecDepth 65536 in
set_option maxHeartbeats 40000000 in
theorem comes_1 {Post : Tables → Env → Array Value → State → Outcome → State → Prop} (hpost : ∀ tb e args s v u, (limb_1_1.after args s (.returned v) u = true ∧ limb_1_2.after args s (.returned v) u = true ∧ True) → FrameEnd s (.returned v) u (Jvm.fieldLocs frame_1_writes args s ++ Jvm.arrayLocs frame_1_arrays args s ++ Jvm.staticLocs frame_1_statics s) 16 128 → Post tb e args s (.returned v) u) :
    ArmFor flags0 classFile x code maxLocals ret World_1 tables_1 room_1 Calls_1 rest_1 Pre_1 Post := by
  intro l hfl _ _ p e ha hc hk s m args below hf hA hF happ hP
  obtain ⟨hcalls, hrest, hpre⟩ := hP
  obtain ⟨-, -, -, hnamed, -, -, -, hat⟩ := (Spec.applies_iff hf).mp happ
  obtain ⟨hg, hn⟩ := and_e (Cond.before_iff.mp (show (Jvm.Cond.and given_1 narrow_1).before args s = true from hpre))
  obtain ⟨g1, g2⟩ := and_e hg
  obtain ⟨g3, g4⟩ := and_e g2
  obtain ⟨g5, g6⟩ := and_e g4
  obtain ⟨g7, g8⟩ := and_e g6
  obtain ⟨w0, w1, w2, w3, rfl⟩ : ∃ w0 w1 w2 w3 : Value, args = #[w0, w1, w2, w3] := by
    have hs : args.size = 4 := by simpa [Cond.value, given_1] using g1
    obtain ⟨L⟩ := args
    match L, hs with
    | [w0, w1, w2, w3], _ => exact ⟨w0, w1, w2, w3, rfl⟩
  have hw := fun d (hd : d ∈ tables_1) => atoms_spec (ws := Jvm.Cond.code x code maxLocals ret :: tables_1) hat d (List.mem_cons_of_mem _ hd)
  obtain ⟨i0, ei0⟩ := is_v g3
  obtain rfl : w0 = (.int i0) := Option.some.inj ei0
  obtain ⟨i1, ei1⟩ := is_v g5
  obtain rfl : w1 = (.int i1) := Option.some.inj ei1
  obtain ⟨i2, ei2⟩ := is_v g7
  obtain rfl : w2 = (.int i2) := Option.some.inj ei2
  obtain ⟨i3, ei3⟩ := is_v g8
  obtain rfl : w3 = (.int i3) := Option.some.inj ei3
  obtain ⟨n, o, h1, h2, h3, _, L, rfl, ⟨rfl, N⟩, hq⟩ := rm0 l s _ hw tables_1 i0 i1 i2 i3 s.heap s.heap.size (Nat.le_refl _) p e ha hc hk s m _ below hf ((Spec.applies_iff_loose hf).mp happ).1 ⟨rfl, State.Warmed39.refl s, rfl⟩ trivial
  refine ⟨n, _, h1, h2, h3, hpost _ _ _ _ _ _ ⟨Cond.after_iff.mpr rfl, Cond.after_iff.mpr (eq_i res_at (Term.int_eval (1)) rfl), trivial⟩ ⟨hq.1, hq.2.1, (hq.2.2.sift fun y hy => Or.inr (N y hy)).mono (by decide) (by decide)⟩⟩
theorem main_1_1 : Claimed_1_1 := comes_1 fun _ _ _ _ _ _ h hF => ⟨h.1, hF⟩
theorem main_1_2 : Claimed_1_2 := comes_1 fun _ _ _ _ _ _ h hF => ⟨h.2.1, hF⟩
end Jvm.Pilot.@@N@@
namespace Jvm.Pilot.@@N@@
open Jvm Jvm.ClassFile Sem Op Lib Jvm.Free Jvm.Stand Jvm.Pilot.@@N@@.Jvm.D
/-! MADE BY PROGRAM (witnessworld.py) out of the Statement's table words and the real class files: 11 classes; the members and pool entries that the words name. The judged class is class 1, her method 1. -/
namespace start1
open Jvm.ClassFile
def u (s : String) : CpInfo := .utf8 (stringToUtf16 s)
/-- a pool by its gaps: so many unusable entries, then the entry; so many at the end -/
def gap : Nat → List CpInfo → List CpInfo
  | 0, r => r
  | n + 1, r => .unusable :: gap n r
def poolList (es : List (Nat × CpInfo)) (last : Nat) : List CpInfo := es.foldr (fun e r => gap e.1 (e.2 :: r)) (gap last [])
def pool (es : List (Nat × CpInfo)) (last : Nat) : Array CpInfo := ⟨poolList es last⟩
def fileOf (pool : Array CpInfo) (this : Nat) (attrs : Array Attribute := #[]) (ms : Array MethodInfo := #[]) (fl : Nat := 33) (sup : Nat := 0) (ifs : Array Nat := #[]) (fds : Array FieldInfo := #[]) : ClassFile where
  minorVersion := 0
  majorVersion := 65
  constantPool := pool
  accessFlags := fl
  thisClass := this
  superClass := sup
  interfaces := ifs
  fields := fds
  methods := ms
  attributes := attrs
def plain (name : String) (sup : Option ClassId) : Class where
  name := name
  kind := .ordinary
  loader := none
  accessFlags := 33
  super := sup
  interfaces := #[]
  cf := none
  fields := #[]
  methods := #[]
  instanceTypes := #[]
  staticTypes := #[]
  resolved := #[]
  callSites := []
  init := .initialized
  statics := none
  mirror := none

def pool0 : Array CpInfo := pool [(5, u "<init>"), (0, u "()V"), (1, .class_ 10), (1, u "java/lang/Object")] 113

def k0c0 : Code := { maxStack := 0, maxLocals := 1, code := object_method_1_code, exceptionTable := #[], attributes := #[] }
def k0m0 : Method := { name := "<init>", desc := "()V", sig := { parameters := [], returnType := none }, accessFlags := 1, code := some k0c0 }
/-- java/lang/Object -/
def k0 : Class := { plain "java/lang/Object" none with
  accessFlags := 33
  interfaces := #[]
  cf := some (fileOf pool0 8 #[] #[{ accessFlags := 1, nameIndex := 5, descriptorIndex := 6, attributes := #[] }] 33 0 #[] #[])
  fields := #[]
  methods := #[k0m0]
  instanceTypes := #[]
  staticTypes := #[]
  resolved := Array.replicate 124 none
  statics := none }

def pool1 : Array CpInfo := pool [(2, .class_ 4), (1, u "java/lang/Object"), (0, u "<init>"), (0, u "()V"), (0, .integer 2147483647), (0, .methodref 9 10), (0, .class_ 11), (0, .nameAndType 12 13), (0, u "java/lang/Math"), (0, u "max"), (0, u "(II)I"), (0, .class_ 15), (0, u "com/example/cairn_search/cairnsearch/vector/Graph"), (0, .methodref 14 17), (0, .nameAndType 5 18), (0, u "(II)V"), (0, .methodref 14 20), (0, .nameAndType 21 22), (0, u "maxDegree"), (0, u "(I)I"), (0, .methodref 14 24), (0, .nameAndType 25 26), (0, u "m"), (0, u "()I"), (0, .class_ 28), (0, u "com/example/cairn_search/cairnsearch/vector/GraphMaxDegreePinLaw"), (2, u "law"), (0, u "(IIII)Z")] 3

def k1m0 : Method := { name := "<init>", desc := "()V", sig := { parameters := [], returnType := none }, accessFlags := 1, code := none }
def k1c1 : Code := { maxStack := 4, maxLocals := 13, code := code, exceptionTable := #[], attributes := #[] }
def k1m1 : Method := { name := "law", desc := "(IIII)Z", sig := { parameters := [.int, .int, .int, .int], returnType := some .boolean }, accessFlags := 9, code := some k1c1 }
/-- com/example/cairn_search/cairnsearch/vector/GraphMaxDegreePinLaw -/
def k1 : Class := { plain "com/example/cairn_search/cairnsearch/vector/GraphMaxDegreePinLaw" (some 0) with
  accessFlags := 49
  interfaces := #[]
  cf := some (fileOf pool1 27 #[] #[{ accessFlags := 1, nameIndex := 5, descriptorIndex := 6, attributes := #[] }, { accessFlags := 9, nameIndex := 31, descriptorIndex := 32, attributes := #[] }] 49 2 #[] #[])
  fields := #[]
  methods := #[k1m0, k1m1]
  instanceTypes := #[]
  staticTypes := #[]
  resolved := Array.replicate 36 none
  statics := none }

def pool2 : Array CpInfo := pool [(1, .class_ 2), (0, u "java/lang/Math"), (1, .class_ 6), (1, u "java/lang/Object"), (0, u "<init>"), (0, u "()V"), (89, .class_ 100), (1, u "java/lang/Math$RandomNumberGeneratorHolder"), (71, u "negativeZeroFloatBits"), (0, u "J"), (2, u "negativeZeroDoubleBits"), (21, u "max"), (46, u "$assertionsDisabled"), (0, u "Z"), (88, u "(II)I"), (2, u "twoToTheDoubleScaleDown"), (0, u "D"), (4, u "twoToTheDoubleScaleUp"), (9, u "E"), (3, u "PI"), (2, u "TAU"), (2, u "DEGREES_TO_RADIANS"), (0, u "RADIANS_TO_DEGREES")] 94

def k2m0 : Method := { name := "<init>", desc := "()V", sig := { parameters := [], returnType := none }, accessFlags := 2, code := none }
def k2c1 : Code := { maxStack := 2, maxLocals := 2, code := jdk_29_method_65_code, exceptionTable := #[], attributes := #[] }
def k2m1 : Method := { name := "max", desc := "(II)I", sig := { parameters := [.int, .int], returnType := some .int }, accessFlags := 9, code := some k2c1 }
/-- java/lang/Math -/
def k2 : Class := { plain "java/lang/Math" (some 0) with
  accessFlags := 49
  interfaces := #[]
  cf := some (fileOf pool2 1 #[.nestMembers #[98]] #[{ accessFlags := 2, nameIndex := 7, descriptorIndex := 8, attributes := #[] }, { accessFlags := 9, nameIndex := 198, descriptorIndex := 335, attributes := #[] }] 49 4 #[] #[{ accessFlags := 25, nameIndex := 354, descriptorIndex := 339, attributes := #[] }, { accessFlags := 25, nameIndex := 358, descriptorIndex := 339, attributes := #[] }, { accessFlags := 25, nameIndex := 361, descriptorIndex := 339, attributes := #[] }, { accessFlags := 26, nameIndex := 364, descriptorIndex := 339, attributes := #[] }, { accessFlags := 26, nameIndex := 365, descriptorIndex := 339, attributes := #[] }, { accessFlags := 26, nameIndex := 172, descriptorIndex := 173, attributes := #[] }, { accessFlags := 26, nameIndex := 176, descriptorIndex := 173, attributes := #[] }, { accessFlags := 8, nameIndex := 344, descriptorIndex := 339, attributes := #[] }, { accessFlags := 8, nameIndex := 338, descriptorIndex := 339, attributes := #[] }, { accessFlags := 4120, nameIndex := 245, descriptorIndex := 246, attributes := #[] }])
  fields := #[{ name := "E", type := .double, accessFlags := 25, slot := 0, constantValue := 0 }, { name := "PI", type := .double, accessFlags := 25, slot := 1, constantValue := 0 }, { name := "TAU", type := .double, accessFlags := 25, slot := 2, constantValue := 0 }, { name := "DEGREES_TO_RADIANS", type := .double, accessFlags := 26, slot := 3, constantValue := 0 }, { name := "RADIANS_TO_DEGREES", type := .double, accessFlags := 26, slot := 4, constantValue := 0 }, { name := "negativeZeroFloatBits", type := .long, accessFlags := 26, slot := 5, constantValue := 0 }, { name := "negativeZeroDoubleBits", type := .long, accessFlags := 26, slot := 6, constantValue := 0 }, { name := "twoToTheDoubleScaleUp", type := .double, accessFlags := 8, slot := 7, constantValue := 0 }, { name := "twoToTheDoubleScaleDown", type := .double, accessFlags := 8, slot := 8, constantValue := 0 }, { name := "$assertionsDisabled", type := .boolean, accessFlags := 4120, slot := 9, constantValue := 0 }]
  methods := #[k2m0, k2m1]
  instanceTypes := #[]
  staticTypes := #[.double, .double, .double, .double, .double, .long, .long, .double, .double, .boolean]
  resolved := Array.replicate 460 none
  statics := none }

def pool3 : Array CpInfo := pool [(1, .methodref 2 3), (0, .class_ 4), (0, .nameAndType 5 6), (0, u "java/lang/Object"), (0, u "<init>"), (0, u "()V"), (0, .class_ 8), (0, u "java/lang/Record")] 13

def k3c0 : Code := { maxStack := 1, maxLocals := 1, code := jdk_30_method_1_code, exceptionTable := #[], attributes := #[] }
def k3m0 : Method := { name := "<init>", desc := "()V", sig := { parameters := [], returnType := none }, accessFlags := 4, code := some k3c0 }
/-- java/lang/Record -/
def k3 : Class := { plain "java/lang/Record" (some 0) with
  accessFlags := 1057
  interfaces := #[]
  cf := some (fileOf pool3 7 #[] #[{ accessFlags := 4, nameIndex := 5, descriptorIndex := 6, attributes := #[] }] 1057 2 #[] #[])
  fields := #[]
  methods := #[k3m0]
  instanceTypes := #[]
  staticTypes := #[]
  resolved := Array.replicate 22 none
  statics := none }

def pool4 : Array CpInfo := pool [(1, .methodref 2 3), (0, .class_ 4), (0, .nameAndType 5 6), (0, u "java/lang/Record"), (0, u "<init>"), (0, u "()V"), (0, .methodref 8 9), (0, .class_ 10), (0, .nameAndType 11 12), (0, u "com/example/cairn_search/cairnsearch/vector/Graph"), (0, u "isHnsw"), (0, u "(II)Z"), (4, .fieldref 8 18), (0, .nameAndType 19 20), (0, u "m"), (0, u "I"), (0, .fieldref 8 22), (0, .nameAndType 23 20), (0, u "beamWidth"), (2, u "(II)V"), (27, u "FLAT"), (0, u "Lcom/example/cairn_search/cairnsearch/vector/Graph;"), (0, u "MAX_M"), (11, u "maxDegree"), (0, u "(I)I"), (0, u "()I")] 31

def k4c0 : Code := { maxStack := 2, maxLocals := 3, code := prog_63_method_1_code, exceptionTable := #[], attributes := #[] }
def k4m0 : Method := { name := "<init>", desc := "(II)V", sig := { parameters := [.int, .int], returnType := none }, accessFlags := 1, code := some k4c0 }
def k4c1 : Code := { maxStack := 2, maxLocals := 2, code := prog_63_method_4_code, exceptionTable := #[], attributes := #[] }
def k4m1 : Method := { name := "isHnsw", desc := "(II)Z", sig := { parameters := [.int, .int], returnType := some .boolean }, accessFlags := 10, code := some k4c1 }
def k4c2 : Code := { maxStack := 2, maxLocals := 2, code := prog_63_method_6_code, exceptionTable := #[], attributes := #[] }
def k4m2 : Method := { name := "maxDegree", desc := "(I)I", sig := { parameters := [.int], returnType := some .int }, accessFlags := 0, code := some k4c2 }
def k4c3 : Code := { maxStack := 1, maxLocals := 1, code := prog_63_method_10_code, exceptionTable := #[], attributes := #[] }
def k4m3 : Method := { name := "m", desc := "()I", sig := { parameters := [], returnType := some .int }, accessFlags := 1, code := some k4c3 }
/-- com/example/cairn_search/cairnsearch/vector/Graph -/
def k4 : Class := { plain "com/example/cairn_search/cairnsearch/vector/Graph" (some 3) with
  accessFlags := 49
  interfaces := #[]
  cf := some (fileOf pool4 8 #[] #[{ accessFlags := 1, nameIndex := 5, descriptorIndex := 26, attributes := #[] }, { accessFlags := 10, nameIndex := 11, descriptorIndex := 12, attributes := #[] }, { accessFlags := 0, nameIndex := 68, descriptorIndex := 69, attributes := #[] }, { accessFlags := 1, nameIndex := 19, descriptorIndex := 70, attributes := #[] }] 49 2 #[] #[{ accessFlags := 18, nameIndex := 19, descriptorIndex := 20, attributes := #[] }, { accessFlags := 18, nameIndex := 23, descriptorIndex := 20, attributes := #[] }, { accessFlags := 25, nameIndex := 56, descriptorIndex := 20, attributes := #[] }, { accessFlags := 25, nameIndex := 54, descriptorIndex := 55, attributes := #[] }])
  fields := #[{ name := "m", type := .int, accessFlags := 18, slot := 0, constantValue := 0 }, { name := "beamWidth", type := .int, accessFlags := 18, slot := 1, constantValue := 0 }, { name := "MAX_M", type := .int, accessFlags := 25, slot := 0, constantValue := 0 }, { name := "FLAT", type := (.object "com/example/cairn_search/cairnsearch/vector/Graph"), accessFlags := 25, slot := 1, constantValue := 0 }]
  methods := #[k4m0, k4m1, k4m2, k4m3]
  instanceTypes := #[.int, .int]
  staticTypes := #[.int, (.object "com/example/cairn_search/cairnsearch/vector/Graph")]
  resolved := Array.replicate 102 none
  statics := none }

def pool5 : Array CpInfo := pool [(1, u "java/lang/Cloneable"), (0, .class_ 1), (0, u "java/lang/Object"), (0, .class_ 3)] 3

/-- java/lang/Cloneable -/
def k5 : Class := { plain "java/lang/Cloneable" (some 0) with
  accessFlags := 1537
  interfaces := #[]
  cf := some (fileOf pool5 2 #[] #[] 1537 4 #[] #[])
  fields := #[]
  methods := #[]
  instanceTypes := #[]
  staticTypes := #[]
  resolved := Array.replicate 8 none
  statics := none }

def pool6 : Array CpInfo := pool [(1, u "java/io/Serializable"), (0, .class_ 1), (0, u "java/lang/Object"), (0, .class_ 3)] 3

/-- java/io/Serializable -/
def k6 : Class := { plain "java/io/Serializable" (some 0) with
  accessFlags := 1537
  interfaces := #[]
  cf := some (fileOf pool6 2 #[] #[] 1537 4 #[] #[])
  fields := #[]
  methods := #[]
  instanceTypes := #[]
  staticTypes := #[]
  resolved := Array.replicate 8 none
  statics := none }

/-- the primitive byte -/
def k7 : Class := { plain "byte" none with kind := .primitive 'B', accessFlags := 0x411 }
/-- [B -/
def k8 : Class := { plain "[B" (some 0) with kind := .array 7 .byte, interfaces := #[5, 6], accessFlags := 1041 }

/-- the primitive int -/
def k9 : Class := { plain "int" none with kind := .primitive 'I', accessFlags := 0x411 }
/-- [I -/
def k10 : Class := { plain "[I" (some 0) with kind := .array 9 .int, interfaces := #[5, 6], accessFlags := 1041 }

def heap : Heap := #[]
def classes : Array Class := #[k0, k1, k2, k3, k4, k5, k6, k7, k8, k9, k10]
def interned : List (Array UInt16 × Addr) := []
def slotsUsed : Nat := 0
def theMethod : MethodId := ⟨1, 1⟩
def args0 : Array Value := #[.int 5, .int 7, .int 9, .int 2]
def aboutOver (below : List Frame) : State where
  vm := { classes := classes, interned := interned.toArray }
  heap := heap
  slotsUsed := slotsUsed
  threads := #[{ frames := .invoking theMethod args0 :: below }]
def below0 : List Frame := [.native { method := ⟨0, 0⟩, args := #[] }]
def about1 : State := aboutOver below0
def p0 : Program := .bare "" "" ""
def e0 : Env := launch0.env 0 0 0
theorem w_frames : about1.frames = Frame.invoking theMethod args0 :: below0 := rfl
set_option maxRecDepth 65536 in
theorem w_args : argsFit about1.vm theMethod args0 = true := by decide +kernel
set_option maxRecDepth 65536 in
theorem w_heap : heapFits about1 = true := by decide +kernel
set_option maxRecDepth 65536 in
theorem w_runnable : about1.curStatus? = some .runnable := by decide +kernel
set_option maxRecDepth 65536 in
theorem w_alone : about1.alone = true := by decide +kernel
set_option maxRecDepth 65536 in
theorem w_named : about1.methodNamed? x = some theMethod := by decide +kernel
set_option maxRecDepth 65536 in
theorem w_hears : about1.hears theMethod below0 = true := by decide +kernel
set_option maxRecDepth 65536 in
theorem w_ripe : about1.ripe theMethod args0 below0 = true := by decide +kernel
theorem w_running : about1.status = .running := rfl
set_option maxRecDepth 65536 in
theorem w_room : about1.hasRoom e0.platform room_1 = true :=
  launch0.hasRoom_least _ room_1 (by decide +kernel) (by decide +kernel) (by decide +kernel) (by decide +kernel) (by decide +kernel) (by decide +kernel)
theorem allAtoms_all (ts : List Jvm.Cond) (a : Array Jvm.Value) (st : Jvm.State) : (allAtoms ts).before a st = ts.all (fun c => c.before a st) := by
  induction ts with
  | nil => rfl
  | cons c t ih =>
    show (Jvm.Cond.and c (allAtoms t)).before a st = _
    rw [Jvm.Cond.before_and, ih, List.all_cons]
def words1 : List Jvm.Cond := Jvm.Cond.code x code maxLocals ret :: tables_1
/-- a 'code' word, met by the world's own term for the bytes: nothing is compared byte by byte -/
theorem code_word {y : MethodName} {bytes : ByteArray} {mx : Nat} {rt : Option FieldType} {a : Array Value} {s : State} {m : MethodId} {meth : Method} {c : Code} (h1 : s.methodNamed? y = some m) (h2 : s.vm.method? m = some meth) (h3 : meth.code = some c) (h4 : c.code = bytes)
    (h5 : (c.maxLocals == mx && c.exceptionTable.isEmpty && decide (c.maxStack ≤ mostOperands) && decide (meth.sig.returnType = rt) && !meth.locks && decide (parseMethodDescriptor y.desc = some meth.sig)) = true) : (Jvm.Cond.code y bytes mx rt).before a s = true := by
  simp only [Bool.and_eq_true, beq_iff_eq, Bool.not_eq_true', decide_eq_true_eq] at h5
  obtain ⟨⟨⟨⟨⟨g1, g2⟩, g3⟩, g4⟩, g5⟩, g6⟩ := h5
  simp [Cond.before, Cond.holds, Cond.value, h1, h2, h3, h4, g1, g2, g3, g4, g5, g6]
def isCode : Jvm.Cond → Bool
  | .code _ _ _ _ => true
  | _ => false
theorem all_split {L : List Jvm.Cond} {P : Jvm.Cond → Bool} (h1 : L.all (fun c => isCode c || P c) = true) (h2 : ∀ c ∈ L.filter isCode, P c = true) : L.all P = true := by
  refine List.all_eq_true.mpr fun c hc => ?_
  have h := List.all_eq_true.mp h1 c hc
  rcases Bool.eq_false_or_eq_true (isCode c) with hi | hi
  · exact h2 c (List.mem_filter.mpr ⟨hc, hi⟩)
  · simpa [hi] using h
set_option maxRecDepth 65536 in
theorem w_c0 : (Jvm.Cond.code x code maxLocals ret).before args0 about1 = true := code_word (m := ⟨1, 1⟩) (meth := k1m1) (c := k1c1) (by decide +kernel) rfl rfl rfl (by decide +kernel)
set_option maxRecDepth 65536 in
theorem w_c1 : (Jvm.Cond.code ({ cls := "java/lang/Math", name := "max", desc := "(II)I" } : Jvm.MethodName) jdk_29_method_65_code (2 : Nat) (Option.some Jvm.ClassFile.FieldType.int)).before args0 about1 = true := code_word (m := ⟨2, 1⟩) (meth := k2m1) (c := k2c1) (by decide +kernel) rfl rfl rfl (by decide +kernel)
set_option maxRecDepth 65536 in
theorem w_c2 : (Jvm.Cond.code ({ cls := "com/example/cairn_search/cairnsearch/vector/Graph", name := "<init>", desc := "(II)V" } : Jvm.MethodName) prog_63_method_1_code (3 : Nat) (Option.none : Option Jvm.ClassFile.FieldType)).before args0 about1 = true := code_word (m := ⟨4, 0⟩) (meth := k4m0) (c := k4c0) (by decide +kernel) rfl rfl rfl (by decide +kernel)
set_option maxRecDepth 65536 in
theorem w_c3 : (Jvm.Cond.code ({ cls := "java/lang/Record", name := "<init>", desc := "()V" } : Jvm.MethodName) jdk_30_method_1_code (1 : Nat) (Option.none : Option Jvm.ClassFile.FieldType)).before args0 about1 = true := code_word (m := ⟨3, 0⟩) (meth := k3m0) (c := k3c0) (by decide +kernel) rfl rfl rfl (by decide +kernel)
set_option maxRecDepth 65536 in
theorem w_c4 : (Jvm.Cond.code ({ cls := "java/lang/Object", name := "<init>", desc := "()V" } : Jvm.MethodName) object_method_1_code (1 : Nat) (Option.none : Option Jvm.ClassFile.FieldType)).before args0 about1 = true := code_word (m := ⟨0, 0⟩) (meth := k0m0) (c := k0c0) (by decide +kernel) rfl rfl rfl (by decide +kernel)
set_option maxRecDepth 65536 in
theorem w_c5 : (Jvm.Cond.code ({ cls := "com/example/cairn_search/cairnsearch/vector/Graph", name := "maxDegree", desc := "(I)I" } : Jvm.MethodName) prog_63_method_6_code (2 : Nat) (Option.some Jvm.ClassFile.FieldType.int)).before args0 about1 = true := code_word (m := ⟨4, 2⟩) (meth := k4m2) (c := k4c2) (by decide +kernel) rfl rfl rfl (by decide +kernel)
set_option maxRecDepth 65536 in
theorem w_c6 : (Jvm.Cond.code ({ cls := "com/example/cairn_search/cairnsearch/vector/Graph", name := "m", desc := "()I" } : Jvm.MethodName) prog_63_method_10_code (1 : Nat) (Option.some Jvm.ClassFile.FieldType.int)).before args0 about1 = true := code_word (m := ⟨4, 3⟩) (meth := k4m3) (c := k4c3) (by decide +kernel) rfl rfl rfl (by decide +kernel)
set_option maxRecDepth 65536 in
theorem w_c7 : (Jvm.Cond.code ({ cls := "com/example/cairn_search/cairnsearch/vector/Graph", name := "isHnsw", desc := "(II)Z" } : Jvm.MethodName) prog_63_method_4_code (2 : Nat) (Option.some Jvm.ClassFile.FieldType.boolean)).before args0 about1 = true := code_word (m := ⟨4, 1⟩) (meth := k4m1) (c := k4c1) (by decide +kernel) rfl rfl rfl (by decide +kernel)
def codes1 : List Jvm.Cond := [Jvm.Cond.code x code maxLocals ret, Jvm.Cond.code ({ cls := "java/lang/Math", name := "max", desc := "(II)I" } : Jvm.MethodName) jdk_29_method_65_code (2 : Nat) (Option.some Jvm.ClassFile.FieldType.int), Jvm.Cond.code ({ cls := "com/example/cairn_search/cairnsearch/vector/Graph", name := "<init>", desc := "(II)V" } : Jvm.MethodName) prog_63_method_1_code (3 : Nat) (Option.none : Option Jvm.ClassFile.FieldType), Jvm.Cond.code ({ cls := "java/lang/Record", name := "<init>", desc := "()V" } : Jvm.MethodName) jdk_30_method_1_code (1 : Nat) (Option.none : Option Jvm.ClassFile.FieldType), Jvm.Cond.code ({ cls := "java/lang/Object", name := "<init>", desc := "()V" } : Jvm.MethodName) object_method_1_code (1 : Nat) (Option.none : Option Jvm.ClassFile.FieldType), Jvm.Cond.code ({ cls := "com/example/cairn_search/cairnsearch/vector/Graph", name := "maxDegree", desc := "(I)I" } : Jvm.MethodName) prog_63_method_6_code (2 : Nat) (Option.some Jvm.ClassFile.FieldType.int), Jvm.Cond.code ({ cls := "com/example/cairn_search/cairnsearch/vector/Graph", name := "m", desc := "()I" } : Jvm.MethodName) prog_63_method_10_code (1 : Nat) (Option.some Jvm.ClassFile.FieldType.int), Jvm.Cond.code ({ cls := "com/example/cairn_search/cairnsearch/vector/Graph", name := "isHnsw", desc := "(II)Z" } : Jvm.MethodName) prog_63_method_4_code (2 : Nat) (Option.some Jvm.ClassFile.FieldType.boolean)]
set_option maxRecDepth 65536 in
theorem codes_eq : words1.filter isCode = codes1 := rfl
theorem w_codes : ∀ c ∈ words1.filter isCode, c.before args0 about1 = true := by
  rw [codes_eq]
  intro c hc
  simp only [codes1, List.mem_cons, List.not_mem_nil, or_false] at hc
  rcases hc with rfl | rfl | rfl | rfl | rfl | rfl | rfl | rfl
  · exact w_c0
  · exact w_c1
  · exact w_c2
  · exact w_c3
  · exact w_c4
  · exact w_c5
  · exact w_c6
  · exact w_c7
set_option maxRecDepth 65536 in
theorem w_t1 : (words1.take 24).all (fun c => isCode c || c.before args0 about1) = true := by decide +kernel
set_option maxRecDepth 65536 in
theorem w_t2 : (words1.drop 24).all (fun c => isCode c || c.before args0 about1) = true := by decide +kernel
theorem w_tables : (allAtoms (Jvm.Cond.code x code maxLocals ret :: tables_1)).before args0 about1 = true := by
  rw [allAtoms_all]
  show words1.all (fun c => c.before args0 about1) = true
  refine all_split ?_ w_codes
  rw [← List.take_append_drop 24 words1, List.all_append, w_t1, w_t2]
  rfl
set_option maxRecDepth 65536 in
theorem w_case : (Jvm.Cond.and given_1 narrow_1).before args0 about1 = true := by decide +kernel
theorem w_applies : (headSpec (Jvm.Cond.code x code maxLocals ret :: tables_1) room_1).applies x e0.platform about1 = true :=
  (Spec.applies_iff w_frames).mpr ⟨w_running, w_runnable, w_alone, w_named, w_hears, w_ripe, w_room, w_tables⟩
theorem atStart : AtStart classFile x code maxLocals ret World_1 tables_1 room_1 Calls_1 rest_1 Pre_1 launch0 p0 e0 about1 theMethod args0 below0 :=
  ⟨lists_1, trivial, launch0.admits_env _ _ _, launch0.least_env, fairChoices_fair.cas, fairChoices_fair.clock, w_frames, w_args, w_heap, w_applies, trivial, trivial, w_case⟩
end start1
theorem witness_1 : WitnessClaimed_1 := ⟨start1.p0, start1.e0, start1.about1, start1.theMethod, start1.args0, start1.below0, start1.atStart⟩
end Jvm.Pilot.@@N@@
