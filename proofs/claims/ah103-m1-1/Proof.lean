import JvmDerived
import JvmDerived.Pilot.@@N@@Statement
import JvmDerived.Pilot.@@N@@Code
set_option linter.unusedVariables false
set_option linter.unusedSimpArgs false
namespace Jvm.Pilot.@@N@@
open Jvm Jvm.ClassFile Sem Op Lib Jvm.Free Jvm.Stand Jvm.LawKit Jvm.RoadKit Bundle Jvm.Pilot.@@N@@.Jvm.D
section Own
set_option maxHeartbeats 4000000
variable {p : Program} {l : Launch} {e : Env} {R : Room} {s : State} {m : MethodId} {args : Array Value} {below : List Frame} {meth : Method} {c : Code} {T : State} {locs : List Loc} {cells slots : Nat} {Z : State} {a0 : Array Value} {h : Heap} {own nm : String} {bytes : ByteArray} {ml : Nat} {rt : Option FieldType} {Q : Option Value → Heap → List Loc → Prop} {CC SS : Nat} {E : Outcome → State → Prop} {pc : Nat} {Ls : Array Slot} {St : List Value}
def Ctx (p : Program) (s : State) (m : MethodId) (meth : Method) (c : Code) (Z : State) (own nm : String) (bytes : ByteArray) (ml : Nat) (rt : Option FieldType) : Prop :=
  p.tables.exec = Jvm.exec ∧ Z.Warmed39 s.vm ∧ c.code = bytes ∧ c.maxLocals = ml ∧ s.vm.findClass own = some m.cls ∧ meth.locks = false ∧ meth.sig.returnType = rt ∧ meth.name = nm
theorem Ctx.c_x (C : Ctx p s m meth c Z own nm bytes ml rt) : p.tables.exec = Jvm.exec := C.1
theorem Ctx.c_z (C : Ctx p s m meth c Z own nm bytes ml rt) : Z.Warmed39 s.vm := C.2.1
theorem Ctx.c_by (C : Ctx p s m meth c Z own nm bytes ml rt) : c.code = bytes := C.2.2.1
theorem Ctx.c_ml (C : Ctx p s m meth c Z own nm bytes ml rt) : c.maxLocals = ml := C.2.2.2.1
theorem Ctx.c_own (C : Ctx p s m meth c Z own nm bytes ml rt) : s.vm.findClass own = some m.cls := C.2.2.2.2.1
theorem Ctx.c_lk (C : Ctx p s m meth c Z own nm bytes ml rt) : meth.locks = false := C.2.2.2.2.2.1
theorem Ctx.c_rt (C : Ctx p s m meth c Z own nm bytes ml rt) : meth.sig.returnType = rt := C.2.2.2.2.2.2.1
theorem Ctx.c_nm (C : Ctx p s m meth c Z own nm bytes ml rt) : meth.name = nm := C.2.2.2.2.2.2.2
def EndN (s : State) (Q : Option Value → Heap → List Loc → Prop) (CC SS : Nat) (o : Outcome) (t : State) : Prop := ∃ v L, o = .returned v ∧ Q v t.heap L ∧ FrameEnd s o t L CC SS
def Goes (p : Program) (e : Env) (below : List Frame) (E : Outcome → State → Prop) (T : State) (m : MethodId) (pc : Nat) (Ls : Array Slot) (St : List Value) : Prop :=
  ∃ s₂ o, Steps p.tables e below (T.setTop (mkF m pc Ls St)) s₂ ∧ s₂.status = .running ∧ Ended s₂ below o ∧ E o s₂
theorem Goes.back {T' : State} {q : Nat} {Ls' : Array Slot} {St' : List Value} (k : Goes p e below E T' m q Ls' St') (f : ∀ t, Steps p.tables e below (T'.setTop (mkF m q Ls' St')) t → Steps p.tables e below (T.setTop (mkF m pc Ls St)) t) : Goes p e below E T m pc Ls St := by
  obtain ⟨s2, o, h1, h2⟩ := k
  exact ⟨s2, o, f _ h1, h2⟩
theorem Goes.enter {g : JFrame} (hg : g = mkF m 0 Ls []) (k : Goes p e below (EndN s Q CC SS) T m 0 Ls []) : ∃ s₂ o, Steps p.tables e below (T.setTop g) s₂ ∧ s₂.status = .running ∧ Ended s₂ below o ∧ ∃ v L, o = .returned v ∧ Q v s₂.heap L ∧ FrameEnd s o s₂ L CC SS := by
  subst hg
  exact k
theorem Ctx.of {x : MethodName} {S : Spec} {s₁ : State} (Bd : BodyLoose p l x S bytes ml rt e s m args below meth c s₁) (hml : c.maxLocals = ml) (hZ : Z.Warmed39 s.vm) : Ctx p s m meth c Z x.cls x.name bytes ml rt :=
  ⟨Bd.exec, hZ, Bd.bytes, hml, findClass_of_methodNamed Bd.named, Bd.notSynchronized, Bd.returns, (name_of_methodNamed Bd.named Bd.method).1⟩
theorem g_iadd (q : Nat) (hq : pc + 1 = q) (C : Ctx p s m meth c Z own nm bytes ml rt) (X : Stand p l e R s m args below meth c T locs cells slots) {x y : Int32} (hd : decode bytes pc = .ok (.iadd, 1)) (k : Goes p e below E T m q Ls (.int (x + y) :: St)) : Goes p e below E T m pc Ls (.int y :: .int x :: St) := by
  subst hq
  exact k.back fun t kt => XS.iadd (g := mkF m pc Ls (.int y :: .int x :: St)) X.here C.c_x rfl (hb C.c_by hd) rfl kt
theorem g_iand (q : Nat) (hq : pc + 1 = q) (C : Ctx p s m meth c Z own nm bytes ml rt) (X : Stand p l e R s m args below meth c T locs cells slots) {x y : Int32} (hd : decode bytes pc = .ok (.iand, 1)) (k : Goes p e below E T m q Ls (.int (x &&& y) :: St)) : Goes p e below E T m pc Ls (.int y :: .int x :: St) := by
  subst hq
  exact k.back fun t kt => XS.iand (g := mkF m pc Ls (.int y :: .int x :: St)) X.here C.c_x rfl (hb C.c_by hd) rfl kt
theorem g_lxor (q : Nat) (hq : pc + 1 = q) (C : Ctx p s m meth c Z own nm bytes ml rt) (X : Stand p l e R s m args below meth c T locs cells slots) {x y : Int64} (hd : decode bytes pc = .ok (.lxor, 1)) (k : Goes p e below E T m q Ls (.long (x ^^^ y) :: St)) : Goes p e below E T m pc Ls (.long y :: .long x :: St) := by
  subst hq
  exact k.back fun t kt => XS.lxor (g := mkF m pc Ls (.long y :: .long x :: St)) X.here C.c_x rfl (hb C.c_by hd) rfl kt
theorem g_irem (q : Nat) (hq : pc + 1 = q) (C : Ctx p s m meth c Z own nm bytes ml rt) (X : Stand p l e R s m args below meth c T locs cells slots) {x y : Int32} (hd : decode bytes pc = .ok (.irem, 1)) (hy : y ≠ 0) (k : Goes p e below E T m q Ls (.int (x % y) :: St)) : Goes p e below E T m pc Ls (.int y :: .int x :: St) := by
  subst hq
  exact k.back fun t kt => XS.irem (g := mkF m pc Ls (.int y :: .int x :: St)) X.here C.c_x rfl (hb C.c_by hd) rfl hy (by rw [irem_eq_mod]; exact kt)
theorem g_iushr (q : Nat) (hq : pc + 1 = q) (C : Ctx p s m meth c Z own nm bytes ml rt) (X : Stand p l e R s m args below meth c T locs cells slots) {x y : Int32} (hd : decode bytes pc = .ok (.iushr, 1)) (k : Goes p e below E T m q Ls (.int ((x.toUInt32 >>> (y &&& 31).toUInt32).toInt32) :: St)) : Goes p e below E T m pc Ls (.int y :: .int x :: St) := by
  subst hq
  exact k.back fun t kt => XS.iushr (g := mkF m pc Ls (.int y :: .int x :: St)) X.here C.c_x rfl (hb C.c_by hd) rfl kt
theorem g_lshl (q : Nat) (hq : pc + 1 = q) (C : Ctx p s m meth c Z own nm bytes ml rt) (X : Stand p l e R s m args below meth c T locs cells slots) {x : Int64} {y : Int32} (hd : decode bytes pc = .ok (.lshl, 1)) (k : Goes p e below E T m q Ls (.long (x <<< (y &&& 0x3f).toInt64) :: St)) : Goes p e below E T m pc Ls (.int y :: .long x :: St) := by
  subst hq
  exact k.back fun t kt => XS.lshl (g := mkF m pc Ls (.int y :: .long x :: St)) X.here C.c_x rfl (hb C.c_by hd) rfl kt
theorem g_lushr (q : Nat) (hq : pc + 1 = q) (C : Ctx p s m meth c Z own nm bytes ml rt) (X : Stand p l e R s m args below meth c T locs cells slots) {x : Int64} {y : Int32} (hd : decode bytes pc = .ok (.lushr, 1)) (k : Goes p e below E T m q Ls (.long ((x.toUInt64 >>> (y &&& 0x3f).toInt64.toUInt64).toInt64) :: St)) : Goes p e below E T m pc Ls (.int y :: .long x :: St) := by
  subst hq
  exact k.back fun t kt => XS.lushr (g := mkF m pc Ls (.int y :: .long x :: St)) X.here C.c_x rfl (hb C.c_by hd) rfl kt
theorem g_i2c (q : Nat) (hq : pc + 1 = q) (C : Ctx p s m meth c Z own nm bytes ml rt) (X : Stand p l e R s m args below meth c T locs cells slots) {x : Int32} (hd : decode bytes pc = .ok (.i2c, 1)) (k : Goes p e below E T m q Ls (.int (x.toUInt32.toUInt16.toUInt32.toInt32) :: St)) : Goes p e below E T m pc Ls (.int x :: St) := by
  subst hq
  exact k.back fun t kt => XS.i2c (g := mkF m pc Ls (.int x :: St)) X.here C.c_x rfl (hb C.c_by hd) rfl kt
theorem g_i2l (q : Nat) (hq : pc + 1 = q) (C : Ctx p s m meth c Z own nm bytes ml rt) (X : Stand p l e R s m args below meth c T locs cells slots) {x : Int32} (hd : decode bytes pc = .ok (.i2l, 1)) (k : Goes p e below E T m q Ls (.long x.toInt64 :: St)) : Goes p e below E T m pc Ls (.int x :: St) := by
  subst hq
  exact k.back fun t kt => XS.i2l (g := mkF m pc Ls (.int x :: St)) X.here C.c_x rfl (hb C.c_by hd) rfl kt
theorem g_l2i (q : Nat) (hq : pc + 1 = q) (C : Ctx p s m meth c Z own nm bytes ml rt) (X : Stand p l e R s m args below meth c T locs cells slots) {x : Int64} (hd : decode bytes pc = .ok (.l2i, 1)) (k : Goes p e below E T m q Ls (.int x.toInt32 :: St)) : Goes p e below E T m pc Ls (.long x :: St) := by
  subst hq
  exact k.back fun t kt => XS.l2i (g := mkF m pc Ls (.long x :: St)) X.here C.c_x rfl (hb C.c_by hd) rfl kt
theorem g_lcmp (q : Nat) (hq : pc + 1 = q) (C : Ctx p s m meth c Z own nm bytes ml rt) (X : Stand p l e R s m args below meth c T locs cells slots) {x y : Int64} (hd : decode bytes pc = .ok (.lcmp, 1)) (k : Goes p e below E T m q Ls (.int (lcmpW x y) :: St)) : Goes p e below E T m pc Ls (.long y :: .long x :: St) := by
  subst hq
  exact k.back fun t kt => XS.lcmp (g := mkF m pc Ls (.long y :: .long x :: St)) X.here C.c_x rfl (hb C.c_by hd) rfl kt
theorem g_iconst (q : Nat) (hq : pc + 1 = q) (C : Ctx p s m meth c Z own nm bytes ml rt) (X : Stand p l e R s m args below meth c T locs cells slots) {i : Int} (v : Int32) (hd : decode bytes pc = .ok (.iconst i, 1)) (hv : Int32.ofInt i = v) (k : Goes p e below E T m q Ls (.int v :: St)) : Goes p e below E T m pc Ls St := by
  subst hq
  exact k.back fun t kt => XS.iconst (g := mkF m pc Ls St) X.here C.c_x rfl (hb C.c_by hd) (by subst hv; exact kt)
theorem g_bipush (q : Nat) (hq : pc + 2 = q) (C : Ctx p s m meth c Z own nm bytes ml rt) (X : Stand p l e R s m args below meth c T locs cells slots) {i : Int} (v : Int32) (hd : decode bytes pc = .ok (.bipush i, 2)) (hv : (Int8.ofInt i).toInt32 = v) (k : Goes p e below E T m q Ls (.int v :: St)) : Goes p e below E T m pc Ls St := by
  subst hq
  exact k.back fun t kt => XS.bipush (g := mkF m pc Ls St) X.here C.c_x rfl (hb C.c_by hd) (by subst hv; exact kt)
theorem g_iloadN (q : Nat) (hq : pc + 1 = q) (C : Ctx p s m meth c Z own nm bytes ml rt) (X : Stand p l e R s m args below meth c T locs cells slots) {k0 : Fin 4} {v : Int32} (hd : decode bytes pc = .ok (.iload_n k0, 1)) (hl : Ls[k0.val]? = some (.val (.int v))) (k : Goes p e below E T m q Ls (.int v :: St)) : Goes p e below E T m pc Ls St := by
  subst hq
  exact k.back fun t kt => XS.iloadN (g := mkF m pc Ls St) X.here C.c_x rfl (hb C.c_by hd) hl kt
theorem g_iload (q : Nat) (hq : pc + 2 = q) (C : Ctx p s m meth c Z own nm bytes ml rt) (X : Stand p l e R s m args below meth c T locs cells slots) {k0 : Nat} {v : Int32} (hd : decode bytes pc = .ok (.iload k0, 2)) (hl : Ls[k0]? = some (.val (.int v))) (k : Goes p e below E T m q Ls (.int v :: St)) : Goes p e below E T m pc Ls St := by
  subst hq
  exact k.back fun t kt => XS.iload (g := mkF m pc Ls St) X.here C.c_x rfl (hb C.c_by hd) hl kt
theorem g_lloadN (q : Nat) (hq : pc + 1 = q) (C : Ctx p s m meth c Z own nm bytes ml rt) (X : Stand p l e R s m args below meth c T locs cells slots) {k0 : Fin 4} {v : Int64} (hd : decode bytes pc = .ok (.lload_n k0, 1)) (hl : Ls[k0.val]? = some (.val (.long v))) (k : Goes p e below E T m q Ls (.long v :: St)) : Goes p e below E T m pc Ls St := by
  subst hq
  exact k.back fun t kt => XS.lloadN (g := mkF m pc Ls St) X.here C.c_x rfl (hb C.c_by hd) hl kt
theorem g_lload (q : Nat) (hq : pc + 2 = q) (C : Ctx p s m meth c Z own nm bytes ml rt) (X : Stand p l e R s m args below meth c T locs cells slots) {k0 : Nat} {v : Int64} (hd : decode bytes pc = .ok (.lload k0, 2)) (hl : Ls[k0]? = some (.val (.long v))) (k : Goes p e below E T m q Ls (.long v :: St)) : Goes p e below E T m pc Ls St := by
  subst hq
  exact k.back fun t kt => XS.lload (g := mkF m pc Ls St) X.here C.c_x rfl (hb C.c_by hd) hl kt
theorem g_aloadN (q : Nat) (hq : pc + 1 = q) (C : Ctx p s m meth c Z own nm bytes ml rt) (X : Stand p l e R s m args below meth c T locs cells slots) {k0 : Fin 4} {v : Value} (hd : decode bytes pc = .ok (.aload_n k0, 1)) (hl : Ls[k0.val]? = some (.val v)) (hv : v.isRef = true) (k : Goes p e below E T m q Ls (v :: St)) : Goes p e below E T m pc Ls St := by
  subst hq
  exact k.back fun t kt => XS.aloadN (g := mkF m pc Ls St) X.here C.c_x rfl (hb C.c_by hd) hl hv kt
theorem g_aload (q : Nat) (hq : pc + 2 = q) (C : Ctx p s m meth c Z own nm bytes ml rt) (X : Stand p l e R s m args below meth c T locs cells slots) {k0 : Nat} {v : Value} (hd : decode bytes pc = .ok (.aload k0, 2)) (hl : Ls[k0]? = some (.val v)) (hv : v.isRef = true) (k : Goes p e below E T m q Ls (v :: St)) : Goes p e below E T m pc Ls St := by
  subst hq
  exact k.back fun t kt => XS.aload (g := mkF m pc Ls St) X.here C.c_x rfl (hb C.c_by hd) hl hv kt
theorem g_istore (q : Nat) (hq : pc + 2 = q) (C : Ctx p s m meth c Z own nm bytes ml rt) (X : Stand p l e R s m args below meth c T locs cells slots) {k0 : Nat} {x : Int32} (v : Int32) (hv : x = v) (Ls' : Array Slot) (hd : decode bytes pc = .ok (.istore k0, 2)) (hl : storeLocals Ls k0 (.int v) = some Ls') (k : Goes p e below E T m q Ls' St) : Goes p e below E T m pc Ls (.int x :: St) := by
  subst hq
  exact k.back fun t kt => XS.istore (g := mkF m pc Ls (.int x :: St)) X.here C.c_x rfl (hb C.c_by hd) rfl (by subst hv; exact hl) kt
theorem g_lstoreN (q : Nat) (hq : pc + 1 = q) (C : Ctx p s m meth c Z own nm bytes ml rt) (X : Stand p l e R s m args below meth c T locs cells slots) {k0 : Fin 4} {x : Int64} (v : Int64) (hv : x = v) (Ls' : Array Slot) (hd : decode bytes pc = .ok (.lstore_n k0, 1)) (hl : storeLocals Ls k0.val (.long v) = some Ls') (k : Goes p e below E T m q Ls' St) : Goes p e below E T m pc Ls (.long x :: St) := by
  subst hq
  exact k.back fun t kt => XS.lstoreN (g := mkF m pc Ls (.long x :: St)) X.here C.c_x rfl (hb C.c_by hd) rfl (by subst hv; exact hl) kt
theorem g_lstore (q : Nat) (hq : pc + 2 = q) (C : Ctx p s m meth c Z own nm bytes ml rt) (X : Stand p l e R s m args below meth c T locs cells slots) {k0 : Nat} {x : Int64} (v : Int64) (hv : x = v) (Ls' : Array Slot) (hd : decode bytes pc = .ok (.lstore k0, 2)) (hl : storeLocals Ls k0 (.long v) = some Ls') (k : Goes p e below E T m q Ls' St) : Goes p e below E T m pc Ls (.long x :: St) := by
  subst hq
  exact k.back fun t kt => XS.lstore (g := mkF m pc Ls (.long x :: St)) X.here C.c_x rfl (hb C.c_by hd) rfl (by subst hv; exact hl) kt
theorem g_astore (q : Nat) (hq : pc + 2 = q) (C : Ctx p s m meth c Z own nm bytes ml rt) (X : Stand p l e R s m args below meth c T locs cells slots) {k0 : Nat} {x : Value} (Ls' : Array Slot) (hd : decode bytes pc = .ok (.astore k0, 2)) (hv : x.isRef = true) (hl : storeLocals Ls k0 x = some Ls') (k : Goes p e below E T m q Ls' St) : Goes p e below E T m pc Ls (x :: St) := by
  subst hq
  exact k.back fun t kt => XS.astore (g := mkF m pc Ls (x :: St)) X.here C.c_x rfl (hb C.c_by hd) rfl hv hl kt
theorem g_goto (q : Nat) (C : Ctx p s m meth c Z own nm bytes ml rt) (X : Stand p l e R s m args below meth c T locs cells slots) {o : Int} (hd : decode bytes pc = .ok (.goto o, 3)) (ho : 0 ≤ (pc : Int) + o) (hp : ((pc : Int) + o).toNat = q) (k : Goes p e below E T m q Ls St) : Goes p e below E T m pc Ls St :=
  k.back fun t kt => XS.goto (g := mkF m pc Ls St) X.here C.c_x rfl (pc0 := pc) (pc' := q) rfl (hb C.c_by hd) ho hp kt
theorem own_z0 : (0 : Int32).toInt = 0 := rfl
theorem g_il_ne_f (q : Nat) (hq : pc + 3 = q) (C : Ctx p s m meth c Z own nm bytes ml rt) (X : Stand p l e R s m args below meth c T locs cells slots) {o : Int} {x y : Int64} (hd : decode bytes pc = .ok (.ifCond .ne o, 3)) (h : x.toInt = y.toInt) (k : Goes p e below E T m q Ls St) : Goes p e below E T m pc Ls (.int (lcmpW x y) :: St) := by
  subst hq
  exact k.back fun t kt => XS.ifNo (g := mkF m pc Ls (.int (lcmpW x y) :: St)) X.here C.c_x rfl (hb C.c_by hd) rfl ((if0 _ _).trans (teq ((lw_eq x y).mpr (Int64.toInt_inj.mp h))).2) kt
theorem g_ldc (q : Nat) (hq : pc + 2 = q) (C : Ctx p s m meth c Z own nm bytes ml rt) (X : Stand p l e R s m args below meth c T locs cells slots) {i : Nat} {v : Int32} (w : (Cond.constant own i v).before a0 Z = true) (hd : decode bytes pc = .ok (.ldc i, 2)) (k : Goes p e below E T m q Ls (.int v :: St)) : Goes p e below E T m pc Ls St := by
  subst hq
  exact k.back fun t kt => X.ldcInt C.c_x C.c_own (mvT C.c_z w) (g := mkF m pc Ls St) rfl (hb C.c_by hd) _ kt
theorem g_retW (C : Ctx p s m meth c Z own nm bytes ml rt) (X : Stand p l e R s m args below meth c T locs cells slots) {w : Value} {t : FieldType} {i : Instr} (hrt : rt = some t) (hn : narrow t w = w)
    (hi : (i = .ireturn ∧ (t = .int ∨ t = .boolean ∨ t = .byte ∨ t = .char ∨ t = .short) ∧ ∃ z, w = .int z) ∨ (i = .lreturn ∧ t = .long ∧ ∃ z, w = .long z) ∨ (i = .dreturn ∧ t = .double ∧ ∃ z, w = .double z) ∨ (i = .freturn ∧ t = .float ∧ ∃ z, w = .float z) ∨ (i = .areturn ∧ t.isReference = true ∧ w.isRef = true))
    (hd : decode bytes pc = .ok (i, 1)) (eT : T.heap = h) (hc : cells ≤ CC) (hs : slots ≤ SS) (hQ : Q (some w) h locs) : Goes p e below (EndN s Q CC SS) T m pc Ls (w :: St) := by
  obtain ⟨fs, hr, hrun, hended, hW, hsame⟩ := X.leave (v := some w) (fun r => by rw [C.c_rt, hrt] at r; cases r) C.c_lk
  subst eT
  exact ⟨_, _, retOut X C.c_x (C.c_rt.trans hrt) hn hi (hb C.c_by hd) hr, hrun, hended, _, _, rfl, hQ, ⟨_, rfl⟩, hW, hsame.mono hc hs⟩
theorem g_retJ (C : Ctx p s m meth c Z own nm bytes ml rt) (X : Stand p l e R s m args below meth c T locs cells slots) {z : Int64} (hrt : rt = some .long) (hd : decode bytes pc = .ok (.lreturn, 1)) (eT : T.heap = h) (hc : cells ≤ CC) (hs : slots ≤ SS) (hQ : Q (some (.long z)) h locs) : Goes p e below (EndN s Q CC SS) T m pc Ls (.long z :: St) :=
  g_retW C X hrt rfl (Or.inr (Or.inl ⟨rfl, rfl, z, rfl⟩)) hd eT hc hs hQ
theorem g_retN (C : Ctx p s m meth c Z own nm bytes ml rt) (X : Stand p l e R s m args below meth c T locs cells slots) {z z' : Int32} {t : FieldType} (hrt : rt = some t) (ht : t = .boolean ∨ t = .byte ∨ t = .char ∨ t = .short) (hd : decode bytes pc = .ok (.ireturn, 1)) (eT : T.heap = h) (hc : cells ≤ CC) (hs : slots ≤ SS) (hz : nar t z = z') (hQ : Q (some (.int z')) h locs) : Goes p e below (EndN s Q CC SS) T m pc Ls (.int z :: St) := by
  obtain ⟨fs, hr, hrun, hended, hW, hsame⟩ := X.leave (v := some (.int (nar t z))) (fun r => by rw [C.c_rt, hrt] at r; cases r) C.c_lk
  subst eT
  subst hz
  exact ⟨_, _, retN X C.c_x (C.c_rt.trans hrt) ht (hb C.c_by hd) hr, hrun, hended, _, _, rfl, hQ, ⟨_, rfl⟩, hW, hsame.mono hc hs⟩
def Ba (Z : State) (h : Heap) (a : Addr) (ty : FieldType) (n : Nat) (f : Nat → Int32) : Prop := ∃ c : Cell, Arr Z h a c ty ∧ c.slots.size = n ∧ n < 2 ^ 31 ∧ (∀ k, k < n → c.slots[k]? = some (.int (f k)))
def upd (f : Nat → Int32) (j : Nat) (v : Int32) : Nat → Int32 := fun k => bif Nat.beq k j then v else f k
theorem upd_same {f : Nat → Int32} {j k : Nat} {v : Int32} (q : k = j) : upd f j v k = v := by subst q; simp [upd]
theorem upd_ne {f : Nat → Int32} {j k : Nat} {v : Int32} (q : k ≠ j) : upd f j v k = f k := by
  have : Nat.beq k j = false := by
    cases hb : Nat.beq k j with
    | false => rfl
    | true => exact absurd (Nat.eq_of_beq_eq_true hb) q
  show (bif Nat.beq k j then v else f k) = f k
  rw [this]; rfl
theorem upd_eq (f : Nat → Int32) (j k : Nat) (v : Int32) : upd f j v k = if k = j then v else f k := by
  split
  · rename_i q; exact upd_same q
  · rename_i q; exact upd_ne q
theorem Ba.lt {a : Addr} {ty : FieldType} {n : Nat} {f : Nat → Int32} (F : Ba Z h a ty n f) : a < h.size := by obtain ⟨c, A, -⟩ := F; exact A.lt
theorem Ba.ext {h' : Heap} {a : Addr} {ty : FieldType} {n : Nat} {f : Nat → Int32} (F : Ba Z h a ty n f) (E : Ext h h') : Ba Z h' a ty n f := by obtain ⟨c, A, r⟩ := F; exact ⟨c, A.ext E, r⟩
theorem Ba.other {h' : Heap} {a b : Addr} {ty : FieldType} {n sl : Nat} {v : Value} {f : Nat → Int32} (F : Ba Z h a ty n f) (W : Wr h h' b sl v) (q : a ≠ b) : Ba Z h' a ty n f := by obtain ⟨c, A, r⟩ := F; exact ⟨c, A.other W q, r⟩
theorem Ba.keep {h' : Heap} {a : Addr} {ty : FieldType} {n : Nat} {ws : List Addr} {f : Nat → Int32} (F : Ba Z h a ty n f) (K : Keep h h' ws) (q : a ∉ ws) : Ba Z h' a ty n f := by obtain ⟨c, A, r⟩ := F; exact ⟨c, ⟨K.2.1 a c A.1 q, A.2⟩, r⟩
theorem Ba.same {h' : Heap} {a : Addr} {ty : FieldType} {n j : Nat} {v : Int32} {f : Nat → Int32} (F : Ba Z h a ty n f) (W : Wr h h' a j (.int v)) : Ba Z h' a ty n (upd f j v) := by
  obtain ⟨c, A, hs, hn, hf⟩ := F
  refine ⟨_, A.same W, by simp [Cell.setSlot, hs], hn, fun k hk => ?_⟩
  rw [upd_eq]
  by_cases q : k = j
  · subst q; simp [Cell.setSlot, hs, hk]
  · rw [if_neg q]; simp only [Cell.setSlot]; rw [Array.getElem?_setIfInBounds_ne (Ne.symm q)]; exact hf k hk
theorem Ba.cong {a : Addr} {ty : FieldType} {n : Nat} {f f' : Nat → Int32} (F : Ba Z h a ty n f) (q : ∀ k, k < n → f k = f' k) : Ba Z h a ty n f' := by
  obtain ⟨c, A, hs, hn, hf⟩ := F
  exact ⟨c, A, hs, hn, fun k hk => by rw [← q k hk]; exact hf k hk⟩
theorem Ba.new {a : Addr} {cA : ClassId} {ty : FieldType} {z : Int32} {n : Nat} (A : Arr Z h a (newA cA ty z) ty) (hz : z.toInt = n) (hd : defaultValue ty = .int 0) : Ba Z h a ty n (fun _ => 0) := by
  have hr := rng32 z
  have hn : z.toNatClampNeg = n := by simp only [Int32.toNatClampNeg, hz]; rfl
  exact ⟨_, A, by rw [sz_new, hn], by omega, fun k hk => by simp [newA, hn, hk, hd]⟩
theorem own_clamp {j : Int32} {k : Nat} (hj : j.toInt = k) : j.toNatClampNeg = k ∧ ¬ j < 0 := by
  refine ⟨by simp only [Int32.toNatClampNeg, hj]; rfl, fun r => ?_⟩
  have := Int32.lt_iff_toInt_lt.mp r
  rw [hj, own_z0] at this; omega
theorem own_in {j : Int32} {k n : Nat} {c : Cell} (hs : c.slots.size = n) (hj : j.toInt = k) (hk : k < n) : ¬ (j < 0 ∨ c.slots.size ≤ j.toNatClampNeg) := by
  obtain ⟨h1, h2⟩ := own_clamp hj
  rw [h1, hs]; intro r; rcases r with r | r
  · exact h2 r
  · omega
theorem own_lenI {n : Nat} (hn : n < 2 ^ 31) : (n.toInt32).toInt = n := by
  have := len_toInt hn
  exact this
theorem g_newP (q : Nat) (hq : pc + 2 = q) (C : Ctx p s m meth c Z own nm bytes ml rt) (X : Stand p l e R s m args below meth c T locs cells slots) {aty : ArrayType} {z : Int32} (n : Nat) (hz : z.toInt = n) (cap : Nat) (hcap : n ≤ cap) (hb' : cap * 8 ≤ 536870912) (hdf : defaultValue (newarray.typeOf aty) = .int 0) (w : (Cond.arrayClass (newarray.typeOf aty)).before a0 Z = true) (eT : T.heap = h) (hd : decode bytes pc = .ok (.newarray aty, 2)) (hc : cells + 1 ≤ R.cells) (hl : slots + cap ≤ R.slots)
    (k : ∀ T' h' a, a = h.size → Stand p l e R s m args below meth c T' locs (cells + 1) (slots + cap) → T'.heap = h' → Ext h h' → Ba Z h' a (newarray.typeOf aty) n (fun _ => 0) → Goes p e below E T' m q Ls (.ref a :: St)) : Goes p e below E T m pc Ls (.int z :: St) := by
  subst hq
  obtain ⟨h1, h2⟩ := own_clamp hz
  obtain ⟨T', h', cA, X', e', E', A', st⟩ := newP X C.c_x C.c_z w eT (g := mkF m pc Ls (.int z :: St)) rfl (hb C.c_by hd) rfl h2 (cap := cap) (by rw [h1]; exact hcap) hb' hc hl
  exact (k T' h' _ rfl X' e' E' (Ba.new A' hz hdf)).back fun t kt => st t kt
theorem g_caload (q : Nat) (hq : pc + 1 = q) (C : Ctx p s m meth c Z own nm bytes ml rt) (X : Stand p l e R s m args below meth c T locs cells slots) {a : Addr} {n : Nat} {f : Nat → Int32} {j : Int32} (eT : T.heap = h) (F : Ba Z h a .char n f) (i : Nat) (hj : j.toInt = i) (hi : i < n) (v : Int32) (hv : f i = v) (hd : decode bytes pc = .ok (.caload, 1)) (k : Goes p e below E T m q Ls (.int v :: St)) : Goes p e below E T m pc Ls (.int j :: .ref a :: St) := by
  subst hq
  obtain ⟨c0, A, hs, hn, hf⟩ := F
  exact k.back fun t kt => X.caload C.c_x (j := j) (v := .int v) (by rw [eT]; exact A.1) (State.isArrayOf_alike C.c_z.alike A.2.1) A.2.2 (own_in hs hj hi) (by rw [(own_clamp hj).1, ← hv]; exact hf i hi) (g := mkF m pc Ls (.int j :: .ref a :: St)) rfl rfl (hb C.c_by hd) t kt
theorem g_castore (q : Nat) (hq : pc + 1 = q) (C : Ctx p s m meth c Z own nm bytes ml rt) (X : Stand p l e R s m args below meth c T locs cells slots) {a : Addr} {n : Nat} {f : Nat → Int32} {j x : Int32} (eT : T.heap = h) (F : Ba Z h a .char n f) (i : Nat) (hj : j.toInt = i) (hi : i < n) (v : Int32) (hv : x.toUInt32.toUInt16.toUInt32.toInt32 = v) (hd : decode bytes pc = .ok (.castore, 1)) {n0 : Nat} (N : Fr n0 locs) (hn0 : n0 ≤ a)
    (k : ∀ T' h' locs', Stand p l e R s m args below meth c T' locs' cells slots → T'.heap = h' → Wr h h' a i (.int v) → Ba Z h' a .char n (upd f i v) → Fr n0 locs' → Goes p e below E T' m q Ls St) : Goes p e below E T m pc Ls (.int x :: .int j :: .ref a :: St) := by
  subst hq hv
  have F0 := F
  obtain ⟨c0, A, hs, hn, hf⟩ := F
  obtain ⟨T', h', X', e', W', st⟩ := stC X C.c_x C.c_z eT A (j := j) (own_in hs hj hi) (g := mkF m pc Ls (.int x :: .int j :: .ref a :: St)) rfl rfl (hb C.c_by hd)
  rw [(own_clamp hj).1] at W' X'
  exact (k T' h' _ X' e' W' (F0.same W') (Fr.snoc X' N hn0)).back fun t kt => st t kt
theorem own_narByte {b : Int32} (h0 : -128 ≤ b.toInt) (h1 : b.toInt < 128) : b.toInt8.toInt32 = b := by
  have := c_i2b b
  exact Int32.toInt_inj.mp (by omega)
theorem own_fitB {x : Int32} (h0 : -128 ≤ x.toInt) (h1 : x.toInt < 128) : fits .byte (.int x) = true := by
  have e := own_narByte h0 h1
  rw [← e]; exact fits_nar_byte x

theorem g_callS (q : Nat) (hq : pc + 3 = q) (C : Ctx p s m meth c Z own nm bytes ml rt) (X : Stand p l e R s m args below meth c T locs cells slots) {y : MethodName} {bytes' : ByteArray} {maxL' : Nat} {ret' : Option FieldType} {rm : Room} {Q' : Option Value → Heap → List Loc → Prop} {i W : Nat} {argsL : List Value} (w1 : (Cond.methodLink own i y).before a0 Z = true) (w2 : (Cond.static y).before a0 Z = true) (wc : (Cond.code y bytes' maxL' ret').before a0 Z = true) (wz : (Cond.initialized y.cls).before a0 Z = true) (eT : T.heap = h) (M : MetFree l y (head1 [Cond.code y bytes' maxL' ret'] rm) (fun a' U => a' = argsL.toArray ∧ Z.Warmed39 U.vm ∧ U.heap = h) (fun _ _ _ _ _ => True) (fun _ U o U' => ∃ v L, o = .returned v ∧ Q' v U'.heap L ∧ FrameEnd U o U' L rm.cells rm.slots)) (hlen : ∀ sig, parseMethodDescriptor y.desc = some sig → argsL.length = sig.parameters.length) (hf : rm.frames + 1 ≤ R.frames) (hl : W + (maxL' + 11) + rm.locals ≤ R.locals) (hc : cells + rm.cells ≤ R.cells) (hsl : slots + rm.slots ≤ R.slots) (hsz : Ls.size = ml) (hW : (St.map fun v => v.category).sum ≤ W) (hy : y.cls ≠ "java/lang/invoke/MethodHandle" ∧ y.cls ≠ "java/lang/invoke/VarHandle") (hd : decode bytes pc = .ok (.invokestatic i, 3)) {St0 : List Value} (hst : St0 = argsL.reverse ++ St)
    (k : ∀ v T' L, Stand p l e R s m args below meth c T' (locs ++ L) (cells + rm.cells) (slots + rm.slots) → Q' v T'.heap L → Goes p e below E T' m q Ls (v.toList ++ St)) : Goes p e below E T m pc Ls St0 := by
  subst hq hst
  obtain ⟨v, _, ⟨T', L', k', n'⟩, -, X', ⟨Lc, hQ', l', y', z'⟩, st⟩ := Jvm.LawKit.callS X C.c_x (y := y) C.c_own (mvT C.c_z w1) (mvT C.c_z w2) (mvT C.c_z wz) (mvT C.c_z wc) hy (backOf (W := W) M C.c_z wc wz hf hl) (g := mkF m pc Ls (argsL.reverse ++ St)) rfl (hsz.trans C.c_ml.symm) (argsL := argsL) (rest := St) hlen rfl (by show 2 * 0 + _ ≤ _; omega) (hb C.c_by hd) (fun _ _ => ⟨rfl, eT, hc, hsl⟩)
  dsimp only [Pt.U, Pt.locs, Pt.cells, Pt.slots] at X' l' y' z' st hQ'
  subst l' y' z'
  exact (k v T' Lc X' hQ').back fun t kt => st t kt
end Own
section OwnArith
theorem own_mulc (x y : Int32) (k : Int) (hk : y.toInt = k) : ((x * y).toInt - x.toInt * k) % 4294967296 = 0 := hk ▸ c_imul x y
theorem own_mulc' (x y : Int32) (k : Int) (hk : x.toInt = k) : ((x * y).toInt - k * y.toInt) % 4294967296 = 0 := hk ▸ c_imul x y
theorem own_lmulc (x y : Int64) (k : Int) (hk : y.toInt = k) : ((x * y).toInt - x.toInt * k) % 18446744073709551616 = 0 := hk ▸ c_lmul x y
theorem own_lmulc' (x y : Int64) (k : Int) (hk : x.toInt = k) : ((x * y).toInt - k * y.toInt) % 18446744073709551616 = 0 := hk ▸ c_lmul x y
theorem own_bvor (x y : BitVec 32) : (x ||| y) + (x &&& y) = x + y := by
  have h1 : x = (x &&& y) + (x &&& ~~~y) := by
    rw [BitVec.add_eq_or_of_and_eq_zero]
    · ext i; simp; cases x[i] <;> cases y[i] <;> rfl
    · ext i; simp; cases x[i] <;> cases y[i] <;> simp
  have h2 : x ||| y = y + (x &&& ~~~y) := by
    rw [BitVec.add_eq_or_of_and_eq_zero]
    · ext i; simp; cases x[i] <;> cases y[i] <;> rfl
    · ext i; simp; cases x[i] <;> cases y[i] <;> simp
  rw [h2]
  conv => rhs; rw [h1]
  ac_rfl
theorem own_or0 (x y : Int32) : (x ||| y) + (x &&& y) = x + y := Int32.toBitVec_inj.mp (by simpa using own_bvor x.toBitVec y.toBitVec)
theorem own_or (x y : Int32) : ((x ||| y).toInt + (x &&& y).toInt - (x.toInt + y.toInt)) % 4294967296 = 0 := by
  have h1 := c_iadd (x ||| y) (x &&& y)
  have h2 := c_iadd x y
  rw [own_or0] at h1; omega
theorem own_bvblk (x m a b : BitVec 32) (h1 : m ||| a = b) (h2 : m &&& a = 0#32) : (x &&& m) + (x &&& a) = x &&& b := by
  rw [BitVec.add_eq_or_of_and_eq_zero, ← h1]
  · ext i; simp; cases x[i] <;> simp
  · have : (x &&& m) &&& (x &&& a) = x &&& (m &&& a) := by ext i; simp; cases x[i] <;> simp
    rw [this, h2]; simp
theorem own_blk (x m a b : Int32) (h1 : m ||| a = b) (h2 : m &&& a = 0) : ((x &&& m).toInt + (x &&& a).toInt - (x &&& b).toInt) % 4294967296 = 0 := by
  have e : (x &&& m) + (x &&& a) = x &&& b := Int32.toBitVec_inj.mp (by
    have q1 := congrArg Int32.toBitVec h1
    have q2 := congrArg Int32.toBitVec h2
    simpa using own_bvblk x.toBitVec m.toBitVec a.toBitVec b.toBitVec (by simpa using q1) (by simpa using q2))
  have := c_iadd (x &&& m) (x &&& a)
  rw [e] at this; omega
theorem own_andM1 (x : Int32) : x &&& (-1) = x := Int32.toBitVec_inj.mp (by ext i; simp)
theorem own_narZ {b : Int32} (hb : b.toInt = 0 ∨ b.toInt = 1) : nar .boolean b = b := by
  have : b = 0 ∨ b = 1 := by
    rcases hb with q | q
    · exact Or.inl (Int32.toInt_inj.mp q)
    · exact Or.inr (Int32.toInt_inj.mp q)
  rcases this with rfl | rfl <;> decide
theorem own_narC {b : Int32} (h0 : 0 ≤ b.toInt) (h1 : b.toInt < 65536) : nar .char b = b := by
  have := c_i2c b
  exact Int32.toInt_inj.mp (by show b.toUInt32.toUInt16.toUInt32.toInt32.toInt = _; omega)
theorem own_narB {b : Int32} (h0 : -128 ≤ b.toInt) (h1 : b.toInt < 128) : nar .byte b = b := by
  have := c_i2b b
  exact Int32.toInt_inj.mp (by show b.toInt8.toInt32.toInt = _; omega)
theorem own_eq {x y : Int32} (q : x.toInt = y.toInt) : x = y := Int32.toInt_inj.mp q
theorem own_eqL {x y : Int64} (q : x.toInt = y.toInt) : x = y := Int64.toInt_inj.mp q
end OwnArith


theorem own_shl (x : Int64) (q : Int32) (k : Nat) (hk : q.toBitVec.toNat % 64 = k) : (x <<< (q &&& 0x3f).toInt64).toBitVec = x.toBitVec <<< k := by
  obtain ⟨h1, h2⟩ := sm64 q k hk
  rw [Int64.toBitVec_shiftLeft, h1]
  show x.toBitVec <<< ((BitVec.ofNat 64 k).smod 64) = _
  rw [BitVec.shiftLeft_eq', smod64 k h2]
theorem own_g2 (s : Nat → BitVec 64 → BitVec 64) (hx : ∀ n x y, s n (x ^^^ y) = s n x ^^^ s n y) (ha : ∀ n m x, s m (s n x) = s (n + m) x) (a0 a1 a2 a3 a4 a5 a6 a7 : BitVec 64) : ((((a0 ^^^ s 8 a1) ^^^ s 16 a2) ^^^ s 24 a3) ^^^ (((s 32 a4 ^^^ s 40 a5) ^^^ s 48 a6) ^^^ s 56 a7)) = (s 8 (s 8 (s 8 (s 8 (s 8 (s 8 (s 8 a7 ^^^ a6) ^^^ a5) ^^^ a4) ^^^ a3) ^^^ a2) ^^^ a1) ^^^ a0) := by
  simp only [hx, ha, Nat.reduceAdd]
  ac_rfl
theorem own_gram0 (s8 s16 s24 s32 s40 s48 s56 : Int64) (h8 : ∀ x : Int64, (x <<< s8).toBitVec = x.toBitVec <<< 8) (h16 : ∀ x : Int64, (x <<< s16).toBitVec = x.toBitVec <<< 16) (h24 : ∀ x : Int64, (x <<< s24).toBitVec = x.toBitVec <<< 24) (h32 : ∀ x : Int64, (x <<< s32).toBitVec = x.toBitVec <<< 32) (h40 : ∀ x : Int64, (x <<< s40).toBitVec = x.toBitVec <<< 40) (h48 : ∀ x : Int64, (x <<< s48).toBitVec = x.toBitVec <<< 48) (h56 : ∀ x : Int64, (x <<< s56).toBitVec = x.toBitVec <<< 56) (a0 a1 a2 a3 a4 a5 a6 a7 : Int64) : ((((a0 ^^^ (a1 <<< s8)) ^^^ (a2 <<< s16)) ^^^ (a3 <<< s24)) ^^^ ((((a4 <<< s32) ^^^ (a5 <<< s40)) ^^^ (a6 <<< s48)) ^^^ (a7 <<< s56))) = ((((((((((((((a7 <<< s8) ^^^ a6) <<< s8) ^^^ a5) <<< s8) ^^^ a4) <<< s8) ^^^ a3) <<< s8) ^^^ a2) <<< s8) ^^^ a1) <<< s8) ^^^ a0) := by
  apply Int64.toBitVec_inj.mp
  simp only [Int64.toBitVec_xor, h8, h16, h24, h32, h40, h48, h56]
  exact own_g2 (fun n x => x <<< n) (fun n x y => BitVec.shiftLeft_xor_distrib ..) (fun n m x => (BitVec.shiftLeft_add ..).symm) _ _ _ _ _ _ _ _
theorem own_gram (a0 a1 a2 a3 a4 a5 a6 a7 : Int64) : ((((a0 ^^^ (a1 <<< ((8 : Int32) &&& 0x3f).toInt64)) ^^^ (a2 <<< ((16 : Int32) &&& 0x3f).toInt64)) ^^^ (a3 <<< ((24 : Int32) &&& 0x3f).toInt64)) ^^^ ((((a4 <<< ((32 : Int32) &&& 0x3f).toInt64) ^^^ (a5 <<< ((40 : Int32) &&& 0x3f).toInt64)) ^^^ (a6 <<< ((48 : Int32) &&& 0x3f).toInt64)) ^^^ (a7 <<< ((56 : Int32) &&& 0x3f).toInt64))) = ((((((((((((((a7 <<< ((8 : Int32) &&& 0x3f).toInt64) ^^^ a6) <<< ((8 : Int32) &&& 0x3f).toInt64) ^^^ a5) <<< ((8 : Int32) &&& 0x3f).toInt64) ^^^ a4) <<< ((8 : Int32) &&& 0x3f).toInt64) ^^^ a3) <<< ((8 : Int32) &&& 0x3f).toInt64) ^^^ a2) <<< ((8 : Int32) &&& 0x3f).toInt64) ^^^ a1) <<< ((8 : Int32) &&& 0x3f).toInt64) ^^^ a0) :=
  own_gram0 _ _ _ _ _ _ _ (fun x => own_shl x (8 : Int32) 8 (by decide)) (fun x => own_shl x (16 : Int32) 16 (by decide)) (fun x => own_shl x (24 : Int32) 24 (by decide)) (fun x => own_shl x (32 : Int32) 32 (by decide)) (fun x => own_shl x (40 : Int32) 40 (by decide)) (fun x => own_shl x (48 : Int32) 48 (by decide)) (fun x => own_shl x (56 : Int32) 56 (by decide)) a0 a1 a2 a3 a4 a5 a6 a7
theorem d1_0 : decode prog_44_method_20_code 0 = .ok (.aload_n 0, 1) := by decide +kernel
theorem d1_1 : decode prog_44_method_20_code 1 = .ok (.iload_n 1, 1) := by decide +kernel
theorem d1_2 : decode prog_44_method_20_code 2 = .ok (.caload, 1) := by decide +kernel
theorem d1_3 : decode prog_44_method_20_code 3 = .ok (.i2l, 1) := by decide +kernel
theorem d1_4 : decode prog_44_method_20_code 4 = .ok (.aload_n 0, 1) := by decide +kernel
theorem d1_5 : decode prog_44_method_20_code 5 = .ok (.iload_n 1, 1) := by decide +kernel
theorem d1_6 : decode prog_44_method_20_code 6 = .ok (.iconst 1, 1) := by decide +kernel
theorem d1_7 : decode prog_44_method_20_code 7 = .ok (.iadd, 1) := by decide +kernel
theorem d1_8 : decode prog_44_method_20_code 8 = .ok (.caload, 1) := by decide +kernel
theorem d1_9 : decode prog_44_method_20_code 9 = .ok (.i2l, 1) := by decide +kernel
theorem d1_10 : decode prog_44_method_20_code 10 = .ok (.bipush 8, 2) := by decide +kernel
theorem d1_12 : decode prog_44_method_20_code 12 = .ok (.lshl, 1) := by decide +kernel
theorem d1_13 : decode prog_44_method_20_code 13 = .ok (.lxor, 1) := by decide +kernel
theorem d1_14 : decode prog_44_method_20_code 14 = .ok (.aload_n 0, 1) := by decide +kernel
theorem d1_15 : decode prog_44_method_20_code 15 = .ok (.iload_n 1, 1) := by decide +kernel
theorem d1_16 : decode prog_44_method_20_code 16 = .ok (.iconst 2, 1) := by decide +kernel
theorem d1_17 : decode prog_44_method_20_code 17 = .ok (.iadd, 1) := by decide +kernel
theorem d1_18 : decode prog_44_method_20_code 18 = .ok (.caload, 1) := by decide +kernel
theorem d1_19 : decode prog_44_method_20_code 19 = .ok (.i2l, 1) := by decide +kernel
theorem d1_20 : decode prog_44_method_20_code 20 = .ok (.bipush 16, 2) := by decide +kernel
theorem d1_22 : decode prog_44_method_20_code 22 = .ok (.lshl, 1) := by decide +kernel
theorem d1_23 : decode prog_44_method_20_code 23 = .ok (.lxor, 1) := by decide +kernel
theorem d1_24 : decode prog_44_method_20_code 24 = .ok (.aload_n 0, 1) := by decide +kernel
theorem d1_25 : decode prog_44_method_20_code 25 = .ok (.iload_n 1, 1) := by decide +kernel
theorem d1_26 : decode prog_44_method_20_code 26 = .ok (.iconst 3, 1) := by decide +kernel
theorem d1_27 : decode prog_44_method_20_code 27 = .ok (.iadd, 1) := by decide +kernel
theorem d1_28 : decode prog_44_method_20_code 28 = .ok (.caload, 1) := by decide +kernel
theorem d1_29 : decode prog_44_method_20_code 29 = .ok (.i2l, 1) := by decide +kernel
theorem d1_30 : decode prog_44_method_20_code 30 = .ok (.bipush 24, 2) := by decide +kernel
theorem d1_32 : decode prog_44_method_20_code 32 = .ok (.lshl, 1) := by decide +kernel
theorem d1_33 : decode prog_44_method_20_code 33 = .ok (.lxor, 1) := by decide +kernel
theorem d1_34 : decode prog_44_method_20_code 34 = .ok (.lstore_n 2, 1) := by decide +kernel
theorem d1_35 : decode prog_44_method_20_code 35 = .ok (.aload_n 0, 1) := by decide +kernel
theorem d1_36 : decode prog_44_method_20_code 36 = .ok (.iload_n 1, 1) := by decide +kernel
theorem d1_37 : decode prog_44_method_20_code 37 = .ok (.iconst 4, 1) := by decide +kernel
theorem d1_38 : decode prog_44_method_20_code 38 = .ok (.iadd, 1) := by decide +kernel
theorem d1_39 : decode prog_44_method_20_code 39 = .ok (.caload, 1) := by decide +kernel
theorem d1_40 : decode prog_44_method_20_code 40 = .ok (.i2l, 1) := by decide +kernel
theorem d1_41 : decode prog_44_method_20_code 41 = .ok (.bipush 32, 2) := by decide +kernel
theorem d1_43 : decode prog_44_method_20_code 43 = .ok (.lshl, 1) := by decide +kernel
theorem d1_44 : decode prog_44_method_20_code 44 = .ok (.aload_n 0, 1) := by decide +kernel
theorem d1_45 : decode prog_44_method_20_code 45 = .ok (.iload_n 1, 1) := by decide +kernel
theorem d1_46 : decode prog_44_method_20_code 46 = .ok (.iconst 5, 1) := by decide +kernel
theorem d1_47 : decode prog_44_method_20_code 47 = .ok (.iadd, 1) := by decide +kernel
theorem d1_48 : decode prog_44_method_20_code 48 = .ok (.caload, 1) := by decide +kernel
theorem d1_49 : decode prog_44_method_20_code 49 = .ok (.i2l, 1) := by decide +kernel
theorem d1_50 : decode prog_44_method_20_code 50 = .ok (.bipush 40, 2) := by decide +kernel
theorem d1_52 : decode prog_44_method_20_code 52 = .ok (.lshl, 1) := by decide +kernel
theorem d1_53 : decode prog_44_method_20_code 53 = .ok (.lxor, 1) := by decide +kernel
theorem d1_54 : decode prog_44_method_20_code 54 = .ok (.aload_n 0, 1) := by decide +kernel
theorem d1_55 : decode prog_44_method_20_code 55 = .ok (.iload_n 1, 1) := by decide +kernel
theorem d1_56 : decode prog_44_method_20_code 56 = .ok (.bipush 6, 2) := by decide +kernel
theorem d1_58 : decode prog_44_method_20_code 58 = .ok (.iadd, 1) := by decide +kernel
theorem d1_59 : decode prog_44_method_20_code 59 = .ok (.caload, 1) := by decide +kernel
theorem d1_60 : decode prog_44_method_20_code 60 = .ok (.i2l, 1) := by decide +kernel
theorem d1_61 : decode prog_44_method_20_code 61 = .ok (.bipush 48, 2) := by decide +kernel
theorem d1_63 : decode prog_44_method_20_code 63 = .ok (.lshl, 1) := by decide +kernel
theorem d1_64 : decode prog_44_method_20_code 64 = .ok (.lxor, 1) := by decide +kernel
theorem d1_65 : decode prog_44_method_20_code 65 = .ok (.aload_n 0, 1) := by decide +kernel
theorem d1_66 : decode prog_44_method_20_code 66 = .ok (.iload_n 1, 1) := by decide +kernel
theorem d1_67 : decode prog_44_method_20_code 67 = .ok (.bipush 7, 2) := by decide +kernel
theorem d1_69 : decode prog_44_method_20_code 69 = .ok (.iadd, 1) := by decide +kernel
theorem d1_70 : decode prog_44_method_20_code 70 = .ok (.caload, 1) := by decide +kernel
theorem d1_71 : decode prog_44_method_20_code 71 = .ok (.i2l, 1) := by decide +kernel
theorem d1_72 : decode prog_44_method_20_code 72 = .ok (.bipush 56, 2) := by decide +kernel
theorem d1_74 : decode prog_44_method_20_code 74 = .ok (.lshl, 1) := by decide +kernel
theorem d1_75 : decode prog_44_method_20_code 75 = .ok (.lxor, 1) := by decide +kernel
theorem d1_76 : decode prog_44_method_20_code 76 = .ok (.lstore 4, 2) := by decide +kernel
theorem d1_78 : decode prog_44_method_20_code 78 = .ok (.lload_n 2, 1) := by decide +kernel
theorem d1_79 : decode prog_44_method_20_code 79 = .ok (.lload 4, 2) := by decide +kernel
theorem d1_81 : decode prog_44_method_20_code 81 = .ok (.lxor, 1) := by decide +kernel
theorem d1_82 : decode prog_44_method_20_code 82 = .ok (.lreturn, 1) := by decide +kernel
theorem pn_60377937 : plainName "com/example/otsing/otsing/algorithm/Prefilter" = true := by first | (simp [plainName, overriddenIn]; done) | decide +kernel
theorem ef_1 (m : MethodId) (b0 : Addr) (p1 : Int32) : entryFrame m #[(.ref b0), (.int p1)] 6 = mkF m 0 #[.val (.ref b0), .val (.int p1), .unset, .unset, .unset, .unset] [] := by first | (simp [entryFrame, mkF, argsToLocals, Value.category]; done) | rfl
def Q1 (Z : State) (b0 : Addr) (p1 : Int32) (f : Nat → Int32) (n : Nat) (h0 : Heap) (n0 : Nat) (v : Option Value) (h : Heap) (L : List Loc) : Prop := v = some (.long ((((((f n).toInt64) ^^^ (((f (n + 1)).toInt64) <<< ((8 : Int32) &&& 0x3f).toInt64)) ^^^ (((f (n + 2)).toInt64) <<< ((16 : Int32) &&& 0x3f).toInt64)) ^^^ (((f (n + 3)).toInt64) <<< ((24 : Int32) &&& 0x3f).toInt64)) ^^^ ((((((f (n + 4)).toInt64) <<< ((32 : Int32) &&& 0x3f).toInt64) ^^^ (((f (n + 5)).toInt64) <<< ((40 : Int32) &&& 0x3f).toInt64)) ^^^ (((f (n + 6)).toInt64) <<< ((48 : Int32) &&& 0x3f).toInt64)) ^^^ (((f (n + 7)).toInt64) <<< ((56 : Int32) &&& 0x3f).toInt64)))) ∧ Fr n0 L ∧ h = h0
set_option maxRecDepth 65536 in
set_option maxHeartbeats 40000000 in
theorem rm1 (l : Launch) (Z : State) (a0 : Array Value) (hw : ∀ d ∈ tables_1, d.before a0 Z = true) (ws : List Jvm.Cond) (b0 : Addr) (p1 : Int32) (f : Nat → Int32) (n : Nat) (h0 : Heap) (n0 : Nat) (Z0 : n0 ≤ h0.size) (B_b0 : Ba Z h0 b0 .char 12 f) (hn : p1.toInt = n) (hn4 : n ≤ 4) :
    MetFree l (⟨"com/example/otsing/otsing/algorithm/Prefilter", "gram", "([CI)J"⟩ : MethodName) (head1 (Jvm.Cond.code (⟨"com/example/otsing/otsing/algorithm/Prefilter", "gram", "([CI)J"⟩ : MethodName) prog_44_method_20_code 6 (some .long) :: ws) ({ frames := 0, cells := 0, slots := 0, locals := 0 } : Room)) (fun a U => a = #[(.ref b0), (.int p1)] ∧ Z.Warmed39 U.vm ∧ U.heap = h0) (fun _ _ _ _ _ => True) (fun _ U o U' => ∃ v L, o = .returned v ∧ Q1 Z b0 p1 f n h0 n0 v U'.heap L ∧ FrameEnd U o U' L ({ frames := 0, cells := 0, slots := 0, locals := 0 } : Room).cells ({ frames := 0, cells := 0, slots := 0, locals := 0 } : Room).slots) := by
  refine MetFree.of_bodySF (plainFor_of_name pn_60377937) hisR ?_
  intro p e s m args below meth c s₁ Bd hml0 hP hK
  obtain ⟨rfl, hZ, hh⟩ := hP
  have C : Ctx p s m meth c Z "com/example/otsing/otsing/algorithm/Prefilter" "gram" prog_44_method_20_code 6 (some .long) := Ctx.of Bd hml0 hZ
  have X0 : Stand p l e ({ frames := 0, cells := 0, slots := 0, locals := 0 } : Room) s m #[(.ref b0), (.int p1)] below meth c s₁ [] 0 0 := Stand.of_body Bd
  have e0 : s₁.heap = h0 := by rw [← hh, Bd.state]; rfl
  have N0 := Fr.nil n0
  refine Goes.enter (ef_1 m b0 p1) ?_
  clear hK hml0 hh
  refine g_aloadN 1 rfl C X0 d1_0 rfl rfl ?_
  refine g_iloadN 2 rfl C X0 d1_1 rfl ?_
  have fr1 := rng32 p1
  refine g_caload 3 rfl C X0 e0 B_b0 (n) (by omega) (by omega) (f n) rfl d1_2 ?_
  refine g_i2l 4 rfl C X0 d1_3 ?_
  refine g_aloadN 5 rfl C X0 d1_4 rfl rfl ?_
  refine g_iloadN 6 rfl C X0 d1_5 rfl ?_
  refine g_iconst 7 rfl C X0 (1 : Int32) d1_6 rfl ?_
  refine g_iadd 8 rfl C X0 d1_7 ?_
  have fc2 : (1 : Int32).toInt = 1 := rfl
  have fo3 := c_iadd p1 (1 : Int32)
  have fr4 := rng32 (p1 + (1 : Int32))
  refine g_caload 9 rfl C X0 e0 B_b0 (n + 1) (by omega) (by omega) (f (n + 1)) rfl d1_8 ?_
  refine g_i2l 10 rfl C X0 d1_9 ?_
  refine g_bipush 12 rfl C X0 (8 : Int32) d1_10 rfl ?_
  refine g_lshl 13 rfl C X0 d1_12 ?_
  refine g_lxor 14 rfl C X0 d1_13 ?_
  refine g_aloadN 15 rfl C X0 d1_14 rfl rfl ?_
  refine g_iloadN 16 rfl C X0 d1_15 rfl ?_
  refine g_iconst 17 rfl C X0 (2 : Int32) d1_16 rfl ?_
  refine g_iadd 18 rfl C X0 d1_17 ?_
  have fc5 : (2 : Int32).toInt = 2 := rfl
  have fo6 := c_iadd p1 (2 : Int32)
  have fr7 := rng32 (p1 + (2 : Int32))
  refine g_caload 19 rfl C X0 e0 B_b0 (n + 2) (by omega) (by omega) (f (n + 2)) rfl d1_18 ?_
  refine g_i2l 20 rfl C X0 d1_19 ?_
  refine g_bipush 22 rfl C X0 (16 : Int32) d1_20 rfl ?_
  refine g_lshl 23 rfl C X0 d1_22 ?_
  refine g_lxor 24 rfl C X0 d1_23 ?_
  refine g_aloadN 25 rfl C X0 d1_24 rfl rfl ?_
  refine g_iloadN 26 rfl C X0 d1_25 rfl ?_
  refine g_iconst 27 rfl C X0 (3 : Int32) d1_26 rfl ?_
  refine g_iadd 28 rfl C X0 d1_27 ?_
  have fc8 : (3 : Int32).toInt = 3 := rfl
  have fo9 := c_iadd p1 (3 : Int32)
  have fr10 := rng32 (p1 + (3 : Int32))
  refine g_caload 29 rfl C X0 e0 B_b0 (n + 3) (by omega) (by omega) (f (n + 3)) rfl d1_28 ?_
  refine g_i2l 30 rfl C X0 d1_29 ?_
  refine g_bipush 32 rfl C X0 (24 : Int32) d1_30 rfl ?_
  refine g_lshl 33 rfl C X0 d1_32 ?_
  refine g_lxor 34 rfl C X0 d1_33 ?_
  obtain ⟨v11, hv11⟩ : ∃ z : Int64, ((((((f n)).toInt64) ^^^ ((((f (n + 1))).toInt64) <<< ((8 : Int32) &&& 0x3f).toInt64)) ^^^ ((((f (n + 2))).toInt64) <<< ((16 : Int32) &&& 0x3f).toInt64)) ^^^ ((((f (n + 3))).toInt64) <<< ((24 : Int32) &&& 0x3f).toInt64)) = z := ⟨_, rfl⟩
  refine g_lstoreN 35 rfl C X0 v11 hv11 #[.val (.ref b0), .val (.int p1), .val (.long v11), .second, .unset, .unset] d1_34 rfl ?_
  refine g_aloadN 36 rfl C X0 d1_35 rfl rfl ?_
  refine g_iloadN 37 rfl C X0 d1_36 rfl ?_
  refine g_iconst 38 rfl C X0 (4 : Int32) d1_37 rfl ?_
  refine g_iadd 39 rfl C X0 d1_38 ?_
  have fc12 : (4 : Int32).toInt = 4 := rfl
  have fo13 := c_iadd p1 (4 : Int32)
  have fr14 := rng32 (p1 + (4 : Int32))
  refine g_caload 40 rfl C X0 e0 B_b0 (n + 4) (by omega) (by omega) (f (n + 4)) rfl d1_39 ?_
  refine g_i2l 41 rfl C X0 d1_40 ?_
  refine g_bipush 43 rfl C X0 (32 : Int32) d1_41 rfl ?_
  refine g_lshl 44 rfl C X0 d1_43 ?_
  refine g_aloadN 45 rfl C X0 d1_44 rfl rfl ?_
  refine g_iloadN 46 rfl C X0 d1_45 rfl ?_
  refine g_iconst 47 rfl C X0 (5 : Int32) d1_46 rfl ?_
  refine g_iadd 48 rfl C X0 d1_47 ?_
  have fc15 : (5 : Int32).toInt = 5 := rfl
  have fo16 := c_iadd p1 (5 : Int32)
  have fr17 := rng32 (p1 + (5 : Int32))
  refine g_caload 49 rfl C X0 e0 B_b0 (n + 5) (by omega) (by omega) (f (n + 5)) rfl d1_48 ?_
  refine g_i2l 50 rfl C X0 d1_49 ?_
  refine g_bipush 52 rfl C X0 (40 : Int32) d1_50 rfl ?_
  refine g_lshl 53 rfl C X0 d1_52 ?_
  refine g_lxor 54 rfl C X0 d1_53 ?_
  refine g_aloadN 55 rfl C X0 d1_54 rfl rfl ?_
  refine g_iloadN 56 rfl C X0 d1_55 rfl ?_
  refine g_bipush 58 rfl C X0 (6 : Int32) d1_56 rfl ?_
  refine g_iadd 59 rfl C X0 d1_58 ?_
  have fc18 : (6 : Int32).toInt = 6 := rfl
  have fo19 := c_iadd p1 (6 : Int32)
  have fr20 := rng32 (p1 + (6 : Int32))
  refine g_caload 60 rfl C X0 e0 B_b0 (n + 6) (by omega) (by omega) (f (n + 6)) rfl d1_59 ?_
  refine g_i2l 61 rfl C X0 d1_60 ?_
  refine g_bipush 63 rfl C X0 (48 : Int32) d1_61 rfl ?_
  refine g_lshl 64 rfl C X0 d1_63 ?_
  refine g_lxor 65 rfl C X0 d1_64 ?_
  refine g_aloadN 66 rfl C X0 d1_65 rfl rfl ?_
  refine g_iloadN 67 rfl C X0 d1_66 rfl ?_
  refine g_bipush 69 rfl C X0 (7 : Int32) d1_67 rfl ?_
  refine g_iadd 70 rfl C X0 d1_69 ?_
  have fc21 : (7 : Int32).toInt = 7 := rfl
  have fo22 := c_iadd p1 (7 : Int32)
  have fr23 := rng32 (p1 + (7 : Int32))
  refine g_caload 71 rfl C X0 e0 B_b0 (n + 7) (by omega) (by omega) (f (n + 7)) rfl d1_70 ?_
  refine g_i2l 72 rfl C X0 d1_71 ?_
  refine g_bipush 74 rfl C X0 (56 : Int32) d1_72 rfl ?_
  refine g_lshl 75 rfl C X0 d1_74 ?_
  refine g_lxor 76 rfl C X0 d1_75 ?_
  obtain ⟨v24, hv24⟩ : ∃ z : Int64, (((((((f (n + 4))).toInt64) <<< ((32 : Int32) &&& 0x3f).toInt64) ^^^ ((((f (n + 5))).toInt64) <<< ((40 : Int32) &&& 0x3f).toInt64)) ^^^ ((((f (n + 6))).toInt64) <<< ((48 : Int32) &&& 0x3f).toInt64)) ^^^ ((((f (n + 7))).toInt64) <<< ((56 : Int32) &&& 0x3f).toInt64)) = z := ⟨_, rfl⟩
  refine g_lstore 78 rfl C X0 v24 hv24 #[.val (.ref b0), .val (.int p1), .val (.long v11), .second, .val (.long v24), .second] d1_76 rfl ?_
  refine g_lloadN 79 rfl C X0 d1_78 rfl ?_
  refine g_lload 81 rfl C X0 d1_79 rfl ?_
  refine g_lxor 82 rfl C X0 d1_81 ?_
  skip
  subst hv11 hv24
  exact g_retJ C X0 rfl d1_82 e0 (by decide) (by decide) ⟨rfl, N0, rfl⟩
theorem pd_22969113 : parseMethodDescriptor "([CI)J" = some ⟨[(.array .char), .int], some .long⟩ := by decide +kernel
theorem pn_67739833 : plainName "com/example/otsing/otsing/algorithm/PrefilterGramPinLaw" = true := by first | (simp [plainName, overriddenIn]; done) | decide +kernel
theorem ef_0 (m : MethodId) (p0 : Int64) (p1 : Int64) (p2 : Int32) (p3 : Int32) (p4 : Int32) : entryFrame m #[(.long p0), (.long p1), (.int p2), (.int p3), (.int p4)] maxLocals = mkF m 0 #[.val (.long p0), .second, .val (.long p1), .second, .val (.int p2), .val (.int p3), .val (.int p4), .unset, .unset, .unset, .unset, .unset, .unset] [] := by first | (simp [entryFrame, mkF, argsToLocals, Value.category, maxLocals]; done) | rfl
def Q0 (Z : State) (p0 : Int64) (p1 : Int64) (p2 : Int32) (p3 : Int32) (p4 : Int32) (h0 : Heap) (n0 : Nat) (v : Option Value) (h : Heap) (L : List Loc) : Prop := v = some (.int 1) ∧ Fr n0 L
set_option maxRecDepth 65536 in
set_option maxHeartbeats 40000000 in
theorem rm0 (l : Launch) (Z : State) (a0 : Array Value) (hw : ∀ d ∈ tables_1, d.before a0 Z = true) (ws : List Jvm.Cond) (p0 : Int64) (p1 : Int64) (p2 : Int32) (p3 : Int32) (p4 : Int32) (h0 : Heap) (n0 : Nat) (Z0 : n0 ≤ h0.size) :
    MetFree l x (head1 (Jvm.Cond.code x code maxLocals ret :: ws) room_1) (fun a U => a = #[(.long p0), (.long p1), (.int p2), (.int p3), (.int p4)] ∧ Z.Warmed39 U.vm ∧ U.heap = h0) (fun _ _ _ _ _ => True) (fun _ U o U' => ∃ v L, o = .returned v ∧ Q0 Z p0 p1 p2 p3 p4 h0 n0 v U'.heap L ∧ FrameEnd U o U' L 16 128) := by
  refine MetFree.of_bodySF (plainFor_of_name pn_67739833) hisR ?_
  intro p e s m args below meth c s₁ Bd hml0 hP hK
  obtain ⟨rfl, hZ, hh⟩ := hP
  have C : Ctx p s m meth c Z "com/example/otsing/otsing/algorithm/PrefilterGramPinLaw" "law" code maxLocals ret := Ctx.of Bd hml0 hZ
  have X0 : Stand p l e room_1 s m #[(.long p0), (.long p1), (.int p2), (.int p3), (.int p4)] below meth c s₁ [] 0 0 := Stand.of_body Bd
  have e0 : s₁.heap = h0 := by rw [← hh, Bd.state]; rfl
  have N0 := Fr.nil n0
  refine Goes.enter (ef_0 m p0 p1 p2 p3 p4) ?_
  clear hK hml0 hh
  refine g_bipush 2 rfl C X0 (12 : Int32) at_0 rfl ?_
  refine g_newP 4 rfl C X0 12 (by decide) 12 (by decide) (by decide) rfl (hw _ (List.mem_of_getElem? (i := 0) rfl)) e0 at_2 (by decide) (by decide) fun T1 h2 o3 g4 X5 e6 E7 B8 => ?_
  have gn9 : n0 ≤ o3 := by rw [g4]; exact Z0
  have Zs10 := Nat.le_trans Z0 E7.1
  refine g_astore 6 rfl C X5 #[.val (.long p0), .second, .val (.long p1), .second, .val (.int p2), .val (.int p3), .val (.int p4), .val (.ref o3), .unset, .unset, .unset, .unset, .unset] at_4 rfl rfl ?_
  refine g_aload 8 rfl C X5 at_6 rfl rfl ?_
  refine g_iconst 9 rfl C X5 (0 : Int32) at_8 rfl ?_
  refine g_lloadN 10 rfl C X5 at_9 rfl ?_
  refine g_l2i 11 rfl C X5 at_10 ?_
  refine g_i2c 12 rfl C X5 at_11 ?_
  obtain ⟨w11, hw11⟩ : ∃ z : Int32, ((((((p0).toInt32)).toUInt32.toUInt16.toUInt32.toInt32)).toUInt32.toUInt16.toUInt32.toInt32) = z := ⟨_, rfl⟩
  refine g_castore 13 rfl C X5 e6 B8 0 (by decide) (by decide) w11 hw11 at_12 N0 gn9 fun T12 h13 ls14 X15 e16 W17 B18 N19 => ?_
  have Zs20 := Nat.le_trans Zs10 (Nat.le_of_eq W17.size.symm)
  refine g_aload 15 rfl C X15 at_13 rfl rfl ?_
  refine g_iconst 16 rfl C X15 (1 : Int32) at_15 rfl ?_
  refine g_lloadN 17 rfl C X15 at_16 rfl ?_
  refine g_bipush 19 rfl C X15 (16 : Int32) at_17 rfl ?_
  refine g_lushr 20 rfl C X15 at_19 ?_
  refine g_l2i 21 rfl C X15 at_20 ?_
  refine g_i2c 22 rfl C X15 at_21 ?_
  obtain ⟨w21, hw21⟩ : ∃ z : Int32, (((((((((p0).toUInt64 >>> ((16 : Int32) &&& 0x3f).toInt64.toUInt64).toInt64)).toInt32)).toUInt32.toUInt16.toUInt32.toInt32)).toUInt32.toUInt16.toUInt32.toInt32) = z := ⟨_, rfl⟩
  refine g_castore 23 rfl C X15 e16 B18 1 (by decide) (by decide) w21 hw21 at_22 N19 gn9 fun T22 h23 ls24 X25 e26 W27 B28 N29 => ?_
  have Zs30 := Nat.le_trans Zs20 (Nat.le_of_eq W27.size.symm)
  refine g_aload 25 rfl C X25 at_23 rfl rfl ?_
  refine g_iconst 26 rfl C X25 (2 : Int32) at_25 rfl ?_
  refine g_lloadN 27 rfl C X25 at_26 rfl ?_
  refine g_bipush 29 rfl C X25 (32 : Int32) at_27 rfl ?_
  refine g_lushr 30 rfl C X25 at_29 ?_
  refine g_l2i 31 rfl C X25 at_30 ?_
  refine g_i2c 32 rfl C X25 at_31 ?_
  obtain ⟨w31, hw31⟩ : ∃ z : Int32, (((((((((p0).toUInt64 >>> ((32 : Int32) &&& 0x3f).toInt64.toUInt64).toInt64)).toInt32)).toUInt32.toUInt16.toUInt32.toInt32)).toUInt32.toUInt16.toUInt32.toInt32) = z := ⟨_, rfl⟩
  refine g_castore 33 rfl C X25 e26 B28 2 (by decide) (by decide) w31 hw31 at_32 N29 gn9 fun T32 h33 ls34 X35 e36 W37 B38 N39 => ?_
  have Zs40 := Nat.le_trans Zs30 (Nat.le_of_eq W37.size.symm)
  refine g_aload 35 rfl C X35 at_33 rfl rfl ?_
  refine g_iconst 36 rfl C X35 (3 : Int32) at_35 rfl ?_
  refine g_lloadN 37 rfl C X35 at_36 rfl ?_
  refine g_bipush 39 rfl C X35 (48 : Int32) at_37 rfl ?_
  refine g_lushr 40 rfl C X35 at_39 ?_
  refine g_l2i 41 rfl C X35 at_40 ?_
  refine g_i2c 42 rfl C X35 at_41 ?_
  obtain ⟨w41, hw41⟩ : ∃ z : Int32, (((((((((p0).toUInt64 >>> ((48 : Int32) &&& 0x3f).toInt64.toUInt64).toInt64)).toInt32)).toUInt32.toUInt16.toUInt32.toInt32)).toUInt32.toUInt16.toUInt32.toInt32) = z := ⟨_, rfl⟩
  refine g_castore 43 rfl C X35 e36 B38 3 (by decide) (by decide) w41 hw41 at_42 N39 gn9 fun T42 h43 ls44 X45 e46 W47 B48 N49 => ?_
  have Zs50 := Nat.le_trans Zs40 (Nat.le_of_eq W47.size.symm)
  refine g_aload 45 rfl C X45 at_43 rfl rfl ?_
  refine g_iconst 46 rfl C X45 (4 : Int32) at_45 rfl ?_
  refine g_lloadN 47 rfl C X45 at_46 rfl ?_
  refine g_l2i 48 rfl C X45 at_47 ?_
  refine g_i2c 49 rfl C X45 at_48 ?_
  obtain ⟨w51, hw51⟩ : ∃ z : Int32, ((((((p1).toInt32)).toUInt32.toUInt16.toUInt32.toInt32)).toUInt32.toUInt16.toUInt32.toInt32) = z := ⟨_, rfl⟩
  refine g_castore 50 rfl C X45 e46 B48 4 (by decide) (by decide) w51 hw51 at_49 N49 gn9 fun T52 h53 ls54 X55 e56 W57 B58 N59 => ?_
  have Zs60 := Nat.le_trans Zs50 (Nat.le_of_eq W57.size.symm)
  refine g_aload 52 rfl C X55 at_50 rfl rfl ?_
  refine g_iconst 53 rfl C X55 (5 : Int32) at_52 rfl ?_
  refine g_lloadN 54 rfl C X55 at_53 rfl ?_
  refine g_bipush 56 rfl C X55 (16 : Int32) at_54 rfl ?_
  refine g_lushr 57 rfl C X55 at_56 ?_
  refine g_l2i 58 rfl C X55 at_57 ?_
  refine g_i2c 59 rfl C X55 at_58 ?_
  obtain ⟨w61, hw61⟩ : ∃ z : Int32, (((((((((p1).toUInt64 >>> ((16 : Int32) &&& 0x3f).toInt64.toUInt64).toInt64)).toInt32)).toUInt32.toUInt16.toUInt32.toInt32)).toUInt32.toUInt16.toUInt32.toInt32) = z := ⟨_, rfl⟩
  refine g_castore 60 rfl C X55 e56 B58 5 (by decide) (by decide) w61 hw61 at_59 N59 gn9 fun T62 h63 ls64 X65 e66 W67 B68 N69 => ?_
  have Zs70 := Nat.le_trans Zs60 (Nat.le_of_eq W67.size.symm)
  refine g_aload 62 rfl C X65 at_60 rfl rfl ?_
  refine g_bipush 64 rfl C X65 (6 : Int32) at_62 rfl ?_
  refine g_lloadN 65 rfl C X65 at_64 rfl ?_
  refine g_bipush 67 rfl C X65 (32 : Int32) at_65 rfl ?_
  refine g_lushr 68 rfl C X65 at_67 ?_
  refine g_l2i 69 rfl C X65 at_68 ?_
  refine g_i2c 70 rfl C X65 at_69 ?_
  obtain ⟨w71, hw71⟩ : ∃ z : Int32, (((((((((p1).toUInt64 >>> ((32 : Int32) &&& 0x3f).toInt64.toUInt64).toInt64)).toInt32)).toUInt32.toUInt16.toUInt32.toInt32)).toUInt32.toUInt16.toUInt32.toInt32) = z := ⟨_, rfl⟩
  refine g_castore 71 rfl C X65 e66 B68 6 (by decide) (by decide) w71 hw71 at_70 N69 gn9 fun T72 h73 ls74 X75 e76 W77 B78 N79 => ?_
  have Zs80 := Nat.le_trans Zs70 (Nat.le_of_eq W77.size.symm)
  refine g_aload 73 rfl C X75 at_71 rfl rfl ?_
  refine g_bipush 75 rfl C X75 (7 : Int32) at_73 rfl ?_
  refine g_lloadN 76 rfl C X75 at_75 rfl ?_
  refine g_bipush 78 rfl C X75 (48 : Int32) at_76 rfl ?_
  refine g_lushr 79 rfl C X75 at_78 ?_
  refine g_l2i 80 rfl C X75 at_79 ?_
  refine g_i2c 81 rfl C X75 at_80 ?_
  obtain ⟨w81, hw81⟩ : ∃ z : Int32, (((((((((p1).toUInt64 >>> ((48 : Int32) &&& 0x3f).toInt64.toUInt64).toInt64)).toInt32)).toUInt32.toUInt16.toUInt32.toInt32)).toUInt32.toUInt16.toUInt32.toInt32) = z := ⟨_, rfl⟩
  refine g_castore 82 rfl C X75 e76 B78 7 (by decide) (by decide) w81 hw81 at_81 N79 gn9 fun T82 h83 ls84 X85 e86 W87 B88 N89 => ?_
  have Zs90 := Nat.le_trans Zs80 (Nat.le_of_eq W87.size.symm)
  refine g_aload 84 rfl C X85 at_82 rfl rfl ?_
  refine g_bipush 86 rfl C X85 (8 : Int32) at_84 rfl ?_
  refine g_iload 88 rfl C X85 at_86 rfl ?_
  refine g_i2c 89 rfl C X85 at_88 ?_
  obtain ⟨w91, hw91⟩ : ∃ z : Int32, ((((p2).toUInt32.toUInt16.toUInt32.toInt32)).toUInt32.toUInt16.toUInt32.toInt32) = z := ⟨_, rfl⟩
  refine g_castore 90 rfl C X85 e86 B88 8 (by decide) (by decide) w91 hw91 at_89 N89 gn9 fun T92 h93 ls94 X95 e96 W97 B98 N99 => ?_
  have Zs100 := Nat.le_trans Zs90 (Nat.le_of_eq W97.size.symm)
  refine g_aload 92 rfl C X95 at_90 rfl rfl ?_
  refine g_bipush 94 rfl C X95 (9 : Int32) at_92 rfl ?_
  refine g_iload 96 rfl C X95 at_94 rfl ?_
  refine g_bipush 98 rfl C X95 (16 : Int32) at_96 rfl ?_
  refine g_iushr 99 rfl C X95 at_98 ?_
  refine g_i2c 100 rfl C X95 at_99 ?_
  obtain ⟨w101, hw101⟩ : ∃ z : Int32, (((((((p2).toUInt32 >>> ((16 : Int32) &&& 31).toUInt32).toInt32)).toUInt32.toUInt16.toUInt32.toInt32)).toUInt32.toUInt16.toUInt32.toInt32) = z := ⟨_, rfl⟩
  refine g_castore 101 rfl C X95 e96 B98 9 (by decide) (by decide) w101 hw101 at_100 N99 gn9 fun T102 h103 ls104 X105 e106 W107 B108 N109 => ?_
  have Zs110 := Nat.le_trans Zs100 (Nat.le_of_eq W107.size.symm)
  refine g_aload 103 rfl C X105 at_101 rfl rfl ?_
  refine g_bipush 105 rfl C X105 (10 : Int32) at_103 rfl ?_
  refine g_iload 107 rfl C X105 at_105 rfl ?_
  refine g_i2c 108 rfl C X105 at_107 ?_
  obtain ⟨w111, hw111⟩ : ∃ z : Int32, ((((p3).toUInt32.toUInt16.toUInt32.toInt32)).toUInt32.toUInt16.toUInt32.toInt32) = z := ⟨_, rfl⟩
  refine g_castore 109 rfl C X105 e106 B108 10 (by decide) (by decide) w111 hw111 at_108 N109 gn9 fun T112 h113 ls114 X115 e116 W117 B118 N119 => ?_
  have Zs120 := Nat.le_trans Zs110 (Nat.le_of_eq W117.size.symm)
  refine g_aload 111 rfl C X115 at_109 rfl rfl ?_
  refine g_bipush 113 rfl C X115 (11 : Int32) at_111 rfl ?_
  refine g_iload 115 rfl C X115 at_113 rfl ?_
  refine g_bipush 117 rfl C X115 (16 : Int32) at_115 rfl ?_
  refine g_iushr 118 rfl C X115 at_117 ?_
  refine g_i2c 119 rfl C X115 at_118 ?_
  obtain ⟨w121, hw121⟩ : ∃ z : Int32, (((((((p3).toUInt32 >>> ((16 : Int32) &&& 31).toUInt32).toInt32)).toUInt32.toUInt16.toUInt32.toInt32)).toUInt32.toUInt16.toUInt32.toInt32) = z := ⟨_, rfl⟩
  refine g_castore 120 rfl C X115 e116 B118 11 (by decide) (by decide) w121 hw121 at_119 N119 gn9 fun T122 h123 ls124 X125 e126 W127 B128 N129 => ?_
  have Zs130 := Nat.le_trans Zs120 (Nat.le_of_eq W127.size.symm)
  obtain ⟨f131, B132⟩ : ∃ f, Ba Z h123 o3 .char 12 f := ⟨_, B128⟩
  refine g_iload 122 rfl C X125 at_120 rfl ?_
  refine g_ldc 124 rfl C X125 (hw _ (List.mem_of_getElem? (i := 1) rfl)) at_122 ?_
  refine g_iand 125 rfl C X125 at_124 ?_
  refine g_iconst 126 rfl C X125 (5 : Int32) at_125 rfl ?_
  refine g_irem 127 rfl C X125 at_126 (by decide) ?_
  obtain ⟨v133, hv133⟩ : ∃ z : Int32, ((p4 &&& (2147483647 : Int32)) % (5 : Int32)) = z := ⟨_, rfl⟩
  refine g_istore 129 rfl C X125 v133 hv133 #[.val (.long p0), .second, .val (.long p1), .second, .val (.int p2), .val (.int p3), .val (.int p4), .val (.ref o3), .val (.int v133), .unset, .unset, .unset, .unset] at_127 rfl ?_
  refine g_aload 131 rfl C X125 at_129 rfl rfl ?_
  refine g_iload 133 rfl C X125 at_131 rfl ?_
  have fr134 := rng32 v133
  have fr135 := rng32 p4
  have fc136 : (2147483647 : Int32).toInt = 2147483647 := rfl
  have fo137 : (p4 &&& (2147483647 : Int32)).toInt = p4.toInt % 2147483648 := c_mask p4 (2147483647 : Int32) 31 (by decide) (by decide)
  have fc138 : (5 : Int32).toInt = 5 := rfl
  have fo139 := c_irem (p4 &&& (2147483647 : Int32)) (5 : Int32) 5 rfl
  have fr140 := rng32 ((p4 &&& (2147483647 : Int32)) % (5 : Int32))
  have fe141 : ((p4 &&& (2147483647 : Int32)) % (5 : Int32)).toInt = v133.toInt := congrArg Int32.toInt hv133
  obtain ⟨n142, hn142⟩ : ∃ n : Nat, v133.toInt = n := ⟨v133.toInt.toNat, by omega⟩
  have hn1424 : n142 ≤ 4 := by omega
  refine g_callS 136 rfl C X125 (argsL := [(.ref o3), (.int v133)]) (hw _ (List.mem_of_getElem? (i := 2) rfl)) (hw _ (List.mem_of_getElem? (i := 3) rfl)) (hw _ (List.mem_of_getElem? (i := 5) rfl)) (hw _ (List.mem_of_getElem? (i := 4) rfl)) e126 (rm1 l Z a0 hw [] o3 v133 f131 n142 h123 n0 Zs130 B132 hn142 hn1424) (lenOf pd_22969113 rfl) (by decide) (by decide) (by decide) (by decide) rfl (W := 0) (Nat.le_of_eq rfl) (by decide) at_133 rfl fun r143 T144 Lc145 X146 hQ147 => ?_
  obtain ⟨rfl, Nq148, eh149⟩ := hQ147
  have N150 := Fr.app N129 Nq148
  show Goes _ _ _ _ _ _ 136 _ [(.long ((((((f131 n142).toInt64) ^^^ (((f131 (n142 + 1)).toInt64) <<< ((8 : Int32) &&& 0x3f).toInt64)) ^^^ (((f131 (n142 + 2)).toInt64) <<< ((16 : Int32) &&& 0x3f).toInt64)) ^^^ (((f131 (n142 + 3)).toInt64) <<< ((24 : Int32) &&& 0x3f).toInt64)) ^^^ ((((((f131 (n142 + 4)).toInt64) <<< ((32 : Int32) &&& 0x3f).toInt64) ^^^ (((f131 (n142 + 5)).toInt64) <<< ((40 : Int32) &&& 0x3f).toInt64)) ^^^ (((f131 (n142 + 6)).toInt64) <<< ((48 : Int32) &&& 0x3f).toInt64)) ^^^ (((f131 (n142 + 7)).toInt64) <<< ((56 : Int32) &&& 0x3f).toInt64))))]
  obtain ⟨v151, hv151⟩ : ∃ z : Int64, ((((((f131 n142).toInt64) ^^^ (((f131 (n142 + 1)).toInt64) <<< ((8 : Int32) &&& 0x3f).toInt64)) ^^^ (((f131 (n142 + 2)).toInt64) <<< ((16 : Int32) &&& 0x3f).toInt64)) ^^^ (((f131 (n142 + 3)).toInt64) <<< ((24 : Int32) &&& 0x3f).toInt64)) ^^^ ((((((f131 (n142 + 4)).toInt64) <<< ((32 : Int32) &&& 0x3f).toInt64) ^^^ (((f131 (n142 + 5)).toInt64) <<< ((40 : Int32) &&& 0x3f).toInt64)) ^^^ (((f131 (n142 + 6)).toInt64) <<< ((48 : Int32) &&& 0x3f).toInt64)) ^^^ (((f131 (n142 + 7)).toInt64) <<< ((56 : Int32) &&& 0x3f).toInt64))) = z := ⟨_, rfl⟩
  refine g_lstore 138 rfl C X146 v151 hv151 #[.val (.long p0), .second, .val (.long p1), .second, .val (.int p2), .val (.int p3), .val (.int p4), .val (.ref o3), .val (.int v133), .val (.long v151), .second, .unset, .unset] at_136 rfl ?_
  refine g_aload 140 rfl C X146 at_138 rfl rfl ?_
  refine g_iload 142 rfl C X146 at_140 rfl ?_
  refine g_bipush 144 rfl C X146 (7 : Int32) at_142 rfl ?_
  refine g_iadd 145 rfl C X146 at_144 ?_
  have fc152 : (7 : Int32).toInt = 7 := rfl
  have fo153 := c_iadd v133 (7 : Int32)
  have fr154 := rng32 (v133 + (7 : Int32))
  refine g_caload 146 rfl C X146 eh149 B132 (n142 + 7) (by omega) (by omega) (f131 (n142 + 7)) rfl at_145 ?_
  refine g_i2l 147 rfl C X146 at_146 ?_
  obtain ⟨v155, hv155⟩ : ∃ z : Int64, (((f131 (n142 + 7))).toInt64) = z := ⟨_, rfl⟩
  refine g_lstore 149 rfl C X146 v155 hv155 #[.val (.long p0), .second, .val (.long p1), .second, .val (.int p2), .val (.int p3), .val (.int p4), .val (.ref o3), .val (.int v133), .val (.long v151), .second, .val (.long v155), .second] at_147 rfl ?_
  refine g_lload 151 rfl C X146 at_149 rfl ?_
  refine g_bipush 153 rfl C X146 (8 : Int32) at_151 rfl ?_
  refine g_lshl 154 rfl C X146 at_153 ?_
  refine g_aload 156 rfl C X146 at_154 rfl rfl ?_
  refine g_iload 158 rfl C X146 at_156 rfl ?_
  refine g_bipush 160 rfl C X146 (6 : Int32) at_158 rfl ?_
  refine g_iadd 161 rfl C X146 at_160 ?_
  have fc156 : (6 : Int32).toInt = 6 := rfl
  have fo157 := c_iadd v133 (6 : Int32)
  have fr158 := rng32 (v133 + (6 : Int32))
  refine g_caload 162 rfl C X146 eh149 B132 (n142 + 6) (by omega) (by omega) (f131 (n142 + 6)) rfl at_161 ?_
  refine g_i2l 163 rfl C X146 at_162 ?_
  refine g_lxor 164 rfl C X146 at_163 ?_
  obtain ⟨v159, hv159⟩ : ∃ z : Int64, ((v155 <<< ((8 : Int32) &&& 0x3f).toInt64) ^^^ (((f131 (n142 + 6))).toInt64)) = z := ⟨_, rfl⟩
  refine g_lstore 166 rfl C X146 v159 hv159 #[.val (.long p0), .second, .val (.long p1), .second, .val (.int p2), .val (.int p3), .val (.int p4), .val (.ref o3), .val (.int v133), .val (.long v151), .second, .val (.long v159), .second] at_164 rfl ?_
  refine g_lload 168 rfl C X146 at_166 rfl ?_
  refine g_bipush 170 rfl C X146 (8 : Int32) at_168 rfl ?_
  refine g_lshl 171 rfl C X146 at_170 ?_
  refine g_aload 173 rfl C X146 at_171 rfl rfl ?_
  refine g_iload 175 rfl C X146 at_173 rfl ?_
  refine g_iconst 176 rfl C X146 (5 : Int32) at_175 rfl ?_
  refine g_iadd 177 rfl C X146 at_176 ?_
  have fo160 := c_iadd v133 (5 : Int32)
  have fr161 := rng32 (v133 + (5 : Int32))
  refine g_caload 178 rfl C X146 eh149 B132 (n142 + 5) (by omega) (by omega) (f131 (n142 + 5)) rfl at_177 ?_
  refine g_i2l 179 rfl C X146 at_178 ?_
  refine g_lxor 180 rfl C X146 at_179 ?_
  obtain ⟨v162, hv162⟩ : ∃ z : Int64, ((v159 <<< ((8 : Int32) &&& 0x3f).toInt64) ^^^ (((f131 (n142 + 5))).toInt64)) = z := ⟨_, rfl⟩
  refine g_lstore 182 rfl C X146 v162 hv162 #[.val (.long p0), .second, .val (.long p1), .second, .val (.int p2), .val (.int p3), .val (.int p4), .val (.ref o3), .val (.int v133), .val (.long v151), .second, .val (.long v162), .second] at_180 rfl ?_
  refine g_lload 184 rfl C X146 at_182 rfl ?_
  refine g_bipush 186 rfl C X146 (8 : Int32) at_184 rfl ?_
  refine g_lshl 187 rfl C X146 at_186 ?_
  refine g_aload 189 rfl C X146 at_187 rfl rfl ?_
  refine g_iload 191 rfl C X146 at_189 rfl ?_
  refine g_iconst 192 rfl C X146 (4 : Int32) at_191 rfl ?_
  refine g_iadd 193 rfl C X146 at_192 ?_
  have fc163 : (4 : Int32).toInt = 4 := rfl
  have fo164 := c_iadd v133 (4 : Int32)
  have fr165 := rng32 (v133 + (4 : Int32))
  refine g_caload 194 rfl C X146 eh149 B132 (n142 + 4) (by omega) (by omega) (f131 (n142 + 4)) rfl at_193 ?_
  refine g_i2l 195 rfl C X146 at_194 ?_
  refine g_lxor 196 rfl C X146 at_195 ?_
  obtain ⟨v166, hv166⟩ : ∃ z : Int64, ((v162 <<< ((8 : Int32) &&& 0x3f).toInt64) ^^^ (((f131 (n142 + 4))).toInt64)) = z := ⟨_, rfl⟩
  refine g_lstore 198 rfl C X146 v166 hv166 #[.val (.long p0), .second, .val (.long p1), .second, .val (.int p2), .val (.int p3), .val (.int p4), .val (.ref o3), .val (.int v133), .val (.long v151), .second, .val (.long v166), .second] at_196 rfl ?_
  refine g_lload 200 rfl C X146 at_198 rfl ?_
  refine g_bipush 202 rfl C X146 (8 : Int32) at_200 rfl ?_
  refine g_lshl 203 rfl C X146 at_202 ?_
  refine g_aload 205 rfl C X146 at_203 rfl rfl ?_
  refine g_iload 207 rfl C X146 at_205 rfl ?_
  refine g_iconst 208 rfl C X146 (3 : Int32) at_207 rfl ?_
  refine g_iadd 209 rfl C X146 at_208 ?_
  have fc167 : (3 : Int32).toInt = 3 := rfl
  have fo168 := c_iadd v133 (3 : Int32)
  have fr169 := rng32 (v133 + (3 : Int32))
  refine g_caload 210 rfl C X146 eh149 B132 (n142 + 3) (by omega) (by omega) (f131 (n142 + 3)) rfl at_209 ?_
  refine g_i2l 211 rfl C X146 at_210 ?_
  refine g_lxor 212 rfl C X146 at_211 ?_
  obtain ⟨v170, hv170⟩ : ∃ z : Int64, ((v166 <<< ((8 : Int32) &&& 0x3f).toInt64) ^^^ (((f131 (n142 + 3))).toInt64)) = z := ⟨_, rfl⟩
  refine g_lstore 214 rfl C X146 v170 hv170 #[.val (.long p0), .second, .val (.long p1), .second, .val (.int p2), .val (.int p3), .val (.int p4), .val (.ref o3), .val (.int v133), .val (.long v151), .second, .val (.long v170), .second] at_212 rfl ?_
  refine g_lload 216 rfl C X146 at_214 rfl ?_
  refine g_bipush 218 rfl C X146 (8 : Int32) at_216 rfl ?_
  refine g_lshl 219 rfl C X146 at_218 ?_
  refine g_aload 221 rfl C X146 at_219 rfl rfl ?_
  refine g_iload 223 rfl C X146 at_221 rfl ?_
  refine g_iconst 224 rfl C X146 (2 : Int32) at_223 rfl ?_
  refine g_iadd 225 rfl C X146 at_224 ?_
  have fc171 : (2 : Int32).toInt = 2 := rfl
  have fo172 := c_iadd v133 (2 : Int32)
  have fr173 := rng32 (v133 + (2 : Int32))
  refine g_caload 226 rfl C X146 eh149 B132 (n142 + 2) (by omega) (by omega) (f131 (n142 + 2)) rfl at_225 ?_
  refine g_i2l 227 rfl C X146 at_226 ?_
  refine g_lxor 228 rfl C X146 at_227 ?_
  obtain ⟨v174, hv174⟩ : ∃ z : Int64, ((v170 <<< ((8 : Int32) &&& 0x3f).toInt64) ^^^ (((f131 (n142 + 2))).toInt64)) = z := ⟨_, rfl⟩
  refine g_lstore 230 rfl C X146 v174 hv174 #[.val (.long p0), .second, .val (.long p1), .second, .val (.int p2), .val (.int p3), .val (.int p4), .val (.ref o3), .val (.int v133), .val (.long v151), .second, .val (.long v174), .second] at_228 rfl ?_
  refine g_lload 232 rfl C X146 at_230 rfl ?_
  refine g_bipush 234 rfl C X146 (8 : Int32) at_232 rfl ?_
  refine g_lshl 235 rfl C X146 at_234 ?_
  refine g_aload 237 rfl C X146 at_235 rfl rfl ?_
  refine g_iload 239 rfl C X146 at_237 rfl ?_
  refine g_iconst 240 rfl C X146 (1 : Int32) at_239 rfl ?_
  refine g_iadd 241 rfl C X146 at_240 ?_
  have fc175 : (1 : Int32).toInt = 1 := rfl
  have fo176 := c_iadd v133 (1 : Int32)
  have fr177 := rng32 (v133 + (1 : Int32))
  refine g_caload 242 rfl C X146 eh149 B132 (n142 + 1) (by omega) (by omega) (f131 (n142 + 1)) rfl at_241 ?_
  refine g_i2l 243 rfl C X146 at_242 ?_
  refine g_lxor 244 rfl C X146 at_243 ?_
  obtain ⟨v178, hv178⟩ : ∃ z : Int64, ((v174 <<< ((8 : Int32) &&& 0x3f).toInt64) ^^^ (((f131 (n142 + 1))).toInt64)) = z := ⟨_, rfl⟩
  refine g_lstore 246 rfl C X146 v178 hv178 #[.val (.long p0), .second, .val (.long p1), .second, .val (.int p2), .val (.int p3), .val (.int p4), .val (.ref o3), .val (.int v133), .val (.long v151), .second, .val (.long v178), .second] at_244 rfl ?_
  refine g_lload 248 rfl C X146 at_246 rfl ?_
  refine g_bipush 250 rfl C X146 (8 : Int32) at_248 rfl ?_
  refine g_lshl 251 rfl C X146 at_250 ?_
  refine g_aload 253 rfl C X146 at_251 rfl rfl ?_
  refine g_iload 255 rfl C X146 at_253 rfl ?_
  refine g_caload 256 rfl C X146 eh149 B132 (n142) (by omega) (by omega) (f131 n142) rfl at_255 ?_
  refine g_i2l 257 rfl C X146 at_256 ?_
  refine g_lxor 258 rfl C X146 at_257 ?_
  obtain ⟨v179, hv179⟩ : ∃ z : Int64, ((v178 <<< ((8 : Int32) &&& 0x3f).toInt64) ^^^ (((f131 n142)).toInt64)) = z := ⟨_, rfl⟩
  refine g_lstore 260 rfl C X146 v179 hv179 #[.val (.long p0), .second, .val (.long p1), .second, .val (.int p2), .val (.int p3), .val (.int p4), .val (.ref o3), .val (.int v133), .val (.long v151), .second, .val (.long v179), .second] at_258 rfl ?_
  refine g_lload 262 rfl C X146 at_260 rfl ?_
  refine g_lload 264 rfl C X146 at_262 rfl ?_
  refine g_lcmp 265 rfl C X146 at_264 ?_
  have hg180 : v151.toInt = v179.toInt := by
    subst hv151 hv155 hv159 hv162 hv166 hv170 hv174 hv178 hv179
    exact congrArg Int64.toInt (own_gram _ _ _ _ _ _ _ _)
  have hb181 : v151.toInt = v179.toInt := hg180
  refine g_il_ne_f 268 rfl C X146 at_265 hb181 ?_
  refine g_iconst 269 rfl C X146 (1 : Int32) at_268 rfl ?_
  refine g_goto 273 C X146 at_269 (by decide) (by decide) ?_
  exact g_retN C X146 (z' := (1 : Int32)) rfl (Or.inl rfl) at_273 eh149 (by decide) (by decide) rfl ⟨rfl, N150⟩
set_option maxRecDepth 65536 in
set_option maxHeartbeats 40000000 in
theorem comes_1 {Post : Tables → Env → Array Value → State → Outcome → State → Prop} (hpost : ∀ tb e args s v u, (limb_1_1.after args s (.returned v) u = true ∧ limb_1_2.after args s (.returned v) u = true ∧ True) → FrameEnd s (.returned v) u (Jvm.fieldLocs frame_1_writes args s ++ Jvm.arrayLocs frame_1_arrays args s ++ Jvm.staticLocs frame_1_statics s) 16 128 → Post tb e args s (.returned v) u) :
    ArmFor flags0 classFile x code maxLocals ret World_1 tables_1 room_1 Calls_1 rest_1 Pre_1 Post := by
  intro l hfl _ _ p e ha hc hk s m args below hf hA hF happ hP
  obtain ⟨hcalls, hrest, hpre⟩ := hP
  obtain ⟨-, -, -, hnamed, -, -, -, hat⟩ := (Spec.applies_iff hf).mp happ
  obtain ⟨hg, hn⟩ := and_e (Cond.before_iff.mp (show (Jvm.Cond.and given_1 narrow_1).before args s = true from hpre))
  obtain ⟨g1, g2⟩ := and_e hg
  obtain ⟨g3, g4⟩ := and_e g2
  obtain ⟨g5, g6⟩ := and_e g4
  obtain ⟨g7, g8⟩ := and_e g6
  obtain ⟨g9, g10⟩ := and_e g8
  obtain ⟨w0, w1, w2, w3, w4, rfl⟩ : ∃ w0 w1 w2 w3 w4 : Value, args = #[w0, w1, w2, w3, w4] := by
    have hs : args.size = 5 := by simpa [Cond.value, given_1] using g1
    obtain ⟨L⟩ := args
    match L, hs with
    | [w0, w1, w2, w3, w4], _ => exact ⟨w0, w1, w2, w3, w4, rfl⟩
  have hw := fun d (hd : d ∈ tables_1) => atoms_spec (ws := Jvm.Cond.code x code maxLocals ret :: tables_1) hat d (List.mem_cons_of_mem _ hd)
  obtain ⟨i0, ei0⟩ := isL_v g3
  obtain rfl : w0 = (.long i0) := Option.some.inj ei0
  obtain ⟨i1, ei1⟩ := isL_v g5
  obtain rfl : w1 = (.long i1) := Option.some.inj ei1
  obtain ⟨i2, ei2⟩ := is_v g7
  obtain rfl : w2 = (.int i2) := Option.some.inj ei2
  obtain ⟨i3, ei3⟩ := is_v g9
  obtain rfl : w3 = (.int i3) := Option.some.inj ei3
  obtain ⟨i4, ei4⟩ := is_v g10
  obtain rfl : w4 = (.int i4) := Option.some.inj ei4
  obtain ⟨n, o, h1, h2, h3, _, L, rfl, ⟨rfl, N⟩, hq⟩ := rm0 l s _ hw tables_1 i0 i1 i2 i3 i4 s.heap s.heap.size (Nat.le_refl _) p e ha hc hk s m _ below hf ((Spec.applies_iff_loose hf).mp happ).1 ⟨rfl, State.Warmed39.refl s, rfl⟩ trivial
  refine ⟨n, _, h1, h2, h3, hpost _ _ _ _ _ _ ⟨Cond.after_iff.mpr rfl, Cond.after_iff.mpr (eq_i res_at (Term.int_eval (1)) rfl), trivial⟩ ⟨hq.1, hq.2.1, (hq.2.2.sift fun y hy => Or.inr (N y hy)).mono (by decide) (by decide)⟩⟩
theorem main_1_1 : Claimed_1_1 := comes_1 fun _ _ _ _ _ _ h hF => ⟨h.1, hF⟩
theorem main_1_2 : Claimed_1_2 := comes_1 fun _ _ _ _ _ _ h hF => ⟨h.2.1, hF⟩
end Jvm.Pilot.@@N@@
namespace Jvm.Pilot.@@N@@
open Jvm Jvm.ClassFile Sem Op Lib Jvm.Free Jvm.Stand Jvm.Pilot.@@N@@.Jvm.D
/-! MADE BY PROGRAM (witnessworld.py) out of the Statement's table words and the real class files: 11 classes; the members and pool entries that the words name. The judged class is class 1, her method 1. -/
namespace start1
open Jvm.ClassFile
def u (s : String) : CpInfo := .utf8 (stringToUtf16 s)
/-- a pool by its gaps: so many unusable entries, then the entry; so many at the end -/
def gap : Nat → List CpInfo → List CpInfo
  | 0, r => r
  | n + 1, r => .unusable :: gap n r
def poolList (es : List (Nat × CpInfo)) (last : Nat) : List CpInfo := es.foldr (fun e r => gap e.1 (e.2 :: r)) (gap last [])
def pool (es : List (Nat × CpInfo)) (last : Nat) : Array CpInfo := ⟨poolList es last⟩
def fileOf (pool : Array CpInfo) (this : Nat) (attrs : Array Attribute := #[]) (ms : Array MethodInfo := #[]) (fl : Nat := 33) (sup : Nat := 0) (ifs : Array Nat := #[]) (fds : Array FieldInfo := #[]) : ClassFile where
  minorVersion := 0
  majorVersion := 65
  constantPool := pool
  accessFlags := fl
  thisClass := this
  superClass := sup
  interfaces := ifs
  fields := fds
  methods := ms
  attributes := attrs
def plain (name : String) (sup : Option ClassId) : Class where
  name := name
  kind := .ordinary
  loader := none
  accessFlags := 33
  super := sup
  interfaces := #[]
  cf := none
  fields := #[]
  methods := #[]
  instanceTypes := #[]
  staticTypes := #[]
  resolved := #[]
  callSites := []
  init := .initialized
  statics := none
  mirror := none

def pool0 : Array CpInfo := pool [(5, u "<init>"), (0, u "()V"), (1, .class_ 10), (1, u "java/lang/Object")] 113

def k0m0 : Method := { name := "<init>", desc := "()V", sig := { parameters := [], returnType := none }, accessFlags := 1, code := none }
/-- java/lang/Object -/
def k0 : Class := { plain "java/lang/Object" none with
  accessFlags := 33
  interfaces := #[]
  cf := some (fileOf pool0 8 #[] #[{ accessFlags := 1, nameIndex := 5, descriptorIndex := 6, attributes := #[] }] 33 0 #[] #[])
  fields := #[]
  methods := #[k0m0]
  instanceTypes := #[]
  staticTypes := #[]
  resolved := Array.replicate 124 none
  statics := none }

def pool1 : Array CpInfo := pool [(2, .class_ 4), (1, u "java/lang/Object"), (0, u "<init>"), (0, u "()V"), (0, .integer 2147483647), (0, .methodref 9 10), (0, .class_ 11), (0, .nameAndType 12 13), (0, u "com/example/otsing/otsing/algorithm/Prefilter"), (0, u "gram"), (0, u "([CI)J"), (0, .class_ 15), (0, u "com/example/otsing/otsing/algorithm/PrefilterGramPinLaw"), (2, u "law"), (0, u "(JJIII)Z")] 5

def k1m0 : Method := { name := "<init>", desc := "()V", sig := { parameters := [], returnType := none }, accessFlags := 1, code := none }
def k1c1 : Code := { maxStack := 5, maxLocals := 13, code := code, exceptionTable := #[], attributes := #[] }
def k1m1 : Method := { name := "law", desc := "(JJIII)Z", sig := { parameters := [.long, .long, .int, .int, .int], returnType := some .boolean }, accessFlags := 9, code := some k1c1 }
/-- com/example/otsing/otsing/algorithm/PrefilterGramPinLaw -/
def k1 : Class := { plain "com/example/otsing/otsing/algorithm/PrefilterGramPinLaw" (some 0) with
  accessFlags := 49
  interfaces := #[]
  cf := some (fileOf pool1 14 #[] #[{ accessFlags := 1, nameIndex := 5, descriptorIndex := 6, attributes := #[] }, { accessFlags := 9, nameIndex := 18, descriptorIndex := 19, attributes := #[] }] 49 2 #[] #[])
  fields := #[]
  methods := #[k1m0, k1m1]
  instanceTypes := #[]
  staticTypes := #[]
  resolved := Array.replicate 25 none
  statics := none }

def pool2 : Array CpInfo := pool [(2, .class_ 4), (1, u "com/example/otsing/otsing/algorithm/Prefilter"), (3, .class_ 10), (1, u "java/lang/Object"), (3, u "length"), (0, u "I"), (16, u "probes"), (0, u "[I"), (2, u "probeUnits"), (0, u "[C"), (5, u "nearStarts"), (2, u "pairGap"), (2, u "sampleSpan"), (10, u "lastGram"), (6, u "earlierGram"), (2, u "crowded"), (0, u "[Z"), (8, u "firstOfPair"), (2, u "secondOfPair"), (29, u "gram"), (0, u "([CI)J"), (4, u "GRAM"), (2, u "SAMPLED"), (1, u "SAMPLED_BY_PAIRS"), (0, u "SAMPLED_IF_FEW"), (1, u "FEW"), (1, u "LONGEST_STEP"), (0, u "CROWDED"), (0, u "NEAR_BYTES"), (1, u "NEAR_CHARS"), (1, u "NEAR_UNITS"), (1, u "HASH_BITS")] 21

def k2c0 : Code := { maxStack := 5, maxLocals := 6, code := prog_44_method_20_code, exceptionTable := #[], attributes := #[] }
def k2m0 : Method := { name := "gram", desc := "([CI)J", sig := { parameters := [(.array .char), .int], returnType := some .long }, accessFlags := 8, code := some k2c0 }
/-- com/example/otsing/otsing/algorithm/Prefilter -/
def k2 : Class := { plain "com/example/otsing/otsing/algorithm/Prefilter" (some 0) with
  accessFlags := 48
  interfaces := #[]
  cf := some (fileOf pool2 2 #[] #[{ accessFlags := 8, nameIndex := 113, descriptorIndex := 114, attributes := #[] }] 48 8 #[] #[{ accessFlags := 24, nameIndex := 119, descriptorIndex := 15, attributes := #[] }, { accessFlags := 24, nameIndex := 122, descriptorIndex := 15, attributes := #[] }, { accessFlags := 24, nameIndex := 124, descriptorIndex := 15, attributes := #[] }, { accessFlags := 24, nameIndex := 125, descriptorIndex := 15, attributes := #[] }, { accessFlags := 24, nameIndex := 127, descriptorIndex := 15, attributes := #[] }, { accessFlags := 24, nameIndex := 129, descriptorIndex := 15, attributes := #[] }, { accessFlags := 24, nameIndex := 130, descriptorIndex := 15, attributes := #[] }, { accessFlags := 24, nameIndex := 131, descriptorIndex := 15, attributes := #[] }, { accessFlags := 24, nameIndex := 133, descriptorIndex := 15, attributes := #[] }, { accessFlags := 24, nameIndex := 135, descriptorIndex := 15, attributes := #[] }, { accessFlags := 26, nameIndex := 137, descriptorIndex := 15, attributes := #[] }, { accessFlags := 18, nameIndex := 14, descriptorIndex := 15, attributes := #[] }, { accessFlags := 18, nameIndex := 49, descriptorIndex := 15, attributes := #[] }, { accessFlags := 18, nameIndex := 46, descriptorIndex := 15, attributes := #[] }, { accessFlags := 18, nameIndex := 32, descriptorIndex := 33, attributes := #[] }, { accessFlags := 18, nameIndex := 36, descriptorIndex := 37, attributes := #[] }, { accessFlags := 18, nameIndex := 43, descriptorIndex := 15, attributes := #[] }, { accessFlags := 18, nameIndex := 60, descriptorIndex := 33, attributes := #[] }, { accessFlags := 18, nameIndex := 67, descriptorIndex := 33, attributes := #[] }, { accessFlags := 18, nameIndex := 70, descriptorIndex := 71, attributes := #[] }, { accessFlags := 18, nameIndex := 80, descriptorIndex := 33, attributes := #[] }, { accessFlags := 18, nameIndex := 83, descriptorIndex := 33, attributes := #[] }])
  fields := #[{ name := "GRAM", type := .int, accessFlags := 24, slot := 0, constantValue := 0 }, { name := "SAMPLED", type := .int, accessFlags := 24, slot := 1, constantValue := 0 }, { name := "SAMPLED_BY_PAIRS", type := .int, accessFlags := 24, slot := 2, constantValue := 0 }, { name := "SAMPLED_IF_FEW", type := .int, accessFlags := 24, slot := 3, constantValue := 0 }, { name := "FEW", type := .int, accessFlags := 24, slot := 4, constantValue := 0 }, { name := "LONGEST_STEP", type := .int, accessFlags := 24, slot := 5, constantValue := 0 }, { name := "CROWDED", type := .int, accessFlags := 24, slot := 6, constantValue := 0 }, { name := "NEAR_BYTES", type := .int, accessFlags := 24, slot := 7, constantValue := 0 }, { name := "NEAR_CHARS", type := .int, accessFlags := 24, slot := 8, constantValue := 0 }, { name := "NEAR_UNITS", type := .int, accessFlags := 24, slot := 9, constantValue := 0 }, { name := "HASH_BITS", type := .int, accessFlags := 26, slot := 10, constantValue := 0 }, { name := "length", type := .int, accessFlags := 18, slot := 0, constantValue := 0 }, { name := "sampleSpan", type := .int, accessFlags := 18, slot := 1, constantValue := 0 }, { name := "pairGap", type := .int, accessFlags := 18, slot := 2, constantValue := 0 }, { name := "probes", type := (.array .int), accessFlags := 18, slot := 3, constantValue := 0 }, { name := "probeUnits", type := (.array .char), accessFlags := 18, slot := 4, constantValue := 0 }, { name := "nearStarts", type := .int, accessFlags := 18, slot := 5, constantValue := 0 }, { name := "lastGram", type := (.array .int), accessFlags := 18, slot := 6, constantValue := 0 }, { name := "earlierGram", type := (.array .int), accessFlags := 18, slot := 7, constantValue := 0 }, { name := "crowded", type := (.array .boolean), accessFlags := 18, slot := 8, constantValue := 0 }, { name := "firstOfPair", type := (.array .int), accessFlags := 18, slot := 9, constantValue := 0 }, { name := "secondOfPair", type := (.array .int), accessFlags := 18, slot := 10, constantValue := 0 }]
  methods := #[k2m0]
  instanceTypes := #[.int, .int, .int, (.array .int), (.array .char), .int, (.array .int), (.array .int), (.array .boolean), (.array .int), (.array .int)]
  staticTypes := #[.int, .int, .int, .int, .int, .int, .int, .int, .int, .int, .int]
  resolved := Array.replicate 159 none
  statics := none }

def pool3 : Array CpInfo := pool [(1, u "java/lang/Cloneable"), (0, .class_ 1), (0, u "java/lang/Object"), (0, .class_ 3)] 3

/-- java/lang/Cloneable -/
def k3 : Class := { plain "java/lang/Cloneable" (some 0) with
  accessFlags := 1537
  interfaces := #[]
  cf := some (fileOf pool3 2 #[] #[] 1537 4 #[] #[])
  fields := #[]
  methods := #[]
  instanceTypes := #[]
  staticTypes := #[]
  resolved := Array.replicate 8 none
  statics := none }

def pool4 : Array CpInfo := pool [(1, u "java/io/Serializable"), (0, .class_ 1), (0, u "java/lang/Object"), (0, .class_ 3)] 3

/-- java/io/Serializable -/
def k4 : Class := { plain "java/io/Serializable" (some 0) with
  accessFlags := 1537
  interfaces := #[]
  cf := some (fileOf pool4 2 #[] #[] 1537 4 #[] #[])
  fields := #[]
  methods := #[]
  instanceTypes := #[]
  staticTypes := #[]
  resolved := Array.replicate 8 none
  statics := none }

/-- the primitive byte -/
def k5 : Class := { plain "byte" none with kind := .primitive 'B', accessFlags := 0x411 }
/-- [B -/
def k6 : Class := { plain "[B" (some 0) with kind := .array 5 .byte, interfaces := #[3, 4], accessFlags := 1041 }

/-- the primitive char -/
def k7 : Class := { plain "char" none with kind := .primitive 'C', accessFlags := 0x411 }
/-- [C -/
def k8 : Class := { plain "[C" (some 0) with kind := .array 7 .char, interfaces := #[3, 4], accessFlags := 1041 }

/-- the primitive int -/
def k9 : Class := { plain "int" none with kind := .primitive 'I', accessFlags := 0x411 }
/-- [I -/
def k10 : Class := { plain "[I" (some 0) with kind := .array 9 .int, interfaces := #[3, 4], accessFlags := 1041 }

def heap : Heap := #[]
def classes : Array Class := #[k0, k1, k2, k3, k4, k5, k6, k7, k8, k9, k10]
def interned : List (Array UInt16 × Addr) := []
def slotsUsed : Nat := 0
def theMethod : MethodId := ⟨1, 1⟩
def args0 : Array Value := #[.long 5, .long 7, .int 9, .int 2, .int 3]
def aboutOver (below : List Frame) : State where
  vm := { classes := classes, interned := interned.toArray }
  heap := heap
  slotsUsed := slotsUsed
  threads := #[{ frames := .invoking theMethod args0 :: below }]
def below0 : List Frame := [.native { method := ⟨0, 0⟩, args := #[] }]
def about1 : State := aboutOver below0
def p0 : Program := .bare "" "" ""
def e0 : Env := launch0.env 0 0 0
theorem w_frames : about1.frames = Frame.invoking theMethod args0 :: below0 := rfl
set_option maxRecDepth 65536 in
theorem w_args : argsFit about1.vm theMethod args0 = true := by decide +kernel
set_option maxRecDepth 65536 in
theorem w_heap : heapFits about1 = true := by decide +kernel
set_option maxRecDepth 65536 in
theorem w_runnable : about1.curStatus? = some .runnable := by decide +kernel
set_option maxRecDepth 65536 in
theorem w_alone : about1.alone = true := by decide +kernel
set_option maxRecDepth 65536 in
theorem w_named : about1.methodNamed? x = some theMethod := by decide +kernel
set_option maxRecDepth 65536 in
theorem w_hears : about1.hears theMethod below0 = true := by decide +kernel
set_option maxRecDepth 65536 in
theorem w_ripe : about1.ripe theMethod args0 below0 = true := by decide +kernel
theorem w_running : about1.status = .running := rfl
set_option maxRecDepth 65536 in
theorem w_room : about1.hasRoom e0.platform room_1 = true :=
  launch0.hasRoom_least _ room_1 (by decide +kernel) (by decide +kernel) (by decide +kernel) (by decide +kernel) (by decide +kernel) (by decide +kernel)
theorem allAtoms_all (ts : List Jvm.Cond) (a : Array Jvm.Value) (st : Jvm.State) : (allAtoms ts).before a st = ts.all (fun c => c.before a st) := by
  induction ts with
  | nil => rfl
  | cons c t ih =>
    show (Jvm.Cond.and c (allAtoms t)).before a st = _
    rw [Jvm.Cond.before_and, ih, List.all_cons]
def words1 : List Jvm.Cond := Jvm.Cond.code x code maxLocals ret :: tables_1
/-- a 'code' word, met by the world's own term for the bytes: nothing is compared byte by byte -/
theorem code_word {y : MethodName} {bytes : ByteArray} {mx : Nat} {rt : Option FieldType} {a : Array Value} {s : State} {m : MethodId} {meth : Method} {c : Code} (h1 : s.methodNamed? y = some m) (h2 : s.vm.method? m = some meth) (h3 : meth.code = some c) (h4 : c.code = bytes)
    (h5 : (c.maxLocals == mx && c.exceptionTable.isEmpty && decide (c.maxStack ≤ mostOperands) && decide (meth.sig.returnType = rt) && !meth.locks && decide (parseMethodDescriptor y.desc = some meth.sig)) = true) : (Jvm.Cond.code y bytes mx rt).before a s = true := by
  simp only [Bool.and_eq_true, beq_iff_eq, Bool.not_eq_true', decide_eq_true_eq] at h5
  obtain ⟨⟨⟨⟨⟨g1, g2⟩, g3⟩, g4⟩, g5⟩, g6⟩ := h5
  simp [Cond.before, Cond.holds, Cond.value, h1, h2, h3, h4, g1, g2, g3, g4, g5, g6]
def isCode : Jvm.Cond → Bool
  | .code _ _ _ _ => true
  | _ => false
theorem all_split {L : List Jvm.Cond} {P : Jvm.Cond → Bool} (h1 : L.all (fun c => isCode c || P c) = true) (h2 : ∀ c ∈ L.filter isCode, P c = true) : L.all P = true := by
  refine List.all_eq_true.mpr fun c hc => ?_
  have h := List.all_eq_true.mp h1 c hc
  rcases Bool.eq_false_or_eq_true (isCode c) with hi | hi
  · exact h2 c (List.mem_filter.mpr ⟨hc, hi⟩)
  · simpa [hi] using h
set_option maxRecDepth 65536 in
theorem w_c0 : (Jvm.Cond.code x code maxLocals ret).before args0 about1 = true := code_word (m := ⟨1, 1⟩) (meth := k1m1) (c := k1c1) (by decide +kernel) rfl rfl rfl (by decide +kernel)
set_option maxRecDepth 65536 in
theorem w_c1 : (Jvm.Cond.code ({ cls := "com/example/otsing/otsing/algorithm/Prefilter", name := "gram", desc := "([CI)J" } : Jvm.MethodName) prog_44_method_20_code (6 : Nat) (Option.some Jvm.ClassFile.FieldType.long)).before args0 about1 = true := code_word (m := ⟨2, 0⟩) (meth := k2m0) (c := k2c0) (by decide +kernel) rfl rfl rfl (by decide +kernel)
def codes1 : List Jvm.Cond := [Jvm.Cond.code x code maxLocals ret, Jvm.Cond.code ({ cls := "com/example/otsing/otsing/algorithm/Prefilter", name := "gram", desc := "([CI)J" } : Jvm.MethodName) prog_44_method_20_code (6 : Nat) (Option.some Jvm.ClassFile.FieldType.long)]
set_option maxRecDepth 65536 in
theorem codes_eq : words1.filter isCode = codes1 := rfl
theorem w_codes : ∀ c ∈ words1.filter isCode, c.before args0 about1 = true := by
  rw [codes_eq]
  intro c hc
  simp only [codes1, List.mem_cons, List.not_mem_nil, or_false] at hc
  rcases hc with rfl | rfl
  · exact w_c0
  · exact w_c1
set_option maxRecDepth 65536 in
theorem w_t1 : words1.all (fun c => isCode c || c.before args0 about1) = true := by decide +kernel
theorem w_tables : (allAtoms (Jvm.Cond.code x code maxLocals ret :: tables_1)).before args0 about1 = true := by
  rw [allAtoms_all]
  show words1.all (fun c => c.before args0 about1) = true
  refine all_split ?_ w_codes
  rw [w_t1]
set_option maxRecDepth 65536 in
theorem w_case : (Jvm.Cond.and given_1 narrow_1).before args0 about1 = true := by decide +kernel
theorem w_applies : (headSpec (Jvm.Cond.code x code maxLocals ret :: tables_1) room_1).applies x e0.platform about1 = true :=
  (Spec.applies_iff w_frames).mpr ⟨w_running, w_runnable, w_alone, w_named, w_hears, w_ripe, w_room, w_tables⟩
theorem atStart : AtStart classFile x code maxLocals ret World_1 tables_1 room_1 Calls_1 rest_1 Pre_1 launch0 p0 e0 about1 theMethod args0 below0 :=
  ⟨lists_1, trivial, launch0.admits_env _ _ _, launch0.least_env, fairChoices_fair.cas, fairChoices_fair.clock, w_frames, w_args, w_heap, w_applies, trivial, trivial, w_case⟩
end start1
theorem witness_1 : WitnessClaimed_1 := ⟨start1.p0, start1.e0, start1.about1, start1.theMethod, start1.args0, start1.below0, start1.atStart⟩
end Jvm.Pilot.@@N@@
