import JvmDerived
import JvmDerived.Pilot.@@N@@Statement
import JvmDerived.Pilot.@@N@@Code
set_option linter.unusedVariables false
set_option linter.unusedSimpArgs false
namespace Jvm.Pilot.@@N@@
open Jvm Jvm.ClassFile Sem Op Lib Jvm.Free Jvm.Stand Jvm.LawKit Jvm.RoadKit Bundle Jvm.Pilot.@@N@@.Jvm.D
section Own
set_option maxHeartbeats 4000000
variable {p : Program} {l : Launch} {e : Env} {R : Room} {s : State} {m : MethodId} {args : Array Value} {below : List Frame} {meth : Method} {c : Code} {T : State} {locs : List Loc} {cells slots : Nat} {Z : State} {a0 : Array Value} {h : Heap} {own nm : String} {bytes : ByteArray} {ml : Nat} {rt : Option FieldType} {Q : Option Value → Heap → List Loc → Prop} {CC SS : Nat} {E : Outcome → State → Prop} {pc : Nat} {Ls : Array Slot} {St : List Value}
def Ctx (p : Program) (s : State) (m : MethodId) (meth : Method) (c : Code) (Z : State) (own nm : String) (bytes : ByteArray) (ml : Nat) (rt : Option FieldType) : Prop :=
  p.tables.exec = Jvm.exec ∧ Z.Warmed39 s.vm ∧ c.code = bytes ∧ c.maxLocals = ml ∧ s.vm.findClass own = some m.cls ∧ meth.locks = false ∧ meth.sig.returnType = rt ∧ meth.name = nm
theorem Ctx.c_x (C : Ctx p s m meth c Z own nm bytes ml rt) : p.tables.exec = Jvm.exec := C.1
theorem Ctx.c_z (C : Ctx p s m meth c Z own nm bytes ml rt) : Z.Warmed39 s.vm := C.2.1
theorem Ctx.c_by (C : Ctx p s m meth c Z own nm bytes ml rt) : c.code = bytes := C.2.2.1
theorem Ctx.c_ml (C : Ctx p s m meth c Z own nm bytes ml rt) : c.maxLocals = ml := C.2.2.2.1
theorem Ctx.c_own (C : Ctx p s m meth c Z own nm bytes ml rt) : s.vm.findClass own = some m.cls := C.2.2.2.2.1
theorem Ctx.c_lk (C : Ctx p s m meth c Z own nm bytes ml rt) : meth.locks = false := C.2.2.2.2.2.1
theorem Ctx.c_rt (C : Ctx p s m meth c Z own nm bytes ml rt) : meth.sig.returnType = rt := C.2.2.2.2.2.2.1
theorem Ctx.c_nm (C : Ctx p s m meth c Z own nm bytes ml rt) : meth.name = nm := C.2.2.2.2.2.2.2
def EndN (s : State) (Q : Option Value → Heap → List Loc → Prop) (CC SS : Nat) (o : Outcome) (t : State) : Prop := ∃ v L, o = .returned v ∧ Q v t.heap L ∧ FrameEnd s o t L CC SS
def Goes (p : Program) (e : Env) (below : List Frame) (E : Outcome → State → Prop) (T : State) (m : MethodId) (pc : Nat) (Ls : Array Slot) (St : List Value) : Prop :=
  ∃ s₂ o, Steps p.tables e below (T.setTop (mkF m pc Ls St)) s₂ ∧ s₂.status = .running ∧ Ended s₂ below o ∧ E o s₂
theorem Goes.back {T' : State} {q : Nat} {Ls' : Array Slot} {St' : List Value} (k : Goes p e below E T' m q Ls' St') (f : ∀ t, Steps p.tables e below (T'.setTop (mkF m q Ls' St')) t → Steps p.tables e below (T.setTop (mkF m pc Ls St)) t) : Goes p e below E T m pc Ls St := by
  obtain ⟨s2, o, h1, h2⟩ := k
  exact ⟨s2, o, f _ h1, h2⟩
theorem Goes.enter {g : JFrame} (hg : g = mkF m 0 Ls []) (k : Goes p e below (EndN s Q CC SS) T m 0 Ls []) : ∃ s₂ o, Steps p.tables e below (T.setTop g) s₂ ∧ s₂.status = .running ∧ Ended s₂ below o ∧ ∃ v L, o = .returned v ∧ Q v s₂.heap L ∧ FrameEnd s o s₂ L CC SS := by
  subst hg
  exact k
theorem Ctx.of {x : MethodName} {S : Spec} {s₁ : State} (Bd : BodyLoose p l x S bytes ml rt e s m args below meth c s₁) (hml : c.maxLocals = ml) (hZ : Z.Warmed39 s.vm) : Ctx p s m meth c Z x.cls x.name bytes ml rt :=
  ⟨Bd.exec, hZ, Bd.bytes, hml, findClass_of_methodNamed Bd.named, Bd.notSynchronized, Bd.returns, (name_of_methodNamed Bd.named Bd.method).1⟩
theorem g_iand (q : Nat) (hq : pc + 1 = q) (C : Ctx p s m meth c Z own nm bytes ml rt) (X : Stand p l e R s m args below meth c T locs cells slots) {x y : Int32} (hd : decode bytes pc = .ok (.iand, 1)) (k : Goes p e below E T m q Ls (.int (x &&& y) :: St)) : Goes p e below E T m pc Ls (.int y :: .int x :: St) := by
  subst hq
  exact k.back fun t kt => XS.iand (g := mkF m pc Ls (.int y :: .int x :: St)) X.here C.c_x rfl (hb C.c_by hd) rfl kt
theorem g_iushr (q : Nat) (hq : pc + 1 = q) (C : Ctx p s m meth c Z own nm bytes ml rt) (X : Stand p l e R s m args below meth c T locs cells slots) {x y : Int32} (hd : decode bytes pc = .ok (.iushr, 1)) (k : Goes p e below E T m q Ls (.int ((x.toUInt32 >>> (y &&& 31).toUInt32).toInt32) :: St)) : Goes p e below E T m pc Ls (.int y :: .int x :: St) := by
  subst hq
  exact k.back fun t kt => XS.iushr (g := mkF m pc Ls (.int y :: .int x :: St)) X.here C.c_x rfl (hb C.c_by hd) rfl kt
theorem g_i2b (q : Nat) (hq : pc + 1 = q) (C : Ctx p s m meth c Z own nm bytes ml rt) (X : Stand p l e R s m args below meth c T locs cells slots) {x : Int32} (hd : decode bytes pc = .ok (.i2b, 1)) (k : Goes p e below E T m q Ls (.int (x.toInt8.toInt32) :: St)) : Goes p e below E T m pc Ls (.int x :: St) := by
  subst hq
  exact k.back fun t kt => XS.i2b (g := mkF m pc Ls (.int x :: St)) X.here C.c_x rfl (hb C.c_by hd) rfl kt
theorem g_iconst (q : Nat) (hq : pc + 1 = q) (C : Ctx p s m meth c Z own nm bytes ml rt) (X : Stand p l e R s m args below meth c T locs cells slots) {i : Int} (v : Int32) (hd : decode bytes pc = .ok (.iconst i, 1)) (hv : Int32.ofInt i = v) (k : Goes p e below E T m q Ls (.int v :: St)) : Goes p e below E T m pc Ls St := by
  subst hq
  exact k.back fun t kt => XS.iconst (g := mkF m pc Ls St) X.here C.c_x rfl (hb C.c_by hd) (by subst hv; exact kt)
theorem g_bipush (q : Nat) (hq : pc + 2 = q) (C : Ctx p s m meth c Z own nm bytes ml rt) (X : Stand p l e R s m args below meth c T locs cells slots) {i : Int} (v : Int32) (hd : decode bytes pc = .ok (.bipush i, 2)) (hv : (Int8.ofInt i).toInt32 = v) (k : Goes p e below E T m q Ls (.int v :: St)) : Goes p e below E T m pc Ls St := by
  subst hq
  exact k.back fun t kt => XS.bipush (g := mkF m pc Ls St) X.here C.c_x rfl (hb C.c_by hd) (by subst hv; exact kt)
theorem g_iloadN (q : Nat) (hq : pc + 1 = q) (C : Ctx p s m meth c Z own nm bytes ml rt) (X : Stand p l e R s m args below meth c T locs cells slots) {k0 : Fin 4} {v : Int32} (hd : decode bytes pc = .ok (.iload_n k0, 1)) (hl : Ls[k0.val]? = some (.val (.int v))) (k : Goes p e below E T m q Ls (.int v :: St)) : Goes p e below E T m pc Ls St := by
  subst hq
  exact k.back fun t kt => XS.iloadN (g := mkF m pc Ls St) X.here C.c_x rfl (hb C.c_by hd) hl kt
theorem g_iload (q : Nat) (hq : pc + 2 = q) (C : Ctx p s m meth c Z own nm bytes ml rt) (X : Stand p l e R s m args below meth c T locs cells slots) {k0 : Nat} {v : Int32} (hd : decode bytes pc = .ok (.iload k0, 2)) (hl : Ls[k0]? = some (.val (.int v))) (k : Goes p e below E T m q Ls (.int v :: St)) : Goes p e below E T m pc Ls St := by
  subst hq
  exact k.back fun t kt => XS.iload (g := mkF m pc Ls St) X.here C.c_x rfl (hb C.c_by hd) hl kt
theorem g_aloadN (q : Nat) (hq : pc + 1 = q) (C : Ctx p s m meth c Z own nm bytes ml rt) (X : Stand p l e R s m args below meth c T locs cells slots) {k0 : Fin 4} {v : Value} (hd : decode bytes pc = .ok (.aload_n k0, 1)) (hl : Ls[k0.val]? = some (.val v)) (hv : v.isRef = true) (k : Goes p e below E T m q Ls (v :: St)) : Goes p e below E T m pc Ls St := by
  subst hq
  exact k.back fun t kt => XS.aloadN (g := mkF m pc Ls St) X.here C.c_x rfl (hb C.c_by hd) hl hv kt
theorem g_aload (q : Nat) (hq : pc + 2 = q) (C : Ctx p s m meth c Z own nm bytes ml rt) (X : Stand p l e R s m args below meth c T locs cells slots) {k0 : Nat} {v : Value} (hd : decode bytes pc = .ok (.aload k0, 2)) (hl : Ls[k0]? = some (.val v)) (hv : v.isRef = true) (k : Goes p e below E T m q Ls (v :: St)) : Goes p e below E T m pc Ls St := by
  subst hq
  exact k.back fun t kt => XS.aload (g := mkF m pc Ls St) X.here C.c_x rfl (hb C.c_by hd) hl hv kt
theorem g_istoreN (q : Nat) (hq : pc + 1 = q) (C : Ctx p s m meth c Z own nm bytes ml rt) (X : Stand p l e R s m args below meth c T locs cells slots) {k0 : Fin 4} {x : Int32} (v : Int32) (hv : x = v) (Ls' : Array Slot) (hd : decode bytes pc = .ok (.istore_n k0, 1)) (hl : storeLocals Ls k0.val (.int v) = some Ls') (k : Goes p e below E T m q Ls' St) : Goes p e below E T m pc Ls (.int x :: St) := by
  subst hq
  exact k.back fun t kt => XS.istoreN (g := mkF m pc Ls (.int x :: St)) X.here C.c_x rfl (hb C.c_by hd) rfl (by subst hv; exact hl) kt
theorem g_istore (q : Nat) (hq : pc + 2 = q) (C : Ctx p s m meth c Z own nm bytes ml rt) (X : Stand p l e R s m args below meth c T locs cells slots) {k0 : Nat} {x : Int32} (v : Int32) (hv : x = v) (Ls' : Array Slot) (hd : decode bytes pc = .ok (.istore k0, 2)) (hl : storeLocals Ls k0 (.int v) = some Ls') (k : Goes p e below E T m q Ls' St) : Goes p e below E T m pc Ls (.int x :: St) := by
  subst hq
  exact k.back fun t kt => XS.istore (g := mkF m pc Ls (.int x :: St)) X.here C.c_x rfl (hb C.c_by hd) rfl (by subst hv; exact hl) kt
theorem g_astoreN (q : Nat) (hq : pc + 1 = q) (C : Ctx p s m meth c Z own nm bytes ml rt) (X : Stand p l e R s m args below meth c T locs cells slots) {k0 : Fin 4} {x : Value} (Ls' : Array Slot) (hd : decode bytes pc = .ok (.astore_n k0, 1)) (hv : x.isRef = true) (hl : storeLocals Ls k0.val x = some Ls') (k : Goes p e below E T m q Ls' St) : Goes p e below E T m pc Ls (x :: St) := by
  subst hq
  exact k.back fun t kt => XS.astoreN (g := mkF m pc Ls (x :: St)) X.here C.c_x rfl (hb C.c_by hd) rfl hv hl kt
theorem g_astore (q : Nat) (hq : pc + 2 = q) (C : Ctx p s m meth c Z own nm bytes ml rt) (X : Stand p l e R s m args below meth c T locs cells slots) {k0 : Nat} {x : Value} (Ls' : Array Slot) (hd : decode bytes pc = .ok (.astore k0, 2)) (hv : x.isRef = true) (hl : storeLocals Ls k0 x = some Ls') (k : Goes p e below E T m q Ls' St) : Goes p e below E T m pc Ls (x :: St) := by
  subst hq
  exact k.back fun t kt => XS.astore (g := mkF m pc Ls (x :: St)) X.here C.c_x rfl (hb C.c_by hd) rfl hv hl kt
theorem g_dup (q : Nat) (hq : pc + 1 = q) (C : Ctx p s m meth c Z own nm bytes ml rt) (X : Stand p l e R s m args below meth c T locs cells slots) {v : Value} (hd : decode bytes pc = .ok (.dup, 1)) (hv : v.category = 1) (k : Goes p e below E T m q Ls (v :: v :: St)) : Goes p e below E T m pc Ls (v :: St) := by
  subst hq
  exact k.back fun t kt => XS.dup (g := mkF m pc Ls (v :: St)) X.here C.c_x rfl (hb C.c_by hd) rfl hv kt
theorem g_goto (q : Nat) (C : Ctx p s m meth c Z own nm bytes ml rt) (X : Stand p l e R s m args below meth c T locs cells slots) {o : Int} (hd : decode bytes pc = .ok (.goto o, 3)) (ho : 0 ≤ (pc : Int) + o) (hp : ((pc : Int) + o).toNat = q) (k : Goes p e below E T m q Ls St) : Goes p e below E T m pc Ls St :=
  k.back fun t kt => XS.goto (g := mkF m pc Ls St) X.here C.c_x rfl (pc0 := pc) (pc' := q) rfl (hb C.c_by hd) ho hp kt
theorem own_z0 : (0 : Int32).toInt = 0 := rfl
theorem g_if_eq_t (q : Nat) (C : Ctx p s m meth c Z own nm bytes ml rt) (X : Stand p l e R s m args below meth c T locs cells slots) {o : Int} {x : Int32} (hd : decode bytes pc = .ok (.ifCond .eq o, 3)) (ho : 0 ≤ (pc : Int) + o) (hp : ((pc : Int) + o).toNat = q) (h : x.toInt = 0) (k : Goes p e below E T m q Ls St) : Goes p e below E T m pc Ls (.int x :: St) :=
  k.back fun t kt => XS.ifYes (g := mkF m pc Ls (.int x :: St)) X.here C.c_x rfl (pc0 := pc) (pc' := q) rfl (hb C.c_by hd) rfl ((if0 _ _).trans (teq (Int32.toInt_inj.mp h)).1) ho hp kt
theorem g_if_eq_f (q : Nat) (hq : pc + 3 = q) (C : Ctx p s m meth c Z own nm bytes ml rt) (X : Stand p l e R s m args below meth c T locs cells slots) {o : Int} {x : Int32} (hd : decode bytes pc = .ok (.ifCond .eq o, 3)) (h : ¬ x.toInt = 0) (k : Goes p e below E T m q Ls St) : Goes p e below E T m pc Ls (.int x :: St) := by
  subst hq
  exact k.back fun t kt => XS.ifNo (g := mkF m pc Ls (.int x :: St)) X.here C.c_x rfl (hb C.c_by hd) rfl ((if0 _ _).trans (feq (fun r => h (congrArg Int32.toInt r))).1) kt
theorem g_icmp_ne_t (q : Nat) (C : Ctx p s m meth c Z own nm bytes ml rt) (X : Stand p l e R s m args below meth c T locs cells slots) {o : Int} {x y : Int32} (hd : decode bytes pc = .ok (.if_icmp .ne o, 3)) (ho : 0 ≤ (pc : Int) + o) (hp : ((pc : Int) + o).toNat = q) (h : ¬ x.toInt = y.toInt) (k : Goes p e below E T m q Ls St) : Goes p e below E T m pc Ls (.int y :: .int x :: St) :=
  k.back fun t kt => XS.icmpYes (g := mkF m pc Ls (.int y :: .int x :: St)) X.here C.c_x rfl (pc0 := pc) (pc' := q) rfl (hb C.c_by hd) rfl (feq (fun r => h (congrArg Int32.toInt r))).2 ho hp kt
theorem g_icmp_ne_f (q : Nat) (hq : pc + 3 = q) (C : Ctx p s m meth c Z own nm bytes ml rt) (X : Stand p l e R s m args below meth c T locs cells slots) {o : Int} {x y : Int32} (hd : decode bytes pc = .ok (.if_icmp .ne o, 3)) (h : x.toInt = y.toInt) (k : Goes p e below E T m q Ls St) : Goes p e below E T m pc Ls (.int y :: .int x :: St) := by
  subst hq
  exact k.back fun t kt => XS.icmpNo (g := mkF m pc Ls (.int y :: .int x :: St)) X.here C.c_x rfl (hb C.c_by hd) rfl (teq (Int32.toInt_inj.mp h)).2 kt
theorem g_retW (C : Ctx p s m meth c Z own nm bytes ml rt) (X : Stand p l e R s m args below meth c T locs cells slots) {w : Value} {t : FieldType} {i : Instr} (hrt : rt = some t) (hn : narrow t w = w)
    (hi : (i = .ireturn ∧ (t = .int ∨ t = .boolean ∨ t = .byte ∨ t = .char ∨ t = .short) ∧ ∃ z, w = .int z) ∨ (i = .lreturn ∧ t = .long ∧ ∃ z, w = .long z) ∨ (i = .dreturn ∧ t = .double ∧ ∃ z, w = .double z) ∨ (i = .freturn ∧ t = .float ∧ ∃ z, w = .float z) ∨ (i = .areturn ∧ t.isReference = true ∧ w.isRef = true))
    (hd : decode bytes pc = .ok (i, 1)) (eT : T.heap = h) (hc : cells ≤ CC) (hs : slots ≤ SS) (hQ : Q (some w) h locs) : Goes p e below (EndN s Q CC SS) T m pc Ls (w :: St) := by
  obtain ⟨fs, hr, hrun, hended, hW, hsame⟩ := X.leave (v := some w) (fun r => by rw [C.c_rt, hrt] at r; cases r) C.c_lk
  subst eT
  exact ⟨_, _, retOut X C.c_x (C.c_rt.trans hrt) hn hi (hb C.c_by hd) hr, hrun, hended, _, _, rfl, hQ, ⟨_, rfl⟩, hW, hsame.mono hc hs⟩
theorem g_retA (C : Ctx p s m meth c Z own nm bytes ml rt) (X : Stand p l e R s m args below meth c T locs cells slots) {w : Value} {t : FieldType} (hrt : rt = some t) (ht : t.isReference = true) (hw : w.isRef = true) (hn : narrow t w = w) (hd : decode bytes pc = .ok (.areturn, 1)) (eT : T.heap = h) (hc : cells ≤ CC) (hs : slots ≤ SS) (hQ : Q (some w) h locs) : Goes p e below (EndN s Q CC SS) T m pc Ls (w :: St) :=
  g_retW C X hrt hn (Or.inr (Or.inr (Or.inr (Or.inr ⟨rfl, ht, hw⟩)))) hd eT hc hs hQ
theorem g_retN (C : Ctx p s m meth c Z own nm bytes ml rt) (X : Stand p l e R s m args below meth c T locs cells slots) {z z' : Int32} {t : FieldType} (hrt : rt = some t) (ht : t = .boolean ∨ t = .byte ∨ t = .char ∨ t = .short) (hd : decode bytes pc = .ok (.ireturn, 1)) (eT : T.heap = h) (hc : cells ≤ CC) (hs : slots ≤ SS) (hz : nar t z = z') (hQ : Q (some (.int z')) h locs) : Goes p e below (EndN s Q CC SS) T m pc Ls (.int z :: St) := by
  obtain ⟨fs, hr, hrun, hended, hW, hsame⟩ := X.leave (v := some (.int (nar t z))) (fun r => by rw [C.c_rt, hrt] at r; cases r) C.c_lk
  subst eT
  subst hz
  exact ⟨_, _, retN X C.c_x (C.c_rt.trans hrt) ht (hb C.c_by hd) hr, hrun, hended, _, _, rfl, hQ, ⟨_, rfl⟩, hW, hsame.mono hc hs⟩
theorem g_retV (C : Ctx p s m meth c Z own nm bytes ml rt) (X : Stand p l e R s m args below meth c T locs cells slots) (hrt : rt = none) (hd : decode bytes pc = .ok (.return_, 1)) (eT : T.heap = h) (hc : cells ≤ CC) (hs : slots ≤ SS) (hQ : Q none h locs) : Goes p e below (EndN s Q CC SS) T m pc Ls [] := by
  obtain ⟨fs, hr, hrun, hended, hW, hsame⟩ := X.leave (v := none) (fun _ => rfl) C.c_lk
  subst eT
  exact ⟨_, _, X.returnOut C.c_x (C.c_rt.trans hrt) (hb C.c_by hd) hr, hrun, hended, _, _, rfl, hQ, ⟨_, rfl⟩, hW, hsame.mono hc hs⟩
theorem g_getF (q : Nat) (hq : pc + 3 = q) (C : Ctx p s m meth c Z own nm bytes ml rt) (X : Stand p l e R s m args below meth c T locs cells slots) {R0 O n d host : String} {i : Nat} {a : Addr} {v : Value} (w : (Cond.fieldLink own i R0 n d).before a0 Z = true ∨ (Cond.fieldLinkNest own i R0 n d host).before a0 Z = true) (via : Via Z R0 O n d) (eT : T.heap = h) (F : Fld Z h a O n d v) (hd : decode bytes pc = .ok (.getfield i, 3))
    (k : ∀ T', Stand p l e R s m args below meth c T' locs cells slots → T'.heap = h → Goes p e below E T' m q Ls (v :: St)) : Goes p e below E T m pc Ls (.ref a :: St) := by
  subst hq
  obtain ⟨T', X', e', st⟩ := getF X C.c_x C.c_z C.c_own w via eT F (g := mkF m pc Ls (.ref a :: St)) rfl rfl (hb C.c_by hd)
  exact (k T' X' e').back fun t kt => st t kt
theorem g_putF (q : Nat) (hq : pc + 3 = q) (C : Ctx p s m meth c Z own nm bytes ml rt) (X : Stand p l e R s m args below meth c T locs cells slots) {R0 O n d host K : String} {i kk : Nat} {ty : FieldType} {a : Addr} {v old : Value} (w : (Cond.fieldLink own i R0 n d).before a0 Z = true ∨ (Cond.fieldLinkNest own i R0 n d host).before a0 Z = true) (via : Via Z R0 O n d) (eT : T.heap = h) (F : Fld Z h a O n d old) (EX : Exa Z h a K)
    (L : (Cond.lays K O n d).before a0 Z = true ∨ ((Cond.laysFinal K O n d).before a0 Z = true ∧ own = O ∧ nm = "<init>")) (wi : (Cond.instantiable K kk).before a0 Z = true) (hty : parseFieldDescriptor d = some ty) (hn : narrow ty v = v) (hf : fits ty v = true) (hd : decode bytes pc = .ok (.putfield i, 3)) {n0 : Nat} (N : Fr n0 locs) (hn0 : n0 ≤ a)
    (k : ∀ T' h' locs', Stand p l e R s m args below meth c T' locs' cells slots → T'.heap = h' → Wr h h' a (Jvm.RoadKit.slotOf Z O n d) v → Fr n0 locs' → Goes p e below E T' m q Ls St) : Goes p e below E T m pc Ls (v :: .ref a :: St) := by
  subst hq
  obtain ⟨T', h', X', e', W', st⟩ := putF X C.c_x C.c_z C.c_own w via eT F EX (L.imp id fun r => ⟨r.1, r.2.1, C.c_nm.trans r.2.2⟩) wi hty hn hf (g := mkF m pc Ls (v :: .ref a :: St)) rfl rfl (hb C.c_by hd)
  exact (k T' h' _ X' e' W' (Fr.snoc X' N hn0)).back fun t kt => st t kt
theorem g_new (q : Nat) (hq : pc + 3 = q) (C : Ctx p s m meth c Z own nm bytes ml rt) (X : Stand p l e R s m args below meth c T locs cells slots) {K : String} {i n : Nat} (w : (Cond.classLink own i K).before a0 Z = true) (wi : (Cond.instantiable K n).before a0 Z = true) (wz : (Cond.initialized K).before a0 Z = true) (eT : T.heap = h) (hd : decode bytes pc = .ok (.new i, 3)) (hc : cells + 1 ≤ R.cells) (hl : slots + n ≤ R.slots)
    (k : ∀ T' h' a, a = h.size → Stand p l e R s m args below meth c T' locs (cells + 1) (slots + n) → T'.heap = h' → Ext h h' → Exa Z h' a K → (∀ {O nm d : String} {ty : FieldType}, Laid Z a0 K O nm d → parseFieldDescriptor d = some ty → Fld Z h' a O nm d (defaultValue ty)) → Goes p e below E T' m q Ls (.ref a :: St)) : Goes p e below E T m pc Ls St := by
  subst hq
  obtain ⟨T', h', X', e', E', A', D', -, st⟩ := newO X C.c_x C.c_z C.c_own w wi wz eT (g := mkF m pc Ls St) rfl (hb C.c_by hd) hc hl
  exact (k T' h' _ rfl X' e' E' A' D').back fun t kt => st t kt
theorem g_initO (q : Nat) (hq : pc + 3 = q) (C : Ctx p s m meth c Z own nm bytes ml rt) (X : Stand p l e R s m args below meth c T locs cells slots) {i : Nat} {a : Addr} (w1 : (Cond.methodLink own i Lib.objectInit).before a0 Z = true) (w2 : (Cond.instanceMethod Lib.objectInit).before a0 Z = true) (w3 : (Cond.code Lib.objectInit ⟨#[0xb1]⟩ 1 none).before a0 Z = true) (eT : T.heap = h) (hd : decode bytes pc = .ok (.invokespecial i, 3)) (hsz : Ls.size = ml) (hf : 1 ≤ R.frames) {W : Nat} (hW : (St.map fun v => v.category).sum ≤ W) (hl : W + 12 ≤ R.locals)
    (k : ∀ T', Stand p l e R s m args below meth c T' locs cells slots → T'.heap = h → Goes p e below E T' m q Ls St) : Goes p e below E T m pc Ls (.ref a :: St) := by
  subst hq
  obtain ⟨T', X', e', st⟩ := initO X C.c_x C.c_z C.c_own w1 w2 w3 eT (g := mkF m pc Ls (.ref a :: St)) rfl (hsz.trans C.c_ml.symm) rfl (hb C.c_by hd) hf (W := W) (by show 2 * 0 + _ ≤ _; omega) hl
  exact (k T' X' e').back fun t kt => st t kt
def Ba (Z : State) (h : Heap) (a : Addr) (ty : FieldType) (n : Nat) (f : Nat → Int32) : Prop := ∃ c : Cell, Arr Z h a c ty ∧ c.slots.size = n ∧ n < 2 ^ 31 ∧ (∀ k, k < n → c.slots[k]? = some (.int (f k)))
def upd (f : Nat → Int32) (j : Nat) (v : Int32) : Nat → Int32 := fun k => bif Nat.beq k j then v else f k
theorem upd_same {f : Nat → Int32} {j k : Nat} {v : Int32} (q : k = j) : upd f j v k = v := by subst q; simp [upd]
theorem upd_ne {f : Nat → Int32} {j k : Nat} {v : Int32} (q : k ≠ j) : upd f j v k = f k := by
  have : Nat.beq k j = false := by
    cases hb : Nat.beq k j with
    | false => rfl
    | true => exact absurd (Nat.eq_of_beq_eq_true hb) q
  show (bif Nat.beq k j then v else f k) = f k
  rw [this]; rfl
theorem upd_eq (f : Nat → Int32) (j k : Nat) (v : Int32) : upd f j v k = if k = j then v else f k := by
  split
  · rename_i q; exact upd_same q
  · rename_i q; exact upd_ne q
theorem Ba.lt {a : Addr} {ty : FieldType} {n : Nat} {f : Nat → Int32} (F : Ba Z h a ty n f) : a < h.size := by obtain ⟨c, A, -⟩ := F; exact A.lt
theorem Ba.ext {h' : Heap} {a : Addr} {ty : FieldType} {n : Nat} {f : Nat → Int32} (F : Ba Z h a ty n f) (E : Ext h h') : Ba Z h' a ty n f := by obtain ⟨c, A, r⟩ := F; exact ⟨c, A.ext E, r⟩
theorem Ba.other {h' : Heap} {a b : Addr} {ty : FieldType} {n sl : Nat} {v : Value} {f : Nat → Int32} (F : Ba Z h a ty n f) (W : Wr h h' b sl v) (q : a ≠ b) : Ba Z h' a ty n f := by obtain ⟨c, A, r⟩ := F; exact ⟨c, A.other W q, r⟩
theorem Ba.keep {h' : Heap} {a : Addr} {ty : FieldType} {n : Nat} {ws : List Addr} {f : Nat → Int32} (F : Ba Z h a ty n f) (K : Keep h h' ws) (q : a ∉ ws) : Ba Z h' a ty n f := by obtain ⟨c, A, r⟩ := F; exact ⟨c, ⟨K.2.1 a c A.1 q, A.2⟩, r⟩
theorem Ba.same {h' : Heap} {a : Addr} {ty : FieldType} {n j : Nat} {v : Int32} {f : Nat → Int32} (F : Ba Z h a ty n f) (W : Wr h h' a j (.int v)) : Ba Z h' a ty n (upd f j v) := by
  obtain ⟨c, A, hs, hn, hf⟩ := F
  refine ⟨_, A.same W, by simp [Cell.setSlot, hs], hn, fun k hk => ?_⟩
  rw [upd_eq]
  by_cases q : k = j
  · subst q; simp [Cell.setSlot, hs, hk]
  · rw [if_neg q]; simp only [Cell.setSlot]; rw [Array.getElem?_setIfInBounds_ne (Ne.symm q)]; exact hf k hk
theorem Ba.cong {a : Addr} {ty : FieldType} {n : Nat} {f f' : Nat → Int32} (F : Ba Z h a ty n f) (q : ∀ k, k < n → f k = f' k) : Ba Z h a ty n f' := by
  obtain ⟨c, A, hs, hn, hf⟩ := F
  exact ⟨c, A, hs, hn, fun k hk => by rw [← q k hk]; exact hf k hk⟩
theorem Ba.new {a : Addr} {cA : ClassId} {ty : FieldType} {z : Int32} {n : Nat} (A : Arr Z h a (newA cA ty z) ty) (hz : z.toInt = n) (hd : defaultValue ty = .int 0) : Ba Z h a ty n (fun _ => 0) := by
  have hr := rng32 z
  have hn : z.toNatClampNeg = n := by simp only [Int32.toNatClampNeg, hz]; rfl
  exact ⟨_, A, by rw [sz_new, hn], by omega, fun k hk => by simp [newA, hn, hk, hd]⟩
theorem own_clamp {j : Int32} {k : Nat} (hj : j.toInt = k) : j.toNatClampNeg = k ∧ ¬ j < 0 := by
  refine ⟨by simp only [Int32.toNatClampNeg, hj]; rfl, fun r => ?_⟩
  have := Int32.lt_iff_toInt_lt.mp r
  rw [hj, own_z0] at this; omega
theorem own_in {j : Int32} {k n : Nat} {c : Cell} (hs : c.slots.size = n) (hj : j.toInt = k) (hk : k < n) : ¬ (j < 0 ∨ c.slots.size ≤ j.toNatClampNeg) := by
  obtain ⟨h1, h2⟩ := own_clamp hj
  rw [h1, hs]; intro r; rcases r with r | r
  · exact h2 r
  · omega
theorem own_lenI {n : Nat} (hn : n < 2 ^ 31) : (n.toInt32).toInt = n := by
  have := len_toInt hn
  exact this
theorem g_newP (q : Nat) (hq : pc + 2 = q) (C : Ctx p s m meth c Z own nm bytes ml rt) (X : Stand p l e R s m args below meth c T locs cells slots) {aty : ArrayType} {z : Int32} (n : Nat) (hz : z.toInt = n) (cap : Nat) (hcap : n ≤ cap) (hb' : cap * 8 ≤ 536870912) (hdf : defaultValue (newarray.typeOf aty) = .int 0) (w : (Cond.arrayClass (newarray.typeOf aty)).before a0 Z = true) (eT : T.heap = h) (hd : decode bytes pc = .ok (.newarray aty, 2)) (hc : cells + 1 ≤ R.cells) (hl : slots + cap ≤ R.slots)
    (k : ∀ T' h' a, a = h.size → Stand p l e R s m args below meth c T' locs (cells + 1) (slots + cap) → T'.heap = h' → Ext h h' → Ba Z h' a (newarray.typeOf aty) n (fun _ => 0) → Goes p e below E T' m q Ls (.ref a :: St)) : Goes p e below E T m pc Ls (.int z :: St) := by
  subst hq
  obtain ⟨h1, h2⟩ := own_clamp hz
  obtain ⟨T', h', cA, X', e', E', A', st⟩ := newP X C.c_x C.c_z w eT (g := mkF m pc Ls (.int z :: St)) rfl (hb C.c_by hd) rfl h2 (cap := cap) (by rw [h1]; exact hcap) hb' hc hl
  exact (k T' h' _ rfl X' e' E' (Ba.new A' hz hdf)).back fun t kt => st t kt
theorem g_len (q : Nat) (hq : pc + 1 = q) (C : Ctx p s m meth c Z own nm bytes ml rt) (X : Stand p l e R s m args below meth c T locs cells slots) {a : Addr} {ty : FieldType} {n : Nat} {f : Nat → Int32} (eT : T.heap = h) (F : Ba Z h a ty n f) (z : Int32) (hz : z.toInt = n) (hd : decode bytes pc = .ok (.arraylength, 1)) (k : Goes p e below E T m q Ls (.int z :: St)) : Goes p e below E T m pc Ls (.ref a :: St) := by
  subst hq
  obtain ⟨c0, A, hs, hn, hf⟩ := F
  have ez : c0.slots.size.toInt32 = z := Int32.toInt_inj.mp (by rw [hs, own_lenI hn, hz])
  exact k.back fun t kt => X.arraylength C.c_x (by rw [eT]; exact A.1) (State.isArrayOf_alike C.c_z.alike A.2.1) (g := mkF m pc Ls (.ref a :: St)) rfl rfl (hb C.c_by hd) t (by rw [ez]; exact kt)
theorem g_bastore (q : Nat) (hq : pc + 1 = q) (C : Ctx p s m meth c Z own nm bytes ml rt) (X : Stand p l e R s m args below meth c T locs cells slots) {a : Addr} {n : Nat} {f : Nat → Int32} {j x : Int32} (eT : T.heap = h) (F : Ba Z h a .byte n f) (i : Nat) (hj : j.toInt = i) (hi : i < n) (v : Int32) (hv : x.toInt8.toInt32 = v) (hd : decode bytes pc = .ok (.bastore, 1)) {n0 : Nat} (N : Fr n0 locs) (hn0 : n0 ≤ a)
    (k : ∀ T' h' locs', Stand p l e R s m args below meth c T' locs' cells slots → T'.heap = h' → Wr h h' a i (.int v) → Ba Z h' a .byte n (upd f i v) → Fr n0 locs' → Goes p e below E T' m q Ls St) : Goes p e below E T m pc Ls (.int x :: .int j :: .ref a :: St) := by
  subst hq hv
  have F0 := F
  obtain ⟨c0, A, hs, hn, hf⟩ := F
  obtain ⟨T', h', X', e', W', st⟩ := stB X C.c_x C.c_z eT A (j := j) (own_in hs hj hi) (g := mkF m pc Ls (.int x :: .int j :: .ref a :: St)) rfl rfl (hb C.c_by hd)
  rw [(own_clamp hj).1] at W' X'
  exact (k T' h' _ X' e' W' (F0.same W') (Fr.snoc X' N hn0)).back fun t kt => st t kt
theorem own_narByte {b : Int32} (h0 : -128 ≤ b.toInt) (h1 : b.toInt < 128) : b.toInt8.toInt32 = b := by
  have := c_i2b b
  exact Int32.toInt_inj.mp (by omega)
theorem own_fitB {x : Int32} (h0 : -128 ≤ x.toInt) (h1 : x.toInt < 128) : fits .byte (.int x) = true := by
  have e := own_narByte h0 h1
  rw [← e]; exact fits_nar_byte x

theorem g_callS (q : Nat) (hq : pc + 3 = q) (C : Ctx p s m meth c Z own nm bytes ml rt) (X : Stand p l e R s m args below meth c T locs cells slots) {y : MethodName} {bytes' : ByteArray} {maxL' : Nat} {ret' : Option FieldType} {rm : Room} {Q' : Option Value → Heap → List Loc → Prop} {i W : Nat} {argsL : List Value} (w1 : (Cond.methodLink own i y).before a0 Z = true) (w2 : (Cond.static y).before a0 Z = true) (wc : (Cond.code y bytes' maxL' ret').before a0 Z = true) (wz : (Cond.initialized y.cls).before a0 Z = true) (eT : T.heap = h) (M : MetFree l y (head1 [Cond.code y bytes' maxL' ret'] rm) (fun a' U => a' = argsL.toArray ∧ Z.Warmed39 U.vm ∧ U.heap = h) (fun _ _ _ _ _ => True) (fun _ U o U' => ∃ v L, o = .returned v ∧ Q' v U'.heap L ∧ FrameEnd U o U' L rm.cells rm.slots)) (hlen : ∀ sig, parseMethodDescriptor y.desc = some sig → argsL.length = sig.parameters.length) (hf : rm.frames + 1 ≤ R.frames) (hl : W + (maxL' + 11) + rm.locals ≤ R.locals) (hc : cells + rm.cells ≤ R.cells) (hsl : slots + rm.slots ≤ R.slots) (hsz : Ls.size = ml) (hW : (St.map fun v => v.category).sum ≤ W) (hy : y.cls ≠ "java/lang/invoke/MethodHandle" ∧ y.cls ≠ "java/lang/invoke/VarHandle") (hd : decode bytes pc = .ok (.invokestatic i, 3)) {St0 : List Value} (hst : St0 = argsL.reverse ++ St)
    (k : ∀ v T' L, Stand p l e R s m args below meth c T' (locs ++ L) (cells + rm.cells) (slots + rm.slots) → Q' v T'.heap L → Goes p e below E T' m q Ls (v.toList ++ St)) : Goes p e below E T m pc Ls St0 := by
  subst hq hst
  obtain ⟨v, _, ⟨T', L', k', n'⟩, -, X', ⟨Lc, hQ', l', y', z'⟩, st⟩ := Jvm.LawKit.callS X C.c_x (y := y) C.c_own (mvT C.c_z w1) (mvT C.c_z w2) (mvT C.c_z wz) (mvT C.c_z wc) hy (backOf (W := W) M C.c_z wc wz hf hl) (g := mkF m pc Ls (argsL.reverse ++ St)) rfl (hsz.trans C.c_ml.symm) (argsL := argsL) (rest := St) hlen rfl (by show 2 * 0 + _ ≤ _; omega) (hb C.c_by hd) (fun _ _ => ⟨rfl, eT, hc, hsl⟩)
  dsimp only [Pt.U, Pt.locs, Pt.cells, Pt.slots] at X' l' y' z' st hQ'
  subst l' y' z'
  exact (k v T' Lc X' hQ').back fun t kt => st t kt
theorem g_callN (q : Nat) (hq : pc + 3 = q) (C : Ctx p s m meth c Z own nm bytes ml rt) (X : Stand p l e R s m args below meth c T locs cells slots) {y : MethodName} {bytes' : ByteArray} {maxL' : Nat} {ret' : Option FieldType} {rm : Room} {Q' : Option Value → Heap → List Loc → Prop} {i W : Nat} {a : Addr} {argsL : List Value} (hy1 : y.name = "<init>") (hre : ret' = none) (w1 : (Cond.methodLink own i y).before a0 Z = true) (w2 : (Cond.instanceMethod y).before a0 Z = true) (wc : (Cond.code y bytes' maxL' ret').before a0 Z = true) (wz : (Cond.initialized y.cls).before a0 Z = true) (eT : T.heap = h) (M : MetFree l y (head1 [Cond.code y bytes' maxL' ret'] rm) (fun a' U => a' = (.ref a :: argsL).toArray ∧ Z.Warmed39 U.vm ∧ U.heap = h) (fun _ _ _ _ _ => True) (fun _ U o U' => ∃ v L, o = .returned v ∧ Q' v U'.heap L ∧ FrameEnd U o U' L rm.cells rm.slots)) (hlen : ∀ sig, parseMethodDescriptor y.desc = some sig → argsL.length = sig.parameters.length) (hf : rm.frames + 1 ≤ R.frames) (hl : W + (maxL' + 11) + rm.locals ≤ R.locals) (hc : cells + rm.cells ≤ R.cells) (hsl : slots + rm.slots ≤ R.slots) (hsz : Ls.size = ml) (hW : (St.map fun v => v.category).sum ≤ W) (hy : y.cls ≠ "java/lang/invoke/MethodHandle" ∧ y.cls ≠ "java/lang/invoke/VarHandle") (hd : decode bytes pc = .ok (.invokespecial i, 3)) {St0 : List Value} (hst : St0 = argsL.reverse ++ .ref a :: St)
    (k : ∀ v T' L, Stand p l e R s m args below meth c T' (locs ++ L) (cells + rm.cells) (slots + rm.slots) → Q' v T'.heap L → Goes p e below E T' m q Ls (v.toList ++ St)) : Goes p e below E T m pc Ls St0 := by
  subst hq hst hre
  obtain ⟨v, _, ⟨T', L', k', n'⟩, -, X', ⟨Lc, hQ', l', y', z'⟩, st⟩ := X.specialBack C.c_x (y := y) hy1 C.c_own (mvT C.c_z w1) (mvT C.c_z w2) (mvT C.c_z wc) hy (backOf (W := W) M C.c_z wc wz hf hl) (g := mkF m pc Ls (argsL.reverse ++ .ref a :: St)) rfl (hsz.trans C.c_ml.symm) (Steps.refl _) (a := a) (argsL := argsL) (rest := St) hlen rfl (by show 2 * 0 + _ ≤ _; omega) (hb C.c_by hd) (fun _ _ => ⟨rfl, eT, hc, hsl⟩)
  dsimp only [Pt.U, Pt.locs, Pt.cells, Pt.slots] at X' l' y' z' st hQ'
  subst l' y' z'
  exact (k v T' Lc X' hQ').back fun t kt => st.trans kt
theorem g_callV (q : Nat) (hq : pc + 3 = q) (C : Ctx p s m meth c Z own nm bytes ml rt) (X : Stand p l e R s m args below meth c T locs cells slots) {y : MethodName} {bytes' : ByteArray} {maxL' : Nat} {ret' : Option FieldType} {rm : Room} {Q' : Option Value → Heap → List Loc → Prop} {i W : Nat} {K : String} {a : Addr} {argsL : List Value} (w1 : (Cond.methodLink own i y).before a0 Z = true) (w2 : (Cond.declares y).before a0 Z = true) (w3 : (Cond.selects K y y).before a0 Z = true) (w4 : (Cond.instanceMethod y).before a0 Z = true) (wc : (Cond.code y bytes' maxL' ret').before a0 Z = true) (wz : (Cond.initialized y.cls).before a0 Z = true) (eT : T.heap = h) (EX : Exa Z h a K) (M : MetFree l y (head1 [Cond.code y bytes' maxL' ret'] rm) (fun a' U => a' = (.ref a :: argsL).toArray ∧ Z.Warmed39 U.vm ∧ U.heap = h) (fun _ _ _ _ _ => True) (fun _ U o U' => ∃ v L, o = .returned v ∧ Q' v U'.heap L ∧ FrameEnd U o U' L rm.cells rm.slots)) (hlen : ∀ sig, parseMethodDescriptor y.desc = some sig → argsL.length = sig.parameters.length) (hf : rm.frames + 1 ≤ R.frames) (hl : W + (maxL' + 11) + rm.locals ≤ R.locals) (hc : cells + rm.cells ≤ R.cells) (hsl : slots + rm.slots ≤ R.slots) (hsz : Ls.size = ml) (hW : (St.map fun v => v.category).sum ≤ W) (hy : y.cls ≠ "java/lang/invoke/MethodHandle" ∧ y.cls ≠ "java/lang/invoke/VarHandle") (hd : decode bytes pc = .ok (.invokevirtual i, 3)) {St0 : List Value} (hst : St0 = argsL.reverse ++ .ref a :: St)
    (k : ∀ v T' L, Stand p l e R s m args below meth c T' (locs ++ L) (cells + rm.cells) (slots + rm.slots) → Q' v T'.heap L → Goes p e below E T' m q Ls (v.toList ++ St)) : Goes p e below E T m pc Ls St0 := by
  subst hq hst
  obtain ⟨cB, kB, q1, q2, q3⟩ := isOf C.c_z eT EX
  obtain ⟨v, _, ⟨T', L', k', n'⟩, -, X', ⟨Lc, hQ', l', y', z'⟩, st⟩ := X.virtualBack C.c_x (y := y) (z := y) C.c_own (mvT C.c_z w1) (mvT C.c_z w2) (notFace_of_selects (args := #[]) (mvT C.c_z w3)) (mvT C.c_z w3) (mvT C.c_z w4) hy (backOf (W := W) M C.c_z wc wz hf hl) q1 q3 (g := mkF m pc Ls (argsL.reverse ++ .ref a :: St)) rfl (hsz.trans C.c_ml.symm) (Steps.refl _) (argsL := argsL) (rest := St) hlen rfl (by show 2 * 0 + _ ≤ _; omega) (hb C.c_by hd) (fun _ _ => ⟨rfl, eT, hc, hsl⟩)
  dsimp only [Pt.U, Pt.locs, Pt.cells, Pt.slots] at X' l' y' z' st hQ'
  subst l' y' z'
  exact (k v T' Lc X' hQ').back fun t kt => st.trans kt
end Own
section OwnArith
theorem own_mulc (x y : Int32) (k : Int) (hk : y.toInt = k) : ((x * y).toInt - x.toInt * k) % 4294967296 = 0 := hk ▸ c_imul x y
theorem own_mulc' (x y : Int32) (k : Int) (hk : x.toInt = k) : ((x * y).toInt - k * y.toInt) % 4294967296 = 0 := hk ▸ c_imul x y
theorem own_lmulc (x y : Int64) (k : Int) (hk : y.toInt = k) : ((x * y).toInt - x.toInt * k) % 18446744073709551616 = 0 := hk ▸ c_lmul x y
theorem own_lmulc' (x y : Int64) (k : Int) (hk : x.toInt = k) : ((x * y).toInt - k * y.toInt) % 18446744073709551616 = 0 := hk ▸ c_lmul x y
theorem own_bvor (x y : BitVec 32) : (x ||| y) + (x &&& y) = x + y := by
  have h1 : x = (x &&& y) + (x &&& ~~~y) := by
    rw [BitVec.add_eq_or_of_and_eq_zero]
    · ext i; simp; cases x[i] <;> cases y[i] <;> rfl
    · ext i; simp; cases x[i] <;> cases y[i] <;> simp
  have h2 : x ||| y = y + (x &&& ~~~y) := by
    rw [BitVec.add_eq_or_of_and_eq_zero]
    · ext i; simp; cases x[i] <;> cases y[i] <;> rfl
    · ext i; simp; cases x[i] <;> cases y[i] <;> simp
  rw [h2]
  conv => rhs; rw [h1]
  ac_rfl
theorem own_or0 (x y : Int32) : (x ||| y) + (x &&& y) = x + y := Int32.toBitVec_inj.mp (by simpa using own_bvor x.toBitVec y.toBitVec)
theorem own_or (x y : Int32) : ((x ||| y).toInt + (x &&& y).toInt - (x.toInt + y.toInt)) % 4294967296 = 0 := by
  have h1 := c_iadd (x ||| y) (x &&& y)
  have h2 := c_iadd x y
  rw [own_or0] at h1; omega
theorem own_bvblk (x m a b : BitVec 32) (h1 : m ||| a = b) (h2 : m &&& a = 0#32) : (x &&& m) + (x &&& a) = x &&& b := by
  rw [BitVec.add_eq_or_of_and_eq_zero, ← h1]
  · ext i; simp; cases x[i] <;> simp
  · have : (x &&& m) &&& (x &&& a) = x &&& (m &&& a) := by ext i; simp; cases x[i] <;> simp
    rw [this, h2]; simp
theorem own_blk (x m a b : Int32) (h1 : m ||| a = b) (h2 : m &&& a = 0) : ((x &&& m).toInt + (x &&& a).toInt - (x &&& b).toInt) % 4294967296 = 0 := by
  have e : (x &&& m) + (x &&& a) = x &&& b := Int32.toBitVec_inj.mp (by
    have q1 := congrArg Int32.toBitVec h1
    have q2 := congrArg Int32.toBitVec h2
    simpa using own_bvblk x.toBitVec m.toBitVec a.toBitVec b.toBitVec (by simpa using q1) (by simpa using q2))
  have := c_iadd (x &&& m) (x &&& a)
  rw [e] at this; omega
theorem own_andM1 (x : Int32) : x &&& (-1) = x := Int32.toBitVec_inj.mp (by ext i; simp)
theorem own_narZ {b : Int32} (hb : b.toInt = 0 ∨ b.toInt = 1) : nar .boolean b = b := by
  have : b = 0 ∨ b = 1 := by
    rcases hb with q | q
    · exact Or.inl (Int32.toInt_inj.mp q)
    · exact Or.inr (Int32.toInt_inj.mp q)
  rcases this with rfl | rfl <;> decide
theorem own_narC {b : Int32} (h0 : 0 ≤ b.toInt) (h1 : b.toInt < 65536) : nar .char b = b := by
  have := c_i2c b
  exact Int32.toInt_inj.mp (by show b.toUInt32.toUInt16.toUInt32.toInt32.toInt = _; omega)
theorem own_narB {b : Int32} (h0 : -128 ≤ b.toInt) (h1 : b.toInt < 128) : nar .byte b = b := by
  have := c_i2b b
  exact Int32.toInt_inj.mp (by show b.toInt8.toInt32.toInt = _; omega)
theorem own_eq {x y : Int32} (q : x.toInt = y.toInt) : x = y := Int32.toInt_inj.mp q
theorem own_eqL {x y : Int64} (q : x.toInt = y.toInt) : x = y := Int64.toInt_inj.mp q
end OwnArith


theorem d1_0 : decode method_2_code 0 = .ok (.iload_n 0, 1) := by decide +kernel
theorem d1_1 : decode method_2_code 1 = .ok (.ifCond .eq 19, 3) := by decide +kernel
theorem d1_4 : decode method_2_code 4 = .ok (.bipush 16, 2) := by decide +kernel
theorem d1_6 : decode method_2_code 6 = .ok (.newarray .byte, 2) := by decide +kernel
theorem d1_8 : decode method_2_code 8 = .ok (.astore_n 2, 1) := by decide +kernel
theorem d1_9 : decode method_2_code 9 = .ok (.aload_n 2, 1) := by decide +kernel
theorem d1_10 : decode method_2_code 10 = .ok (.bipush 15, 2) := by decide +kernel
theorem d1_12 : decode method_2_code 12 = .ok (.iload_n 1, 1) := by decide +kernel
theorem d1_13 : decode method_2_code 13 = .ok (.iconst 4, 1) := by decide +kernel
theorem d1_14 : decode method_2_code 14 = .ok (.iushr, 1) := by decide +kernel
theorem d1_15 : decode method_2_code 15 = .ok (.i2b, 1) := by decide +kernel
theorem d1_16 : decode method_2_code 16 = .ok (.bastore, 1) := by decide +kernel
theorem d1_17 : decode method_2_code 17 = .ok (.goto 7, 3) := by decide +kernel
theorem d1_24 : decode method_2_code 24 = .ok (.aload_n 2, 1) := by decide +kernel
theorem d1_25 : decode method_2_code 25 = .ok (.iconst 0, 1) := by decide +kernel
theorem d1_26 : decode method_2_code 26 = .ok (.iload_n 1, 1) := by decide +kernel
theorem d1_27 : decode method_2_code 27 = .ok (.i2b, 1) := by decide +kernel
theorem d1_28 : decode method_2_code 28 = .ok (.bastore, 1) := by decide +kernel
theorem d1_29 : decode method_2_code 29 = .ok (.aload_n 2, 1) := by decide +kernel
theorem d1_30 : decode method_2_code 30 = .ok (.iconst 1, 1) := by decide +kernel
theorem d1_31 : decode method_2_code 31 = .ok (.iload_n 1, 1) := by decide +kernel
theorem d1_32 : decode method_2_code 32 = .ok (.bipush 8, 2) := by decide +kernel
theorem d1_34 : decode method_2_code 34 = .ok (.iushr, 1) := by decide +kernel
theorem d1_35 : decode method_2_code 35 = .ok (.i2b, 1) := by decide +kernel
theorem d1_36 : decode method_2_code 36 = .ok (.bastore, 1) := by decide +kernel
theorem d1_37 : decode method_2_code 37 = .ok (.aload_n 2, 1) := by decide +kernel
theorem d1_38 : decode method_2_code 38 = .ok (.iconst 2, 1) := by decide +kernel
theorem d1_39 : decode method_2_code 39 = .ok (.iload_n 1, 1) := by decide +kernel
theorem d1_40 : decode method_2_code 40 = .ok (.bipush 16, 2) := by decide +kernel
theorem d1_42 : decode method_2_code 42 = .ok (.iushr, 1) := by decide +kernel
theorem d1_43 : decode method_2_code 43 = .ok (.i2b, 1) := by decide +kernel
theorem d1_44 : decode method_2_code 44 = .ok (.bastore, 1) := by decide +kernel
theorem d1_45 : decode method_2_code 45 = .ok (.aload_n 2, 1) := by decide +kernel
theorem d1_46 : decode method_2_code 46 = .ok (.iconst 3, 1) := by decide +kernel
theorem d1_47 : decode method_2_code 47 = .ok (.iload_n 1, 1) := by decide +kernel
theorem d1_48 : decode method_2_code 48 = .ok (.bipush 24, 2) := by decide +kernel
theorem d1_50 : decode method_2_code 50 = .ok (.iushr, 1) := by decide +kernel
theorem d1_51 : decode method_2_code 51 = .ok (.i2b, 1) := by decide +kernel
theorem d1_52 : decode method_2_code 52 = .ok (.bastore, 1) := by decide +kernel
theorem d1_53 : decode method_2_code 53 = .ok (.aload_n 2, 1) := by decide +kernel
theorem d1_54 : decode method_2_code 54 = .ok (.areturn, 1) := by decide +kernel
theorem pn_47200027 : plainName "com/example/bot_rules/botrules/model/IpAddressIsSameKindPinLaw" = true := by first | (simp [plainName, overriddenIn]; done) | decide +kernel
theorem ef_1_1 (m : MethodId) (p1 : Int32) : entryFrame m #[(.int (1 : Int32)), (.int p1)] 3 = mkF m 0 #[.val (.int (1 : Int32)), .val (.int p1), .unset] [] := by first | (simp [entryFrame, mkF, argsToLocals, Value.category]; done) | rfl
def Q1_1 (Z : State) (p1 : Int32) (h0 : Heap) (n0 : Nat) (v : Option Value) (h : Heap) (L : List Loc) : Prop := ∃ a, v = some (.ref a) ∧ Fr n0 L ∧ Keep h0 h [] ∧ h0.size ≤ a ∧ ∃ f, Ba Z h a .byte 16 f
set_option maxRecDepth 65536 in
set_option maxHeartbeats 40000000 in
theorem rm1_1 (l : Launch) (Z : State) (a0 : Array Value) (hw : ∀ d ∈ tables_1, d.before a0 Z = true) (ws : List Jvm.Cond) (p1 : Int32) (h0 : Heap) (n0 : Nat) (Z0 : n0 ≤ h0.size) :
    MetFree l (⟨"com/example/bot_rules/botrules/model/IpAddressIsSameKindPinLaw", "octets", "(ZI)[B"⟩ : MethodName) (head1 (Jvm.Cond.code (⟨"com/example/bot_rules/botrules/model/IpAddressIsSameKindPinLaw", "octets", "(ZI)[B"⟩ : MethodName) method_2_code 3 (some (.array .byte)) :: ws) ({ frames := 0, cells := 1, slots := 16, locals := 0 } : Room)) (fun a U => a = #[(.int (1 : Int32)), (.int p1)] ∧ Z.Warmed39 U.vm ∧ U.heap = h0) (fun _ _ _ _ _ => True) (fun _ U o U' => ∃ v L, o = .returned v ∧ Q1_1 Z p1 h0 n0 v U'.heap L ∧ FrameEnd U o U' L ({ frames := 0, cells := 1, slots := 16, locals := 0 } : Room).cells ({ frames := 0, cells := 1, slots := 16, locals := 0 } : Room).slots) := by
  refine MetFree.of_bodySF (plainFor_of_name pn_47200027) hisR ?_
  intro p e s m args below meth c s₁ Bd hml0 hP hK
  obtain ⟨rfl, hZ, hh⟩ := hP
  have C : Ctx p s m meth c Z "com/example/bot_rules/botrules/model/IpAddressIsSameKindPinLaw" "octets" method_2_code 3 (some (.array .byte)) := Ctx.of Bd hml0 hZ
  have X0 : Stand p l e ({ frames := 0, cells := 1, slots := 16, locals := 0 } : Room) s m #[(.int (1 : Int32)), (.int p1)] below meth c s₁ [] 0 0 := Stand.of_body Bd
  have e0 : s₁.heap = h0 := by rw [← hh, Bd.state]; rfl
  have N0 := Fr.nil n0
  refine Goes.enter (ef_1_1 m p1) ?_
  clear hK hml0 hh
  refine g_iloadN 1 rfl C X0 d1_0 rfl ?_
  refine g_if_eq_f 4 rfl C X0 d1_1 (by decide) ?_
  refine g_bipush 6 rfl C X0 (16 : Int32) d1_4 rfl ?_
  refine g_newP 8 rfl C X0 16 (by decide) 16 (by decide) (by decide) rfl (hw _ (List.mem_of_getElem? (i := 7) rfl)) e0 d1_6 (by decide) (by decide) fun T1 h2 o3 g4 X5 e6 E7 B8 => ?_
  have gn9 : n0 ≤ o3 := by rw [g4]; exact Z0
  have sz10 : h0.size ≤ o3 := by rw [g4]; exact (Keep.refl h0 []).1
  have Zs11 := Nat.le_trans Z0 E7.1
  have Kp12 : Keep h0 h2 [] := (Keep.refl h0 []).ext E7
  refine g_astoreN 9 rfl C X5 #[.val (.int (1 : Int32)), .val (.int p1), .val (.ref o3)] d1_8 rfl rfl ?_
  refine g_aloadN 10 rfl C X5 d1_9 rfl rfl ?_
  refine g_bipush 12 rfl C X5 (15 : Int32) d1_10 rfl ?_
  refine g_iloadN 13 rfl C X5 d1_12 rfl ?_
  refine g_iconst 14 rfl C X5 (4 : Int32) d1_13 rfl ?_
  refine g_iushr 15 rfl C X5 d1_14 ?_
  refine g_i2b 16 rfl C X5 d1_15 ?_
  obtain ⟨w13, hw13⟩ : ∃ z : Int32, (((((((p1).toUInt32 >>> ((4 : Int32) &&& 31).toUInt32).toInt32)).toInt8.toInt32)).toInt8.toInt32) = z := ⟨_, rfl⟩
  refine g_bastore 17 rfl C X5 e6 B8 15 (by decide) (by decide) w13 hw13 d1_16 N0 gn9 fun T14 h15 ls16 X17 e18 W19 B20 N21 => ?_
  have Zs22 := Nat.le_trans Zs11 (Nat.le_of_eq W19.size.symm)
  have Kp23 : Keep h0 h15 [] := Kp12.wr W19 (Or.inr sz10)
  refine g_goto 24 C X17 d1_17 (by decide) (by decide) ?_
  refine g_aloadN 25 rfl C X17 d1_24 rfl rfl ?_
  refine g_iconst 26 rfl C X17 (0 : Int32) d1_25 rfl ?_
  refine g_iloadN 27 rfl C X17 d1_26 rfl ?_
  refine g_i2b 28 rfl C X17 d1_27 ?_
  obtain ⟨w24, hw24⟩ : ∃ z : Int32, ((((p1).toInt8.toInt32)).toInt8.toInt32) = z := ⟨_, rfl⟩
  refine g_bastore 29 rfl C X17 e18 B20 0 (by decide) (by decide) w24 hw24 d1_28 N21 gn9 fun T25 h26 ls27 X28 e29 W30 B31 N32 => ?_
  have Zs33 := Nat.le_trans Zs22 (Nat.le_of_eq W30.size.symm)
  have Kp34 : Keep h0 h26 [] := Kp23.wr W30 (Or.inr sz10)
  refine g_aloadN 30 rfl C X28 d1_29 rfl rfl ?_
  refine g_iconst 31 rfl C X28 (1 : Int32) d1_30 rfl ?_
  refine g_iloadN 32 rfl C X28 d1_31 rfl ?_
  refine g_bipush 34 rfl C X28 (8 : Int32) d1_32 rfl ?_
  refine g_iushr 35 rfl C X28 d1_34 ?_
  refine g_i2b 36 rfl C X28 d1_35 ?_
  obtain ⟨w35, hw35⟩ : ∃ z : Int32, (((((((p1).toUInt32 >>> ((8 : Int32) &&& 31).toUInt32).toInt32)).toInt8.toInt32)).toInt8.toInt32) = z := ⟨_, rfl⟩
  refine g_bastore 37 rfl C X28 e29 B31 1 (by decide) (by decide) w35 hw35 d1_36 N32 gn9 fun T36 h37 ls38 X39 e40 W41 B42 N43 => ?_
  have Zs44 := Nat.le_trans Zs33 (Nat.le_of_eq W41.size.symm)
  have Kp45 : Keep h0 h37 [] := Kp34.wr W41 (Or.inr sz10)
  refine g_aloadN 38 rfl C X39 d1_37 rfl rfl ?_
  refine g_iconst 39 rfl C X39 (2 : Int32) d1_38 rfl ?_
  refine g_iloadN 40 rfl C X39 d1_39 rfl ?_
  refine g_bipush 42 rfl C X39 (16 : Int32) d1_40 rfl ?_
  refine g_iushr 43 rfl C X39 d1_42 ?_
  refine g_i2b 44 rfl C X39 d1_43 ?_
  obtain ⟨w46, hw46⟩ : ∃ z : Int32, (((((((p1).toUInt32 >>> ((16 : Int32) &&& 31).toUInt32).toInt32)).toInt8.toInt32)).toInt8.toInt32) = z := ⟨_, rfl⟩
  refine g_bastore 45 rfl C X39 e40 B42 2 (by decide) (by decide) w46 hw46 d1_44 N43 gn9 fun T47 h48 ls49 X50 e51 W52 B53 N54 => ?_
  have Zs55 := Nat.le_trans Zs44 (Nat.le_of_eq W52.size.symm)
  have Kp56 : Keep h0 h48 [] := Kp45.wr W52 (Or.inr sz10)
  refine g_aloadN 46 rfl C X50 d1_45 rfl rfl ?_
  refine g_iconst 47 rfl C X50 (3 : Int32) d1_46 rfl ?_
  refine g_iloadN 48 rfl C X50 d1_47 rfl ?_
  refine g_bipush 50 rfl C X50 (24 : Int32) d1_48 rfl ?_
  refine g_iushr 51 rfl C X50 d1_50 ?_
  refine g_i2b 52 rfl C X50 d1_51 ?_
  obtain ⟨w57, hw57⟩ : ∃ z : Int32, (((((((p1).toUInt32 >>> ((24 : Int32) &&& 31).toUInt32).toInt32)).toInt8.toInt32)).toInt8.toInt32) = z := ⟨_, rfl⟩
  refine g_bastore 53 rfl C X50 e51 B53 3 (by decide) (by decide) w57 hw57 d1_52 N54 gn9 fun T58 h59 ls60 X61 e62 W63 B64 N65 => ?_
  have Zs66 := Nat.le_trans Zs55 (Nat.le_of_eq W63.size.symm)
  have Kp67 : Keep h0 h59 [] := Kp56.wr W63 (Or.inr sz10)
  refine g_aloadN 54 rfl C X61 d1_53 rfl rfl ?_
  exact g_retA C X61 rfl rfl rfl rfl d1_54 e62 (by decide) (by decide) ⟨o3, rfl, N65, Kp67, sz10, _, B64⟩
theorem d1_20 : decode method_2_code 20 = .ok (.iconst 4, 1) := by decide +kernel
theorem d1_21 : decode method_2_code 21 = .ok (.newarray .byte, 2) := by decide +kernel
theorem d1_23 : decode method_2_code 23 = .ok (.astore_n 2, 1) := by decide +kernel
theorem ef_1_0 (m : MethodId) (p1 : Int32) : entryFrame m #[(.int (0 : Int32)), (.int p1)] 3 = mkF m 0 #[.val (.int (0 : Int32)), .val (.int p1), .unset] [] := by first | (simp [entryFrame, mkF, argsToLocals, Value.category]; done) | rfl
def Q1_0 (Z : State) (p1 : Int32) (h0 : Heap) (n0 : Nat) (v : Option Value) (h : Heap) (L : List Loc) : Prop := ∃ a, v = some (.ref a) ∧ Fr n0 L ∧ Keep h0 h [] ∧ h0.size ≤ a ∧ ∃ f, Ba Z h a .byte 4 f
set_option maxRecDepth 65536 in
set_option maxHeartbeats 40000000 in
theorem rm1_0 (l : Launch) (Z : State) (a0 : Array Value) (hw : ∀ d ∈ tables_1, d.before a0 Z = true) (ws : List Jvm.Cond) (p1 : Int32) (h0 : Heap) (n0 : Nat) (Z0 : n0 ≤ h0.size) :
    MetFree l (⟨"com/example/bot_rules/botrules/model/IpAddressIsSameKindPinLaw", "octets", "(ZI)[B"⟩ : MethodName) (head1 (Jvm.Cond.code (⟨"com/example/bot_rules/botrules/model/IpAddressIsSameKindPinLaw", "octets", "(ZI)[B"⟩ : MethodName) method_2_code 3 (some (.array .byte)) :: ws) ({ frames := 0, cells := 1, slots := 4, locals := 0 } : Room)) (fun a U => a = #[(.int (0 : Int32)), (.int p1)] ∧ Z.Warmed39 U.vm ∧ U.heap = h0) (fun _ _ _ _ _ => True) (fun _ U o U' => ∃ v L, o = .returned v ∧ Q1_0 Z p1 h0 n0 v U'.heap L ∧ FrameEnd U o U' L ({ frames := 0, cells := 1, slots := 4, locals := 0 } : Room).cells ({ frames := 0, cells := 1, slots := 4, locals := 0 } : Room).slots) := by
  refine MetFree.of_bodySF (plainFor_of_name pn_47200027) hisR ?_
  intro p e s m args below meth c s₁ Bd hml0 hP hK
  obtain ⟨rfl, hZ, hh⟩ := hP
  have C : Ctx p s m meth c Z "com/example/bot_rules/botrules/model/IpAddressIsSameKindPinLaw" "octets" method_2_code 3 (some (.array .byte)) := Ctx.of Bd hml0 hZ
  have X0 : Stand p l e ({ frames := 0, cells := 1, slots := 4, locals := 0 } : Room) s m #[(.int (0 : Int32)), (.int p1)] below meth c s₁ [] 0 0 := Stand.of_body Bd
  have e0 : s₁.heap = h0 := by rw [← hh, Bd.state]; rfl
  have N0 := Fr.nil n0
  refine Goes.enter (ef_1_0 m p1) ?_
  clear hK hml0 hh
  refine g_iloadN 1 rfl C X0 d1_0 rfl ?_
  refine g_if_eq_t 20 C X0 d1_1 (by decide) (by decide) (by decide) ?_
  refine g_iconst 21 rfl C X0 (4 : Int32) d1_20 rfl ?_
  refine g_newP 23 rfl C X0 4 (by decide) 4 (by decide) (by decide) rfl (hw _ (List.mem_of_getElem? (i := 7) rfl)) e0 d1_21 (by decide) (by decide) fun T1 h2 o3 g4 X5 e6 E7 B8 => ?_
  have gn9 : n0 ≤ o3 := by rw [g4]; exact Z0
  have sz10 : h0.size ≤ o3 := by rw [g4]; exact (Keep.refl h0 []).1
  have Zs11 := Nat.le_trans Z0 E7.1
  have Kp12 : Keep h0 h2 [] := (Keep.refl h0 []).ext E7
  refine g_astoreN 24 rfl C X5 #[.val (.int (0 : Int32)), .val (.int p1), .val (.ref o3)] d1_23 rfl rfl ?_
  refine g_aloadN 25 rfl C X5 d1_24 rfl rfl ?_
  refine g_iconst 26 rfl C X5 (0 : Int32) d1_25 rfl ?_
  refine g_iloadN 27 rfl C X5 d1_26 rfl ?_
  refine g_i2b 28 rfl C X5 d1_27 ?_
  obtain ⟨w13, hw13⟩ : ∃ z : Int32, ((((p1).toInt8.toInt32)).toInt8.toInt32) = z := ⟨_, rfl⟩
  refine g_bastore 29 rfl C X5 e6 B8 0 (by decide) (by decide) w13 hw13 d1_28 N0 gn9 fun T14 h15 ls16 X17 e18 W19 B20 N21 => ?_
  have Zs22 := Nat.le_trans Zs11 (Nat.le_of_eq W19.size.symm)
  have Kp23 : Keep h0 h15 [] := Kp12.wr W19 (Or.inr sz10)
  refine g_aloadN 30 rfl C X17 d1_29 rfl rfl ?_
  refine g_iconst 31 rfl C X17 (1 : Int32) d1_30 rfl ?_
  refine g_iloadN 32 rfl C X17 d1_31 rfl ?_
  refine g_bipush 34 rfl C X17 (8 : Int32) d1_32 rfl ?_
  refine g_iushr 35 rfl C X17 d1_34 ?_
  refine g_i2b 36 rfl C X17 d1_35 ?_
  obtain ⟨w24, hw24⟩ : ∃ z : Int32, (((((((p1).toUInt32 >>> ((8 : Int32) &&& 31).toUInt32).toInt32)).toInt8.toInt32)).toInt8.toInt32) = z := ⟨_, rfl⟩
  refine g_bastore 37 rfl C X17 e18 B20 1 (by decide) (by decide) w24 hw24 d1_36 N21 gn9 fun T25 h26 ls27 X28 e29 W30 B31 N32 => ?_
  have Zs33 := Nat.le_trans Zs22 (Nat.le_of_eq W30.size.symm)
  have Kp34 : Keep h0 h26 [] := Kp23.wr W30 (Or.inr sz10)
  refine g_aloadN 38 rfl C X28 d1_37 rfl rfl ?_
  refine g_iconst 39 rfl C X28 (2 : Int32) d1_38 rfl ?_
  refine g_iloadN 40 rfl C X28 d1_39 rfl ?_
  refine g_bipush 42 rfl C X28 (16 : Int32) d1_40 rfl ?_
  refine g_iushr 43 rfl C X28 d1_42 ?_
  refine g_i2b 44 rfl C X28 d1_43 ?_
  obtain ⟨w35, hw35⟩ : ∃ z : Int32, (((((((p1).toUInt32 >>> ((16 : Int32) &&& 31).toUInt32).toInt32)).toInt8.toInt32)).toInt8.toInt32) = z := ⟨_, rfl⟩
  refine g_bastore 45 rfl C X28 e29 B31 2 (by decide) (by decide) w35 hw35 d1_44 N32 gn9 fun T36 h37 ls38 X39 e40 W41 B42 N43 => ?_
  have Zs44 := Nat.le_trans Zs33 (Nat.le_of_eq W41.size.symm)
  have Kp45 : Keep h0 h37 [] := Kp34.wr W41 (Or.inr sz10)
  refine g_aloadN 46 rfl C X39 d1_45 rfl rfl ?_
  refine g_iconst 47 rfl C X39 (3 : Int32) d1_46 rfl ?_
  refine g_iloadN 48 rfl C X39 d1_47 rfl ?_
  refine g_bipush 50 rfl C X39 (24 : Int32) d1_48 rfl ?_
  refine g_iushr 51 rfl C X39 d1_50 ?_
  refine g_i2b 52 rfl C X39 d1_51 ?_
  obtain ⟨w46, hw46⟩ : ∃ z : Int32, (((((((p1).toUInt32 >>> ((24 : Int32) &&& 31).toUInt32).toInt32)).toInt8.toInt32)).toInt8.toInt32) = z := ⟨_, rfl⟩
  refine g_bastore 53 rfl C X39 e40 B42 3 (by decide) (by decide) w46 hw46 d1_52 N43 gn9 fun T47 h48 ls49 X50 e51 W52 B53 N54 => ?_
  have Zs55 := Nat.le_trans Zs44 (Nat.le_of_eq W52.size.symm)
  have Kp56 : Keep h0 h48 [] := Kp45.wr W52 (Or.inr sz10)
  refine g_aloadN 54 rfl C X50 d1_53 rfl rfl ?_
  exact g_retA C X50 rfl rfl rfl rfl d1_54 e51 (by decide) (by decide) ⟨o3, rfl, N54, Kp56, sz10, _, B53⟩
theorem d2_0 : decode prog_33_method_1_code 0 = .ok (.aload_n 0, 1) := by decide +kernel
theorem d2_1 : decode prog_33_method_1_code 1 = .ok (.invokespecial 1, 3) := by decide +kernel
theorem d2_4 : decode prog_33_method_1_code 4 = .ok (.aload_n 0, 1) := by decide +kernel
theorem d2_5 : decode prog_33_method_1_code 5 = .ok (.aload_n 1, 1) := by decide +kernel
theorem d2_6 : decode prog_33_method_1_code 6 = .ok (.putfield 7, 3) := by decide +kernel
theorem d2_9 : decode prog_33_method_1_code 9 = .ok (.return_, 1) := by decide +kernel
theorem pn_33031910 : plainName "com/example/bot_rules/botrules/model/IpAddress" = true := by first | (simp [plainName, overriddenIn]; done) | decide +kernel
theorem ef_2 (m : MethodId) (b0 : Addr) (b1 : Addr) : entryFrame m #[(.ref b0), (.ref b1)] 2 = mkF m 0 #[.val (.ref b0), .val (.ref b1)] [] := by first | (simp [entryFrame, mkF, argsToLocals, Value.category]; done) | rfl
def Q2 (Z : State) (b0 : Addr) (b1 : Addr) (h0 : Heap) (n0 : Nat) (v : Option Value) (h : Heap) (L : List Loc) : Prop := v = none ∧ Fr n0 L ∧ Keep h0 h [b0] ∧ Exa Z h b0 "com/example/bot_rules/botrules/model/IpAddress" ∧ Fld Z h b0 "com/example/bot_rules/botrules/model/IpAddress" "octets" "[B" (.ref b1)
set_option maxRecDepth 65536 in
set_option maxHeartbeats 40000000 in
theorem rm2 (l : Launch) (Z : State) (a0 : Array Value) (hw : ∀ d ∈ tables_1, d.before a0 Z = true) (ws : List Jvm.Cond) (b0 : Addr) (b1 : Addr) (h0 : Heap) (n0 : Nat) (Z0 : n0 ≤ h0.size) (E_b0 : Exa Z h0 b0 "com/example/bot_rules/botrules/model/IpAddress") (F_b0_octets : Fld Z h0 b0 "com/example/bot_rules/botrules/model/IpAddress" "octets" "[B" .null) (g_b0 : n0 ≤ b0) :
    MetFree l (⟨"com/example/bot_rules/botrules/model/IpAddress", "<init>", "([B)V"⟩ : MethodName) (head1 (Jvm.Cond.code (⟨"com/example/bot_rules/botrules/model/IpAddress", "<init>", "([B)V"⟩ : MethodName) prog_33_method_1_code 2 none :: ws) ({ frames := 1, cells := 0, slots := 0, locals := 12 } : Room)) (fun a U => a = #[(.ref b0), (.ref b1)] ∧ Z.Warmed39 U.vm ∧ U.heap = h0) (fun _ _ _ _ _ => True) (fun _ U o U' => ∃ v L, o = .returned v ∧ Q2 Z b0 b1 h0 n0 v U'.heap L ∧ FrameEnd U o U' L ({ frames := 1, cells := 0, slots := 0, locals := 12 } : Room).cells ({ frames := 1, cells := 0, slots := 0, locals := 12 } : Room).slots) := by
  refine MetFree.of_bodySF (plainFor_of_name pn_33031910) hisR ?_
  intro p e s m args below meth c s₁ Bd hml0 hP hK
  obtain ⟨rfl, hZ, hh⟩ := hP
  have C : Ctx p s m meth c Z "com/example/bot_rules/botrules/model/IpAddress" "<init>" prog_33_method_1_code 2 none := Ctx.of Bd hml0 hZ
  have X0 : Stand p l e ({ frames := 1, cells := 0, slots := 0, locals := 12 } : Room) s m #[(.ref b0), (.ref b1)] below meth c s₁ [] 0 0 := Stand.of_body Bd
  have e0 : s₁.heap = h0 := by rw [← hh, Bd.state]; rfl
  have N0 := Fr.nil n0
  refine Goes.enter (ef_2 m b0 b1) ?_
  clear hK hml0 hh
  refine g_aloadN 1 rfl C X0 d2_0 rfl rfl ?_
  refine g_initO 4 rfl C X0 (hw _ (List.mem_of_getElem? (i := 11) rfl)) (hw _ (List.mem_of_getElem? (i := 12) rfl)) (hw _ (List.mem_of_getElem? (i := 13) rfl)) e0 d2_1 rfl (by decide) (W := 0) (Nat.le_of_eq rfl) (by decide) fun T1 X2 e3 => ?_
  refine g_aloadN 5 rfl C X2 d2_4 rfl rfl ?_
  refine g_aloadN 6 rfl C X2 d2_5 rfl rfl ?_
  refine g_putF 9 rfl C X2 (host := "") (Or.inl (hw _ (List.mem_of_getElem? (i := 14) rfl))) Via.refl e3 F_b0_octets E_b0 (Or.inr ⟨(hw _ (List.mem_of_getElem? (i := 15) rfl)), rfl, rfl⟩) (hw _ (List.mem_of_getElem? (i := 1) rfl)) (ty := (.array .byte)) (by decide) rfl rfl d2_6 N0 g_b0 fun T4 h5 ls6 X7 e8 W9 N10 => ?_
  have F11 : Fld Z h5 b0 "com/example/bot_rules/botrules/model/IpAddress" "octets" "[B" (.ref b1) := F_b0_octets.same W9
  have F12 := E_b0.wr W9
  have Zs13 := Nat.le_trans Z0 (Nat.le_of_eq W9.size.symm)
  have Kp14 : Keep h0 h5 [b0] := (Keep.refl h0 [b0]).wr W9 (Or.inl (List.mem_of_getElem? (i := 0) rfl))
  exact g_retV C X7 rfl d2_9 e8 (by decide) (by decide) ⟨rfl, N10, Kp14, F12, F11⟩
theorem d4_0 : decode prog_33_method_10_code 0 = .ok (.aload_n 0, 1) := by decide +kernel
theorem d4_1 : decode prog_33_method_10_code 1 = .ok (.getfield 7, 3) := by decide +kernel
theorem d4_4 : decode prog_33_method_10_code 4 = .ok (.arraylength, 1) := by decide +kernel
theorem d4_5 : decode prog_33_method_10_code 5 = .ok (.aload_n 1, 1) := by decide +kernel
theorem d4_6 : decode prog_33_method_10_code 6 = .ok (.getfield 7, 3) := by decide +kernel
theorem d4_9 : decode prog_33_method_10_code 9 = .ok (.arraylength, 1) := by decide +kernel
theorem d4_10 : decode prog_33_method_10_code 10 = .ok (.if_icmp .ne 7, 3) := by decide +kernel
theorem d4_13 : decode prog_33_method_10_code 13 = .ok (.iconst 1, 1) := by decide +kernel
theorem d4_14 : decode prog_33_method_10_code 14 = .ok (.goto 4, 3) := by decide +kernel
theorem d4_18 : decode prog_33_method_10_code 18 = .ok (.ireturn, 1) := by decide +kernel
theorem ef_4_16_16 (m : MethodId) (b0 : Addr) (b1 : Addr) : entryFrame m #[(.ref b0), (.ref b1)] 2 = mkF m 0 #[.val (.ref b0), .val (.ref b1)] [] := by first | (simp [entryFrame, mkF, argsToLocals, Value.category]; done) | rfl
def Q4_16_16 (Z : State) (b0 : Addr) (b1 : Addr) (w0 : Addr) (w1 : Addr) (f0 : Nat → Int32) (f1 : Nat → Int32) (h0 : Heap) (n0 : Nat) (v : Option Value) (h : Heap) (L : List Loc) : Prop := ∃ r : Int32, v = some (.int r) ∧ (r.toInt = 1) ∧ Fr n0 L ∧ h = h0
set_option maxRecDepth 65536 in
set_option maxHeartbeats 40000000 in
theorem rm4_16_16 (l : Launch) (Z : State) (a0 : Array Value) (hw : ∀ d ∈ tables_1, d.before a0 Z = true) (ws : List Jvm.Cond) (b0 : Addr) (b1 : Addr) (w0 : Addr) (w1 : Addr) (f0 : Nat → Int32) (f1 : Nat → Int32) (h0 : Heap) (n0 : Nat) (Z0 : n0 ≤ h0.size) (F_b0_octets : Fld Z h0 b0 "com/example/bot_rules/botrules/model/IpAddress" "octets" "[B" (.ref w0)) (F_b1_octets : Fld Z h0 b1 "com/example/bot_rules/botrules/model/IpAddress" "octets" "[B" (.ref w1)) (B_w0 : Ba Z h0 w0 .byte 16 f0) (B_w1 : Ba Z h0 w1 .byte 16 f1) :
    MetFree l (⟨"com/example/bot_rules/botrules/model/IpAddress", "isSameKind", "(Lcom/example/bot_rules/botrules/model/IpAddress;)Z"⟩ : MethodName) (head1 (Jvm.Cond.code (⟨"com/example/bot_rules/botrules/model/IpAddress", "isSameKind", "(Lcom/example/bot_rules/botrules/model/IpAddress;)Z"⟩ : MethodName) prog_33_method_10_code 2 (some .boolean) :: ws) ({ frames := 0, cells := 0, slots := 0, locals := 0 } : Room)) (fun a U => a = #[(.ref b0), (.ref b1)] ∧ Z.Warmed39 U.vm ∧ U.heap = h0) (fun _ _ _ _ _ => True) (fun _ U o U' => ∃ v L, o = .returned v ∧ Q4_16_16 Z b0 b1 w0 w1 f0 f1 h0 n0 v U'.heap L ∧ FrameEnd U o U' L ({ frames := 0, cells := 0, slots := 0, locals := 0 } : Room).cells ({ frames := 0, cells := 0, slots := 0, locals := 0 } : Room).slots) := by
  refine MetFree.of_bodySF (plainFor_of_name pn_33031910) hisR ?_
  intro p e s m args below meth c s₁ Bd hml0 hP hK
  obtain ⟨rfl, hZ, hh⟩ := hP
  have C : Ctx p s m meth c Z "com/example/bot_rules/botrules/model/IpAddress" "isSameKind" prog_33_method_10_code 2 (some .boolean) := Ctx.of Bd hml0 hZ
  have X0 : Stand p l e ({ frames := 0, cells := 0, slots := 0, locals := 0 } : Room) s m #[(.ref b0), (.ref b1)] below meth c s₁ [] 0 0 := Stand.of_body Bd
  have e0 : s₁.heap = h0 := by rw [← hh, Bd.state]; rfl
  have N0 := Fr.nil n0
  refine Goes.enter (ef_4_16_16 m b0 b1) ?_
  clear hK hml0 hh
  refine g_aloadN 1 rfl C X0 d4_0 rfl rfl ?_
  refine g_getF 4 rfl C X0 (host := "") (Or.inl (hw _ (List.mem_of_getElem? (i := 14) rfl))) Via.refl e0 F_b0_octets d4_1 fun T1 X2 e3 => ?_
  refine g_len 5 rfl C X2 e3 B_w0 (16 : Int32) rfl d4_4 ?_
  refine g_aloadN 6 rfl C X2 d4_5 rfl rfl ?_
  refine g_getF 9 rfl C X2 (host := "") (Or.inl (hw _ (List.mem_of_getElem? (i := 14) rfl))) Via.refl e3 F_b1_octets d4_6 fun T4 X5 e6 => ?_
  refine g_len 10 rfl C X5 e6 B_w1 (16 : Int32) rfl d4_9 ?_
  refine g_icmp_ne_f 13 rfl C X5 d4_10 (by decide) ?_
  refine g_iconst 14 rfl C X5 (1 : Int32) d4_13 rfl ?_
  refine g_goto 18 C X5 d4_14 (by decide) (by decide) ?_
  have fc7 : (16 : Int32).toInt = 16 := rfl
  have fc8 : (1 : Int32).toInt = 1 := rfl
  exact g_retN C X5 (z' := (1 : Int32)) rfl (Or.inl rfl) d4_18 e6 (by decide) (by decide) rfl ⟨_, rfl, by omega, N0, rfl⟩
theorem d4_17 : decode prog_33_method_10_code 17 = .ok (.iconst 0, 1) := by decide +kernel
theorem ef_4_16_4 (m : MethodId) (b0 : Addr) (b1 : Addr) : entryFrame m #[(.ref b0), (.ref b1)] 2 = mkF m 0 #[.val (.ref b0), .val (.ref b1)] [] := by first | (simp [entryFrame, mkF, argsToLocals, Value.category]; done) | rfl
def Q4_16_4 (Z : State) (b0 : Addr) (b1 : Addr) (w0 : Addr) (w1 : Addr) (f0 : Nat → Int32) (f1 : Nat → Int32) (h0 : Heap) (n0 : Nat) (v : Option Value) (h : Heap) (L : List Loc) : Prop := ∃ r : Int32, v = some (.int r) ∧ (r.toInt = 0) ∧ Fr n0 L ∧ h = h0
set_option maxRecDepth 65536 in
set_option maxHeartbeats 40000000 in
theorem rm4_16_4 (l : Launch) (Z : State) (a0 : Array Value) (hw : ∀ d ∈ tables_1, d.before a0 Z = true) (ws : List Jvm.Cond) (b0 : Addr) (b1 : Addr) (w0 : Addr) (w1 : Addr) (f0 : Nat → Int32) (f1 : Nat → Int32) (h0 : Heap) (n0 : Nat) (Z0 : n0 ≤ h0.size) (F_b0_octets : Fld Z h0 b0 "com/example/bot_rules/botrules/model/IpAddress" "octets" "[B" (.ref w0)) (F_b1_octets : Fld Z h0 b1 "com/example/bot_rules/botrules/model/IpAddress" "octets" "[B" (.ref w1)) (B_w0 : Ba Z h0 w0 .byte 16 f0) (B_w1 : Ba Z h0 w1 .byte 4 f1) :
    MetFree l (⟨"com/example/bot_rules/botrules/model/IpAddress", "isSameKind", "(Lcom/example/bot_rules/botrules/model/IpAddress;)Z"⟩ : MethodName) (head1 (Jvm.Cond.code (⟨"com/example/bot_rules/botrules/model/IpAddress", "isSameKind", "(Lcom/example/bot_rules/botrules/model/IpAddress;)Z"⟩ : MethodName) prog_33_method_10_code 2 (some .boolean) :: ws) ({ frames := 0, cells := 0, slots := 0, locals := 0 } : Room)) (fun a U => a = #[(.ref b0), (.ref b1)] ∧ Z.Warmed39 U.vm ∧ U.heap = h0) (fun _ _ _ _ _ => True) (fun _ U o U' => ∃ v L, o = .returned v ∧ Q4_16_4 Z b0 b1 w0 w1 f0 f1 h0 n0 v U'.heap L ∧ FrameEnd U o U' L ({ frames := 0, cells := 0, slots := 0, locals := 0 } : Room).cells ({ frames := 0, cells := 0, slots := 0, locals := 0 } : Room).slots) := by
  refine MetFree.of_bodySF (plainFor_of_name pn_33031910) hisR ?_
  intro p e s m args below meth c s₁ Bd hml0 hP hK
  obtain ⟨rfl, hZ, hh⟩ := hP
  have C : Ctx p s m meth c Z "com/example/bot_rules/botrules/model/IpAddress" "isSameKind" prog_33_method_10_code 2 (some .boolean) := Ctx.of Bd hml0 hZ
  have X0 : Stand p l e ({ frames := 0, cells := 0, slots := 0, locals := 0 } : Room) s m #[(.ref b0), (.ref b1)] below meth c s₁ [] 0 0 := Stand.of_body Bd
  have e0 : s₁.heap = h0 := by rw [← hh, Bd.state]; rfl
  have N0 := Fr.nil n0
  refine Goes.enter (ef_4_16_4 m b0 b1) ?_
  clear hK hml0 hh
  refine g_aloadN 1 rfl C X0 d4_0 rfl rfl ?_
  refine g_getF 4 rfl C X0 (host := "") (Or.inl (hw _ (List.mem_of_getElem? (i := 14) rfl))) Via.refl e0 F_b0_octets d4_1 fun T1 X2 e3 => ?_
  refine g_len 5 rfl C X2 e3 B_w0 (16 : Int32) rfl d4_4 ?_
  refine g_aloadN 6 rfl C X2 d4_5 rfl rfl ?_
  refine g_getF 9 rfl C X2 (host := "") (Or.inl (hw _ (List.mem_of_getElem? (i := 14) rfl))) Via.refl e3 F_b1_octets d4_6 fun T4 X5 e6 => ?_
  refine g_len 10 rfl C X5 e6 B_w1 (4 : Int32) rfl d4_9 ?_
  refine g_icmp_ne_t 17 C X5 d4_10 (by decide) (by decide) (by decide) ?_
  refine g_iconst 18 rfl C X5 (0 : Int32) d4_17 rfl ?_
  have fc7 : (16 : Int32).toInt = 16 := rfl
  have fc8 : (4 : Int32).toInt = 4 := rfl
  have fc9 : (0 : Int32).toInt = 0 := rfl
  exact g_retN C X5 (z' := (0 : Int32)) rfl (Or.inl rfl) d4_18 e6 (by decide) (by decide) rfl ⟨_, rfl, by omega, N0, rfl⟩
theorem ef_4_4_16 (m : MethodId) (b0 : Addr) (b1 : Addr) : entryFrame m #[(.ref b0), (.ref b1)] 2 = mkF m 0 #[.val (.ref b0), .val (.ref b1)] [] := by first | (simp [entryFrame, mkF, argsToLocals, Value.category]; done) | rfl
def Q4_4_16 (Z : State) (b0 : Addr) (b1 : Addr) (w0 : Addr) (w1 : Addr) (f0 : Nat → Int32) (f1 : Nat → Int32) (h0 : Heap) (n0 : Nat) (v : Option Value) (h : Heap) (L : List Loc) : Prop := ∃ r : Int32, v = some (.int r) ∧ (r.toInt = 0) ∧ Fr n0 L ∧ h = h0
set_option maxRecDepth 65536 in
set_option maxHeartbeats 40000000 in
theorem rm4_4_16 (l : Launch) (Z : State) (a0 : Array Value) (hw : ∀ d ∈ tables_1, d.before a0 Z = true) (ws : List Jvm.Cond) (b0 : Addr) (b1 : Addr) (w0 : Addr) (w1 : Addr) (f0 : Nat → Int32) (f1 : Nat → Int32) (h0 : Heap) (n0 : Nat) (Z0 : n0 ≤ h0.size) (F_b0_octets : Fld Z h0 b0 "com/example/bot_rules/botrules/model/IpAddress" "octets" "[B" (.ref w0)) (F_b1_octets : Fld Z h0 b1 "com/example/bot_rules/botrules/model/IpAddress" "octets" "[B" (.ref w1)) (B_w0 : Ba Z h0 w0 .byte 4 f0) (B_w1 : Ba Z h0 w1 .byte 16 f1) :
    MetFree l (⟨"com/example/bot_rules/botrules/model/IpAddress", "isSameKind", "(Lcom/example/bot_rules/botrules/model/IpAddress;)Z"⟩ : MethodName) (head1 (Jvm.Cond.code (⟨"com/example/bot_rules/botrules/model/IpAddress", "isSameKind", "(Lcom/example/bot_rules/botrules/model/IpAddress;)Z"⟩ : MethodName) prog_33_method_10_code 2 (some .boolean) :: ws) ({ frames := 0, cells := 0, slots := 0, locals := 0 } : Room)) (fun a U => a = #[(.ref b0), (.ref b1)] ∧ Z.Warmed39 U.vm ∧ U.heap = h0) (fun _ _ _ _ _ => True) (fun _ U o U' => ∃ v L, o = .returned v ∧ Q4_4_16 Z b0 b1 w0 w1 f0 f1 h0 n0 v U'.heap L ∧ FrameEnd U o U' L ({ frames := 0, cells := 0, slots := 0, locals := 0 } : Room).cells ({ frames := 0, cells := 0, slots := 0, locals := 0 } : Room).slots) := by
  refine MetFree.of_bodySF (plainFor_of_name pn_33031910) hisR ?_
  intro p e s m args below meth c s₁ Bd hml0 hP hK
  obtain ⟨rfl, hZ, hh⟩ := hP
  have C : Ctx p s m meth c Z "com/example/bot_rules/botrules/model/IpAddress" "isSameKind" prog_33_method_10_code 2 (some .boolean) := Ctx.of Bd hml0 hZ
  have X0 : Stand p l e ({ frames := 0, cells := 0, slots := 0, locals := 0 } : Room) s m #[(.ref b0), (.ref b1)] below meth c s₁ [] 0 0 := Stand.of_body Bd
  have e0 : s₁.heap = h0 := by rw [← hh, Bd.state]; rfl
  have N0 := Fr.nil n0
  refine Goes.enter (ef_4_4_16 m b0 b1) ?_
  clear hK hml0 hh
  refine g_aloadN 1 rfl C X0 d4_0 rfl rfl ?_
  refine g_getF 4 rfl C X0 (host := "") (Or.inl (hw _ (List.mem_of_getElem? (i := 14) rfl))) Via.refl e0 F_b0_octets d4_1 fun T1 X2 e3 => ?_
  refine g_len 5 rfl C X2 e3 B_w0 (4 : Int32) rfl d4_4 ?_
  refine g_aloadN 6 rfl C X2 d4_5 rfl rfl ?_
  refine g_getF 9 rfl C X2 (host := "") (Or.inl (hw _ (List.mem_of_getElem? (i := 14) rfl))) Via.refl e3 F_b1_octets d4_6 fun T4 X5 e6 => ?_
  refine g_len 10 rfl C X5 e6 B_w1 (16 : Int32) rfl d4_9 ?_
  refine g_icmp_ne_t 17 C X5 d4_10 (by decide) (by decide) (by decide) ?_
  refine g_iconst 18 rfl C X5 (0 : Int32) d4_17 rfl ?_
  have fc7 : (4 : Int32).toInt = 4 := rfl
  have fc8 : (16 : Int32).toInt = 16 := rfl
  have fc9 : (0 : Int32).toInt = 0 := rfl
  exact g_retN C X5 (z' := (0 : Int32)) rfl (Or.inl rfl) d4_18 e6 (by decide) (by decide) rfl ⟨_, rfl, by omega, N0, rfl⟩
theorem ef_4_4_4 (m : MethodId) (b0 : Addr) (b1 : Addr) : entryFrame m #[(.ref b0), (.ref b1)] 2 = mkF m 0 #[.val (.ref b0), .val (.ref b1)] [] := by first | (simp [entryFrame, mkF, argsToLocals, Value.category]; done) | rfl
def Q4_4_4 (Z : State) (b0 : Addr) (b1 : Addr) (w0 : Addr) (w1 : Addr) (f0 : Nat → Int32) (f1 : Nat → Int32) (h0 : Heap) (n0 : Nat) (v : Option Value) (h : Heap) (L : List Loc) : Prop := ∃ r : Int32, v = some (.int r) ∧ (r.toInt = 1) ∧ Fr n0 L ∧ h = h0
set_option maxRecDepth 65536 in
set_option maxHeartbeats 40000000 in
theorem rm4_4_4 (l : Launch) (Z : State) (a0 : Array Value) (hw : ∀ d ∈ tables_1, d.before a0 Z = true) (ws : List Jvm.Cond) (b0 : Addr) (b1 : Addr) (w0 : Addr) (w1 : Addr) (f0 : Nat → Int32) (f1 : Nat → Int32) (h0 : Heap) (n0 : Nat) (Z0 : n0 ≤ h0.size) (F_b0_octets : Fld Z h0 b0 "com/example/bot_rules/botrules/model/IpAddress" "octets" "[B" (.ref w0)) (F_b1_octets : Fld Z h0 b1 "com/example/bot_rules/botrules/model/IpAddress" "octets" "[B" (.ref w1)) (B_w0 : Ba Z h0 w0 .byte 4 f0) (B_w1 : Ba Z h0 w1 .byte 4 f1) :
    MetFree l (⟨"com/example/bot_rules/botrules/model/IpAddress", "isSameKind", "(Lcom/example/bot_rules/botrules/model/IpAddress;)Z"⟩ : MethodName) (head1 (Jvm.Cond.code (⟨"com/example/bot_rules/botrules/model/IpAddress", "isSameKind", "(Lcom/example/bot_rules/botrules/model/IpAddress;)Z"⟩ : MethodName) prog_33_method_10_code 2 (some .boolean) :: ws) ({ frames := 0, cells := 0, slots := 0, locals := 0 } : Room)) (fun a U => a = #[(.ref b0), (.ref b1)] ∧ Z.Warmed39 U.vm ∧ U.heap = h0) (fun _ _ _ _ _ => True) (fun _ U o U' => ∃ v L, o = .returned v ∧ Q4_4_4 Z b0 b1 w0 w1 f0 f1 h0 n0 v U'.heap L ∧ FrameEnd U o U' L ({ frames := 0, cells := 0, slots := 0, locals := 0 } : Room).cells ({ frames := 0, cells := 0, slots := 0, locals := 0 } : Room).slots) := by
  refine MetFree.of_bodySF (plainFor_of_name pn_33031910) hisR ?_
  intro p e s m args below meth c s₁ Bd hml0 hP hK
  obtain ⟨rfl, hZ, hh⟩ := hP
  have C : Ctx p s m meth c Z "com/example/bot_rules/botrules/model/IpAddress" "isSameKind" prog_33_method_10_code 2 (some .boolean) := Ctx.of Bd hml0 hZ
  have X0 : Stand p l e ({ frames := 0, cells := 0, slots := 0, locals := 0 } : Room) s m #[(.ref b0), (.ref b1)] below meth c s₁ [] 0 0 := Stand.of_body Bd
  have e0 : s₁.heap = h0 := by rw [← hh, Bd.state]; rfl
  have N0 := Fr.nil n0
  refine Goes.enter (ef_4_4_4 m b0 b1) ?_
  clear hK hml0 hh
  refine g_aloadN 1 rfl C X0 d4_0 rfl rfl ?_
  refine g_getF 4 rfl C X0 (host := "") (Or.inl (hw _ (List.mem_of_getElem? (i := 14) rfl))) Via.refl e0 F_b0_octets d4_1 fun T1 X2 e3 => ?_
  refine g_len 5 rfl C X2 e3 B_w0 (4 : Int32) rfl d4_4 ?_
  refine g_aloadN 6 rfl C X2 d4_5 rfl rfl ?_
  refine g_getF 9 rfl C X2 (host := "") (Or.inl (hw _ (List.mem_of_getElem? (i := 14) rfl))) Via.refl e3 F_b1_octets d4_6 fun T4 X5 e6 => ?_
  refine g_len 10 rfl C X5 e6 B_w1 (4 : Int32) rfl d4_9 ?_
  refine g_icmp_ne_f 13 rfl C X5 d4_10 (by decide) ?_
  refine g_iconst 14 rfl C X5 (1 : Int32) d4_13 rfl ?_
  refine g_goto 18 C X5 d4_14 (by decide) (by decide) ?_
  have fc7 : (4 : Int32).toInt = 4 := rfl
  have fc8 : (1 : Int32).toInt = 1 := rfl
  exact g_retN C X5 (z' := (1 : Int32)) rfl (Or.inl rfl) d4_18 e6 (by decide) (by decide) rfl ⟨_, rfl, by omega, N0, rfl⟩
theorem pd_41415128 : parseMethodDescriptor "(ZI)[B" = some ⟨[.boolean, .int], some (.array .byte)⟩ := by decide +kernel
theorem pd_42138761 : parseMethodDescriptor "([B)V" = some ⟨[(.array .byte)], none⟩ := by decide +kernel
theorem pd_20686750 : parseMethodDescriptor "(Lcom/example/bot_rules/botrules/model/IpAddress;)Z" = some ⟨[(.object "com/example/bot_rules/botrules/model/IpAddress")], some .boolean⟩ := by decide +kernel
theorem ef_0 (m : MethodId) (p0 : Int32) (p1 : Int32) (p2 : Int32) : entryFrame m #[(.int p0), (.int p1), (.int p2)] maxLocals = mkF m 0 #[.val (.int p0), .val (.int p1), .val (.int p2), .unset, .unset, .unset, .unset, .unset] [] := by first | (simp [entryFrame, mkF, argsToLocals, Value.category, maxLocals]; done) | rfl
def Q0 (Z : State) (p0 : Int32) (p1 : Int32) (p2 : Int32) (h0 : Heap) (n0 : Nat) (v : Option Value) (h : Heap) (L : List Loc) : Prop := v = some (.int 1) ∧ Fr n0 L
set_option maxRecDepth 65536 in
set_option maxHeartbeats 40000000 in
theorem rm0 (l : Launch) (Z : State) (a0 : Array Value) (hw : ∀ d ∈ tables_1, d.before a0 Z = true) (ws : List Jvm.Cond) (p0 : Int32) (p1 : Int32) (p2 : Int32) (h0 : Heap) (n0 : Nat) (Z0 : n0 ≤ h0.size) :
    MetFree l x (head1 (Jvm.Cond.code x code maxLocals ret :: ws) room_1) (fun a U => a = #[(.int p0), (.int p1), (.int p2)] ∧ Z.Warmed39 U.vm ∧ U.heap = h0) (fun _ _ _ _ _ => True) (fun _ U o U' => ∃ v L, o = .returned v ∧ Q0 Z p0 p1 p2 h0 n0 v U'.heap L ∧ FrameEnd U o U' L 16 192) := by
  refine MetFree.of_bodySF (plainFor_of_name pn_47200027) hisR ?_
  intro p e s m args below meth c s₁ Bd hml0 hP hK
  obtain ⟨rfl, hZ, hh⟩ := hP
  have C : Ctx p s m meth c Z "com/example/bot_rules/botrules/model/IpAddressIsSameKindPinLaw" "law" code maxLocals ret := Ctx.of Bd hml0 hZ
  have X0 : Stand p l e room_1 s m #[(.int p0), (.int p1), (.int p2)] below meth c s₁ [] 0 0 := Stand.of_body Bd
  have e0 : s₁.heap = h0 := by rw [← hh, Bd.state]; rfl
  have N0 := Fr.nil n0
  refine Goes.enter (ef_0 m p0 p1 p2) ?_
  clear hK hml0 hh
  refine g_iloadN 1 rfl C X0 at_0 rfl ?_
  refine g_iconst 2 rfl C X0 (1 : Int32) at_1 rfl ?_
  refine g_iand 3 rfl C X0 at_2 ?_
  by_cases hb1 : (p0 &&& (1 : Int32)).toInt = 0
  · skip
    refine g_if_eq_t 10 C X0 at_3 (by decide) (by decide) hb1 ?_
    refine g_iconst 11 rfl C X0 (0 : Int32) at_10 rfl ?_
    refine g_istoreN 12 rfl C X0 (0 : Int32) rfl #[.val (.int p0), .val (.int p1), .val (.int p2), .val (.int (0 : Int32)), .unset, .unset, .unset, .unset] at_11 rfl ?_
    refine g_iloadN 13 rfl C X0 at_12 rfl ?_
    refine g_iconst 14 rfl C X0 (2 : Int32) at_13 rfl ?_
    refine g_iand 15 rfl C X0 at_14 ?_
    by_cases hb2 : (p0 &&& (2 : Int32)).toInt = 0
    · skip
      refine g_if_eq_t 22 C X0 at_15 (by decide) (by decide) hb2 ?_
      refine g_iconst 23 rfl C X0 (0 : Int32) at_22 rfl ?_
      refine g_istore 25 rfl C X0 (0 : Int32) rfl #[.val (.int p0), .val (.int p1), .val (.int p2), .val (.int (0 : Int32)), .val (.int (0 : Int32)), .unset, .unset, .unset] at_23 rfl ?_
      refine g_new 28 rfl C X0 (hw _ (List.mem_of_getElem? (i := 0) rfl)) (hw _ (List.mem_of_getElem? (i := 1) rfl)) (hw _ (List.mem_of_getElem? (i := 2) rfl)) e0 at_25 (by decide) (by decide) fun T3 h4 o5 g6 X7 e8 E9 A10 D11 => ?_
      have gn12 : n0 ≤ o5 := by rw [g6]; exact Z0
      have Zs13 := Nat.le_trans Z0 E9.1
      have F14 : Fld Z h4 o5 "com/example/bot_rules/botrules/model/IpAddress" "octets" "[B" .null := D11 (Or.inr (hw _ (List.mem_of_getElem? (i := 15) rfl))) (ty := (.array .byte)) (by decide)
      refine g_dup 29 rfl C X7 at_28 rfl ?_
      refine g_iloadN 30 rfl C X7 at_29 rfl ?_
      refine g_iloadN 31 rfl C X7 at_30 rfl ?_
      refine g_callS 34 rfl C X7 (argsL := [(.int (0 : Int32)), (.int p1)]) (hw _ (List.mem_of_getElem? (i := 3) rfl)) (hw _ (List.mem_of_getElem? (i := 4) rfl)) (hw _ (List.mem_of_getElem? (i := 6) rfl)) (hw _ (List.mem_of_getElem? (i := 5) rfl)) e8 (rm1_0 l Z a0 hw [] p1 h4 n0 Zs13) (lenOf pd_41415128 rfl) (by decide) (by decide) (by decide) (by decide) rfl (W := 2) (Nat.le_of_eq rfl) (by decide) at_31 rfl fun r15 T16 Lc17 X18 hQ19 => ?_
      obtain ⟨o20, rfl, Nq21, Kc22, sz23, f24, B25⟩ := hQ19
      have ne26 : o5 ≠ o20 := Nat.ne_of_lt (Nat.lt_of_lt_of_le A10.lt sz23)
      have gn27 : n0 ≤ o20 := Nat.le_trans Zs13 sz23
      have F28 := A10.keep Kc22
      have F29 := F14.keep Kc22 nin0
      have Zs30 := Nat.le_trans Zs13 Kc22.1
      have N31 := Fr.app N0 Nq21
      show Goes _ _ _ _ _ _ 34 _ [(.ref o20), (.ref o5), (.ref o5)]
      refine g_callN 37 rfl C X18 (argsL := [(.ref o20)]) rfl rfl (hw _ (List.mem_of_getElem? (i := 8) rfl)) (hw _ (List.mem_of_getElem? (i := 9) rfl)) (hw _ (List.mem_of_getElem? (i := 10) rfl)) (hw _ (List.mem_of_getElem? (i := 2) rfl)) rfl (rm2 l Z a0 hw [] o5 o20 (T16.heap) n0 Zs30 F28 F29 gn12) (lenOf pd_42138761 rfl) (by decide) (by decide) (by decide) (by decide) rfl (W := 1) (Nat.le_of_eq rfl) (by decide) at_34 rfl fun r32 T33 Lc34 X35 hQ36 => ?_
      obtain ⟨rfl, Nq37, Kc38, F39, F40⟩ := hQ36
      have F41 := F28.keep Kc38
      have F42 := B25.keep Kc38 (ninS (Ne.symm ne26) nin0)
      have Zs43 := Nat.le_trans Zs30 Kc38.1
      have N44 := Fr.app N31 Nq37
      show Goes _ _ _ _ _ _ 37 _ [(.ref o5)]
      refine g_astore 39 rfl C X35 #[.val (.int p0), .val (.int p1), .val (.int p2), .val (.int (0 : Int32)), .val (.int (0 : Int32)), .val (.ref o5), .unset, .unset] at_37 rfl rfl ?_
      refine g_new 42 rfl C X35 (hw _ (List.mem_of_getElem? (i := 0) rfl)) (hw _ (List.mem_of_getElem? (i := 1) rfl)) (hw _ (List.mem_of_getElem? (i := 2) rfl)) rfl at_39 (by decide) (by decide) fun T45 h46 o47 g48 X49 e50 E51 A52 D53 => ?_
      have ne54 : o20 ≠ o47 := by rw [g48]; exact Nat.ne_of_lt F42.lt
      have ne55 : o5 ≠ o47 := by rw [g48]; exact Nat.ne_of_lt F39.lt
      have gn56 : n0 ≤ o47 := by rw [g48]; exact Zs43
      have F57 := F39.ext E51
      have F58 := F42.ext E51
      have F59 := F40.ext E51
      have Zs60 := Nat.le_trans Zs43 E51.1
      have F61 : Fld Z h46 o47 "com/example/bot_rules/botrules/model/IpAddress" "octets" "[B" .null := D53 (Or.inr (hw _ (List.mem_of_getElem? (i := 15) rfl))) (ty := (.array .byte)) (by decide)
      refine g_dup 43 rfl C X49 at_42 rfl ?_
      refine g_iload 45 rfl C X49 at_43 rfl ?_
      refine g_iloadN 46 rfl C X49 at_45 rfl ?_
      refine g_callS 49 rfl C X49 (argsL := [(.int (0 : Int32)), (.int p2)]) (hw _ (List.mem_of_getElem? (i := 3) rfl)) (hw _ (List.mem_of_getElem? (i := 4) rfl)) (hw _ (List.mem_of_getElem? (i := 6) rfl)) (hw _ (List.mem_of_getElem? (i := 5) rfl)) e50 (rm1_0 l Z a0 hw [] p2 h46 n0 Zs60) (lenOf pd_41415128 rfl) (by decide) (by decide) (by decide) (by decide) rfl (W := 2) (Nat.le_of_eq rfl) (by decide) at_46 rfl fun r62 T63 Lc64 X65 hQ66 => ?_
      obtain ⟨o67, rfl, Nq68, Kc69, sz70, f71, B72⟩ := hQ66
      have ne73 : o20 ≠ o67 := Nat.ne_of_lt (Nat.lt_of_lt_of_le F58.lt sz70)
      have ne74 : o47 ≠ o67 := Nat.ne_of_lt (Nat.lt_of_lt_of_le A52.lt sz70)
      have ne75 : o5 ≠ o67 := Nat.ne_of_lt (Nat.lt_of_lt_of_le F57.lt sz70)
      have gn76 : n0 ≤ o67 := Nat.le_trans Zs60 sz70
      have F77 := F57.keep Kc69
      have F78 := F58.keep Kc69 nin0
      have F79 := F59.keep Kc69 nin0
      have F80 := A52.keep Kc69
      have F81 := F61.keep Kc69 nin0
      have Zs82 := Nat.le_trans Zs60 Kc69.1
      have N83 := Fr.app N44 Nq68
      show Goes _ _ _ _ _ _ 49 _ [(.ref o67), (.ref o47), (.ref o47)]
      refine g_callN 52 rfl C X65 (argsL := [(.ref o67)]) rfl rfl (hw _ (List.mem_of_getElem? (i := 8) rfl)) (hw _ (List.mem_of_getElem? (i := 9) rfl)) (hw _ (List.mem_of_getElem? (i := 10) rfl)) (hw _ (List.mem_of_getElem? (i := 2) rfl)) rfl (rm2 l Z a0 hw [] o47 o67 (T63.heap) n0 Zs82 F80 F81 gn56) (lenOf pd_42138761 rfl) (by decide) (by decide) (by decide) (by decide) rfl (W := 1) (Nat.le_of_eq rfl) (by decide) at_49 rfl fun r84 T85 Lc86 X87 hQ88 => ?_
      obtain ⟨rfl, Nq89, Kc90, F91, F92⟩ := hQ88
      have F93 := F77.keep Kc90
      have F94 := F78.keep Kc90 (ninS ne54 nin0)
      have F95 := F79.keep Kc90 (ninS ne55 nin0)
      have F96 := F80.keep Kc90
      have F97 := B72.keep Kc90 (ninS (Ne.symm ne74) nin0)
      have Zs98 := Nat.le_trans Zs82 Kc90.1
      have N99 := Fr.app N83 Nq89
      show Goes _ _ _ _ _ _ 52 _ [(.ref o47)]
      refine g_astore 54 rfl C X87 #[.val (.int p0), .val (.int p1), .val (.int p2), .val (.int (0 : Int32)), .val (.int (0 : Int32)), .val (.ref o5), .val (.ref o47), .unset] at_52 rfl rfl ?_
      refine g_iloadN 55 rfl C X87 at_54 rfl ?_
      refine g_iload 57 rfl C X87 at_55 rfl ?_
      refine g_icmp_ne_f 60 rfl C X87 at_57 (by decide) ?_
      refine g_iconst 61 rfl C X87 (1 : Int32) at_60 rfl ?_
      refine g_goto 65 C X87 at_61 (by decide) (by decide) ?_
      refine g_istore 67 rfl C X87 (1 : Int32) rfl #[.val (.int p0), .val (.int p1), .val (.int p2), .val (.int (0 : Int32)), .val (.int (0 : Int32)), .val (.ref o5), .val (.ref o47), .val (.int (1 : Int32))] at_65 rfl ?_
      refine g_aload 69 rfl C X87 at_67 rfl rfl ?_
      refine g_aload 71 rfl C X87 at_69 rfl rfl ?_
      refine g_callV 74 rfl C X87 (argsL := [(.ref o47)]) (hw _ (List.mem_of_getElem? (i := 16) rfl)) (hw _ (List.mem_of_getElem? (i := 17) rfl)) (hw _ (List.mem_of_getElem? (i := 19) rfl)) (hw _ (List.mem_of_getElem? (i := 18) rfl)) (hw _ (List.mem_of_getElem? (i := 20) rfl)) (hw _ (List.mem_of_getElem? (i := 2) rfl)) rfl F93 (rm4_4_4 l Z a0 hw [] o5 o47 o20 o67 f24 f71 (T85.heap) n0 Zs98 F95 F92 F94 F97) (lenOf pd_20686750 rfl) (by decide) (by decide) (by decide) (by decide) rfl (W := 0) (Nat.le_of_eq rfl) (by decide) at_71 rfl fun r100 T101 Lc102 X103 hQ104 => ?_
      obtain ⟨r105, rfl, hs106, Nq107, eh108⟩ := hQ104
      have N109 := Fr.app N99 Nq107
      show Goes _ _ _ _ _ _ 74 _ [(.int r105)]
      refine g_iload 76 rfl C X103 at_74 rfl ?_
      have fr110 := rng32 p0
      have fc111 : (1 : Int32).toInt = 1 := rfl
      have fo112 : (p0 &&& (1 : Int32)).toInt = p0.toInt % 2 := c_mask p0 (1 : Int32) 1 (by decide) (by decide)
      have fc113 : (2 : Int32).toInt = 2 := rfl
      have fc115 : (3 : Int32).toInt = 3 := rfl
      have fo116 : (p0 &&& (3 : Int32)).toInt = p0.toInt % 4 := c_mask p0 (3 : Int32) 2 (by decide) (by decide)
      have fo114 := own_blk p0 (2 : Int32) (1 : Int32) (3 : Int32) (by decide) (by decide)
      have fo117 := c_and p0 (2 : Int32) (by decide)
      have fr118 := rng32 (p0 &&& (2 : Int32))
      have fc119 : (0 : Int32).toInt = 0 := rfl
      have fr120 := rng32 r105
      have hb121 : r105.toInt = (1 : Int32).toInt := by omega
      refine g_icmp_ne_f 79 rfl C X103 at_76 hb121 ?_
      refine g_aload 81 rfl C X103 at_79 rfl rfl ?_
      refine g_aload 83 rfl C X103 at_81 rfl rfl ?_
      refine g_callV 86 rfl C X103 (argsL := [(.ref o5)]) (hw _ (List.mem_of_getElem? (i := 16) rfl)) (hw _ (List.mem_of_getElem? (i := 17) rfl)) (hw _ (List.mem_of_getElem? (i := 19) rfl)) (hw _ (List.mem_of_getElem? (i := 18) rfl)) (hw _ (List.mem_of_getElem? (i := 20) rfl)) (hw _ (List.mem_of_getElem? (i := 2) rfl)) eh108 F91 (rm4_4_4 l Z a0 hw [] o47 o5 o67 o20 f71 f24 (T85.heap) n0 Zs98 F92 F95 F97 F94) (lenOf pd_20686750 rfl) (by decide) (by decide) (by decide) (by decide) rfl (W := 0) (Nat.le_of_eq rfl) (by decide) at_83 rfl fun r122 T123 Lc124 X125 hQ126 => ?_
      obtain ⟨r127, rfl, hs128, Nq129, eh130⟩ := hQ126
      have N131 := Fr.app N109 Nq129
      show Goes _ _ _ _ _ _ 86 _ [(.int r127)]
      refine g_iload 88 rfl C X125 at_86 rfl ?_
      have fr132 := rng32 r127
      have hb133 : r127.toInt = (1 : Int32).toInt := by omega
      refine g_icmp_ne_f 91 rfl C X125 at_88 hb133 ?_
      refine g_aload 93 rfl C X125 at_91 rfl rfl ?_
      refine g_aload 95 rfl C X125 at_93 rfl rfl ?_
      refine g_callV 98 rfl C X125 (argsL := [(.ref o5)]) (hw _ (List.mem_of_getElem? (i := 16) rfl)) (hw _ (List.mem_of_getElem? (i := 17) rfl)) (hw _ (List.mem_of_getElem? (i := 19) rfl)) (hw _ (List.mem_of_getElem? (i := 18) rfl)) (hw _ (List.mem_of_getElem? (i := 20) rfl)) (hw _ (List.mem_of_getElem? (i := 2) rfl)) eh130 F93 (rm4_4_4 l Z a0 hw [] o5 o5 o20 o20 f24 f24 (T85.heap) n0 Zs98 F95 F95 F94 F94) (lenOf pd_20686750 rfl) (by decide) (by decide) (by decide) (by decide) rfl (W := 0) (Nat.le_of_eq rfl) (by decide) at_95 rfl fun r134 T135 Lc136 X137 hQ138 => ?_
      obtain ⟨r139, rfl, hs140, Nq141, eh142⟩ := hQ138
      have N143 := Fr.app N131 Nq141
      show Goes _ _ _ _ _ _ 98 _ [(.int r139)]
      have fr144 := rng32 r139
      have hb145 : ¬ (r139.toInt = 0) := by omega
      refine g_if_eq_f 101 rfl C X137 at_98 hb145 ?_
      refine g_iconst 102 rfl C X137 (1 : Int32) at_101 rfl ?_
      refine g_goto 106 C X137 at_102 (by decide) (by decide) ?_
      exact g_retN C X137 (z' := (1 : Int32)) rfl (Or.inl rfl) at_106 eh142 (by decide) (by decide) rfl ⟨rfl, N143⟩
    · skip
      refine g_if_eq_f 18 rfl C X0 at_15 hb2 ?_
      refine g_iconst 19 rfl C X0 (1 : Int32) at_18 rfl ?_
      refine g_goto 23 C X0 at_19 (by decide) (by decide) ?_
      refine g_istore 25 rfl C X0 (1 : Int32) rfl #[.val (.int p0), .val (.int p1), .val (.int p2), .val (.int (0 : Int32)), .val (.int (1 : Int32)), .unset, .unset, .unset] at_23 rfl ?_
      refine g_new 28 rfl C X0 (hw _ (List.mem_of_getElem? (i := 0) rfl)) (hw _ (List.mem_of_getElem? (i := 1) rfl)) (hw _ (List.mem_of_getElem? (i := 2) rfl)) e0 at_25 (by decide) (by decide) fun T146 h147 o148 g149 X150 e151 E152 A153 D154 => ?_
      have gn155 : n0 ≤ o148 := by rw [g149]; exact Z0
      have Zs156 := Nat.le_trans Z0 E152.1
      have F157 : Fld Z h147 o148 "com/example/bot_rules/botrules/model/IpAddress" "octets" "[B" .null := D154 (Or.inr (hw _ (List.mem_of_getElem? (i := 15) rfl))) (ty := (.array .byte)) (by decide)
      refine g_dup 29 rfl C X150 at_28 rfl ?_
      refine g_iloadN 30 rfl C X150 at_29 rfl ?_
      refine g_iloadN 31 rfl C X150 at_30 rfl ?_
      refine g_callS 34 rfl C X150 (argsL := [(.int (0 : Int32)), (.int p1)]) (hw _ (List.mem_of_getElem? (i := 3) rfl)) (hw _ (List.mem_of_getElem? (i := 4) rfl)) (hw _ (List.mem_of_getElem? (i := 6) rfl)) (hw _ (List.mem_of_getElem? (i := 5) rfl)) e151 (rm1_0 l Z a0 hw [] p1 h147 n0 Zs156) (lenOf pd_41415128 rfl) (by decide) (by decide) (by decide) (by decide) rfl (W := 2) (Nat.le_of_eq rfl) (by decide) at_31 rfl fun r158 T159 Lc160 X161 hQ162 => ?_
      obtain ⟨o163, rfl, Nq164, Kc165, sz166, f167, B168⟩ := hQ162
      have ne169 : o148 ≠ o163 := Nat.ne_of_lt (Nat.lt_of_lt_of_le A153.lt sz166)
      have gn170 : n0 ≤ o163 := Nat.le_trans Zs156 sz166
      have F171 := A153.keep Kc165
      have F172 := F157.keep Kc165 nin0
      have Zs173 := Nat.le_trans Zs156 Kc165.1
      have N174 := Fr.app N0 Nq164
      show Goes _ _ _ _ _ _ 34 _ [(.ref o163), (.ref o148), (.ref o148)]
      refine g_callN 37 rfl C X161 (argsL := [(.ref o163)]) rfl rfl (hw _ (List.mem_of_getElem? (i := 8) rfl)) (hw _ (List.mem_of_getElem? (i := 9) rfl)) (hw _ (List.mem_of_getElem? (i := 10) rfl)) (hw _ (List.mem_of_getElem? (i := 2) rfl)) rfl (rm2 l Z a0 hw [] o148 o163 (T159.heap) n0 Zs173 F171 F172 gn155) (lenOf pd_42138761 rfl) (by decide) (by decide) (by decide) (by decide) rfl (W := 1) (Nat.le_of_eq rfl) (by decide) at_34 rfl fun r175 T176 Lc177 X178 hQ179 => ?_
      obtain ⟨rfl, Nq180, Kc181, F182, F183⟩ := hQ179
      have F184 := F171.keep Kc181
      have F185 := B168.keep Kc181 (ninS (Ne.symm ne169) nin0)
      have Zs186 := Nat.le_trans Zs173 Kc181.1
      have N187 := Fr.app N174 Nq180
      show Goes _ _ _ _ _ _ 37 _ [(.ref o148)]
      refine g_astore 39 rfl C X178 #[.val (.int p0), .val (.int p1), .val (.int p2), .val (.int (0 : Int32)), .val (.int (1 : Int32)), .val (.ref o148), .unset, .unset] at_37 rfl rfl ?_
      refine g_new 42 rfl C X178 (hw _ (List.mem_of_getElem? (i := 0) rfl)) (hw _ (List.mem_of_getElem? (i := 1) rfl)) (hw _ (List.mem_of_getElem? (i := 2) rfl)) rfl at_39 (by decide) (by decide) fun T188 h189 o190 g191 X192 e193 E194 A195 D196 => ?_
      have ne197 : o148 ≠ o190 := by rw [g191]; exact Nat.ne_of_lt F182.lt
      have ne198 : o163 ≠ o190 := by rw [g191]; exact Nat.ne_of_lt F185.lt
      have gn199 : n0 ≤ o190 := by rw [g191]; exact Zs186
      have F200 := F182.ext E194
      have F201 := F185.ext E194
      have F202 := F183.ext E194
      have Zs203 := Nat.le_trans Zs186 E194.1
      have F204 : Fld Z h189 o190 "com/example/bot_rules/botrules/model/IpAddress" "octets" "[B" .null := D196 (Or.inr (hw _ (List.mem_of_getElem? (i := 15) rfl))) (ty := (.array .byte)) (by decide)
      refine g_dup 43 rfl C X192 at_42 rfl ?_
      refine g_iload 45 rfl C X192 at_43 rfl ?_
      refine g_iloadN 46 rfl C X192 at_45 rfl ?_
      refine g_callS 49 rfl C X192 (argsL := [(.int (1 : Int32)), (.int p2)]) (hw _ (List.mem_of_getElem? (i := 3) rfl)) (hw _ (List.mem_of_getElem? (i := 4) rfl)) (hw _ (List.mem_of_getElem? (i := 6) rfl)) (hw _ (List.mem_of_getElem? (i := 5) rfl)) e193 (rm1_1 l Z a0 hw [] p2 h189 n0 Zs203) (lenOf pd_41415128 rfl) (by decide) (by decide) (by decide) (by decide) rfl (W := 2) (Nat.le_of_eq rfl) (by decide) at_46 rfl fun r205 T206 Lc207 X208 hQ209 => ?_
      obtain ⟨o210, rfl, Nq211, Kc212, sz213, f214, B215⟩ := hQ209
      have ne216 : o148 ≠ o210 := Nat.ne_of_lt (Nat.lt_of_lt_of_le F200.lt sz213)
      have ne217 : o163 ≠ o210 := Nat.ne_of_lt (Nat.lt_of_lt_of_le F201.lt sz213)
      have ne218 : o190 ≠ o210 := Nat.ne_of_lt (Nat.lt_of_lt_of_le A195.lt sz213)
      have gn219 : n0 ≤ o210 := Nat.le_trans Zs203 sz213
      have F220 := F200.keep Kc212
      have F221 := F201.keep Kc212 nin0
      have F222 := F202.keep Kc212 nin0
      have F223 := A195.keep Kc212
      have F224 := F204.keep Kc212 nin0
      have Zs225 := Nat.le_trans Zs203 Kc212.1
      have N226 := Fr.app N187 Nq211
      show Goes _ _ _ _ _ _ 49 _ [(.ref o210), (.ref o190), (.ref o190)]
      refine g_callN 52 rfl C X208 (argsL := [(.ref o210)]) rfl rfl (hw _ (List.mem_of_getElem? (i := 8) rfl)) (hw _ (List.mem_of_getElem? (i := 9) rfl)) (hw _ (List.mem_of_getElem? (i := 10) rfl)) (hw _ (List.mem_of_getElem? (i := 2) rfl)) rfl (rm2 l Z a0 hw [] o190 o210 (T206.heap) n0 Zs225 F223 F224 gn199) (lenOf pd_42138761 rfl) (by decide) (by decide) (by decide) (by decide) rfl (W := 1) (Nat.le_of_eq rfl) (by decide) at_49 rfl fun r227 T228 Lc229 X230 hQ231 => ?_
      obtain ⟨rfl, Nq232, Kc233, F234, F235⟩ := hQ231
      have F236 := F220.keep Kc233
      have F237 := F221.keep Kc233 (ninS ne198 nin0)
      have F238 := F222.keep Kc233 (ninS ne197 nin0)
      have F239 := F223.keep Kc233
      have F240 := B215.keep Kc233 (ninS (Ne.symm ne218) nin0)
      have Zs241 := Nat.le_trans Zs225 Kc233.1
      have N242 := Fr.app N226 Nq232
      show Goes _ _ _ _ _ _ 52 _ [(.ref o190)]
      refine g_astore 54 rfl C X230 #[.val (.int p0), .val (.int p1), .val (.int p2), .val (.int (0 : Int32)), .val (.int (1 : Int32)), .val (.ref o148), .val (.ref o190), .unset] at_52 rfl rfl ?_
      refine g_iloadN 55 rfl C X230 at_54 rfl ?_
      refine g_iload 57 rfl C X230 at_55 rfl ?_
      refine g_icmp_ne_t 64 C X230 at_57 (by decide) (by decide) (by decide) ?_
      refine g_iconst 65 rfl C X230 (0 : Int32) at_64 rfl ?_
      refine g_istore 67 rfl C X230 (0 : Int32) rfl #[.val (.int p0), .val (.int p1), .val (.int p2), .val (.int (0 : Int32)), .val (.int (1 : Int32)), .val (.ref o148), .val (.ref o190), .val (.int (0 : Int32))] at_65 rfl ?_
      refine g_aload 69 rfl C X230 at_67 rfl rfl ?_
      refine g_aload 71 rfl C X230 at_69 rfl rfl ?_
      refine g_callV 74 rfl C X230 (argsL := [(.ref o190)]) (hw _ (List.mem_of_getElem? (i := 16) rfl)) (hw _ (List.mem_of_getElem? (i := 17) rfl)) (hw _ (List.mem_of_getElem? (i := 19) rfl)) (hw _ (List.mem_of_getElem? (i := 18) rfl)) (hw _ (List.mem_of_getElem? (i := 20) rfl)) (hw _ (List.mem_of_getElem? (i := 2) rfl)) rfl F236 (rm4_4_16 l Z a0 hw [] o148 o190 o163 o210 f167 f214 (T228.heap) n0 Zs241 F238 F235 F237 F240) (lenOf pd_20686750 rfl) (by decide) (by decide) (by decide) (by decide) rfl (W := 0) (Nat.le_of_eq rfl) (by decide) at_71 rfl fun r243 T244 Lc245 X246 hQ247 => ?_
      obtain ⟨r248, rfl, hs249, Nq250, eh251⟩ := hQ247
      have N252 := Fr.app N242 Nq250
      show Goes _ _ _ _ _ _ 74 _ [(.int r248)]
      refine g_iload 76 rfl C X246 at_74 rfl ?_
      have fr253 := rng32 p0
      have fc254 : (1 : Int32).toInt = 1 := rfl
      have fo255 : (p0 &&& (1 : Int32)).toInt = p0.toInt % 2 := c_mask p0 (1 : Int32) 1 (by decide) (by decide)
      have fc256 : (2 : Int32).toInt = 2 := rfl
      have fc258 : (3 : Int32).toInt = 3 := rfl
      have fo259 : (p0 &&& (3 : Int32)).toInt = p0.toInt % 4 := c_mask p0 (3 : Int32) 2 (by decide) (by decide)
      have fo257 := own_blk p0 (2 : Int32) (1 : Int32) (3 : Int32) (by decide) (by decide)
      have fo260 := c_and p0 (2 : Int32) (by decide)
      have fr261 := rng32 (p0 &&& (2 : Int32))
      have fc262 : (0 : Int32).toInt = 0 := rfl
      have fr263 := rng32 r248
      have hb264 : r248.toInt = (0 : Int32).toInt := by omega
      refine g_icmp_ne_f 79 rfl C X246 at_76 hb264 ?_
      refine g_aload 81 rfl C X246 at_79 rfl rfl ?_
      refine g_aload 83 rfl C X246 at_81 rfl rfl ?_
      refine g_callV 86 rfl C X246 (argsL := [(.ref o148)]) (hw _ (List.mem_of_getElem? (i := 16) rfl)) (hw _ (List.mem_of_getElem? (i := 17) rfl)) (hw _ (List.mem_of_getElem? (i := 19) rfl)) (hw _ (List.mem_of_getElem? (i := 18) rfl)) (hw _ (List.mem_of_getElem? (i := 20) rfl)) (hw _ (List.mem_of_getElem? (i := 2) rfl)) eh251 F234 (rm4_16_4 l Z a0 hw [] o190 o148 o210 o163 f214 f167 (T228.heap) n0 Zs241 F235 F238 F240 F237) (lenOf pd_20686750 rfl) (by decide) (by decide) (by decide) (by decide) rfl (W := 0) (Nat.le_of_eq rfl) (by decide) at_83 rfl fun r265 T266 Lc267 X268 hQ269 => ?_
      obtain ⟨r270, rfl, hs271, Nq272, eh273⟩ := hQ269
      have N274 := Fr.app N252 Nq272
      show Goes _ _ _ _ _ _ 86 _ [(.int r270)]
      refine g_iload 88 rfl C X268 at_86 rfl ?_
      have fr275 := rng32 r270
      have hb276 : r270.toInt = (0 : Int32).toInt := by omega
      refine g_icmp_ne_f 91 rfl C X268 at_88 hb276 ?_
      refine g_aload 93 rfl C X268 at_91 rfl rfl ?_
      refine g_aload 95 rfl C X268 at_93 rfl rfl ?_
      refine g_callV 98 rfl C X268 (argsL := [(.ref o148)]) (hw _ (List.mem_of_getElem? (i := 16) rfl)) (hw _ (List.mem_of_getElem? (i := 17) rfl)) (hw _ (List.mem_of_getElem? (i := 19) rfl)) (hw _ (List.mem_of_getElem? (i := 18) rfl)) (hw _ (List.mem_of_getElem? (i := 20) rfl)) (hw _ (List.mem_of_getElem? (i := 2) rfl)) eh273 F236 (rm4_4_4 l Z a0 hw [] o148 o148 o163 o163 f167 f167 (T228.heap) n0 Zs241 F238 F238 F237 F237) (lenOf pd_20686750 rfl) (by decide) (by decide) (by decide) (by decide) rfl (W := 0) (Nat.le_of_eq rfl) (by decide) at_95 rfl fun r277 T278 Lc279 X280 hQ281 => ?_
      obtain ⟨r282, rfl, hs283, Nq284, eh285⟩ := hQ281
      have N286 := Fr.app N274 Nq284
      show Goes _ _ _ _ _ _ 98 _ [(.int r282)]
      have fr287 := rng32 r282
      have hb288 : ¬ (r282.toInt = 0) := by omega
      refine g_if_eq_f 101 rfl C X280 at_98 hb288 ?_
      refine g_iconst 102 rfl C X280 (1 : Int32) at_101 rfl ?_
      refine g_goto 106 C X280 at_102 (by decide) (by decide) ?_
      exact g_retN C X280 (z' := (1 : Int32)) rfl (Or.inl rfl) at_106 eh285 (by decide) (by decide) rfl ⟨rfl, N286⟩
  · skip
    refine g_if_eq_f 6 rfl C X0 at_3 hb1 ?_
    refine g_iconst 7 rfl C X0 (1 : Int32) at_6 rfl ?_
    refine g_goto 11 C X0 at_7 (by decide) (by decide) ?_
    refine g_istoreN 12 rfl C X0 (1 : Int32) rfl #[.val (.int p0), .val (.int p1), .val (.int p2), .val (.int (1 : Int32)), .unset, .unset, .unset, .unset] at_11 rfl ?_
    refine g_iloadN 13 rfl C X0 at_12 rfl ?_
    refine g_iconst 14 rfl C X0 (2 : Int32) at_13 rfl ?_
    refine g_iand 15 rfl C X0 at_14 ?_
    by_cases hb289 : (p0 &&& (2 : Int32)).toInt = 0
    · skip
      refine g_if_eq_t 22 C X0 at_15 (by decide) (by decide) hb289 ?_
      refine g_iconst 23 rfl C X0 (0 : Int32) at_22 rfl ?_
      refine g_istore 25 rfl C X0 (0 : Int32) rfl #[.val (.int p0), .val (.int p1), .val (.int p2), .val (.int (1 : Int32)), .val (.int (0 : Int32)), .unset, .unset, .unset] at_23 rfl ?_
      refine g_new 28 rfl C X0 (hw _ (List.mem_of_getElem? (i := 0) rfl)) (hw _ (List.mem_of_getElem? (i := 1) rfl)) (hw _ (List.mem_of_getElem? (i := 2) rfl)) e0 at_25 (by decide) (by decide) fun T290 h291 o292 g293 X294 e295 E296 A297 D298 => ?_
      have gn299 : n0 ≤ o292 := by rw [g293]; exact Z0
      have Zs300 := Nat.le_trans Z0 E296.1
      have F301 : Fld Z h291 o292 "com/example/bot_rules/botrules/model/IpAddress" "octets" "[B" .null := D298 (Or.inr (hw _ (List.mem_of_getElem? (i := 15) rfl))) (ty := (.array .byte)) (by decide)
      refine g_dup 29 rfl C X294 at_28 rfl ?_
      refine g_iloadN 30 rfl C X294 at_29 rfl ?_
      refine g_iloadN 31 rfl C X294 at_30 rfl ?_
      refine g_callS 34 rfl C X294 (argsL := [(.int (1 : Int32)), (.int p1)]) (hw _ (List.mem_of_getElem? (i := 3) rfl)) (hw _ (List.mem_of_getElem? (i := 4) rfl)) (hw _ (List.mem_of_getElem? (i := 6) rfl)) (hw _ (List.mem_of_getElem? (i := 5) rfl)) e295 (rm1_1 l Z a0 hw [] p1 h291 n0 Zs300) (lenOf pd_41415128 rfl) (by decide) (by decide) (by decide) (by decide) rfl (W := 2) (Nat.le_of_eq rfl) (by decide) at_31 rfl fun r302 T303 Lc304 X305 hQ306 => ?_
      obtain ⟨o307, rfl, Nq308, Kc309, sz310, f311, B312⟩ := hQ306
      have ne313 : o292 ≠ o307 := Nat.ne_of_lt (Nat.lt_of_lt_of_le A297.lt sz310)
      have gn314 : n0 ≤ o307 := Nat.le_trans Zs300 sz310
      have F315 := A297.keep Kc309
      have F316 := F301.keep Kc309 nin0
      have Zs317 := Nat.le_trans Zs300 Kc309.1
      have N318 := Fr.app N0 Nq308
      show Goes _ _ _ _ _ _ 34 _ [(.ref o307), (.ref o292), (.ref o292)]
      refine g_callN 37 rfl C X305 (argsL := [(.ref o307)]) rfl rfl (hw _ (List.mem_of_getElem? (i := 8) rfl)) (hw _ (List.mem_of_getElem? (i := 9) rfl)) (hw _ (List.mem_of_getElem? (i := 10) rfl)) (hw _ (List.mem_of_getElem? (i := 2) rfl)) rfl (rm2 l Z a0 hw [] o292 o307 (T303.heap) n0 Zs317 F315 F316 gn299) (lenOf pd_42138761 rfl) (by decide) (by decide) (by decide) (by decide) rfl (W := 1) (Nat.le_of_eq rfl) (by decide) at_34 rfl fun r319 T320 Lc321 X322 hQ323 => ?_
      obtain ⟨rfl, Nq324, Kc325, F326, F327⟩ := hQ323
      have F328 := F315.keep Kc325
      have F329 := B312.keep Kc325 (ninS (Ne.symm ne313) nin0)
      have Zs330 := Nat.le_trans Zs317 Kc325.1
      have N331 := Fr.app N318 Nq324
      show Goes _ _ _ _ _ _ 37 _ [(.ref o292)]
      refine g_astore 39 rfl C X322 #[.val (.int p0), .val (.int p1), .val (.int p2), .val (.int (1 : Int32)), .val (.int (0 : Int32)), .val (.ref o292), .unset, .unset] at_37 rfl rfl ?_
      refine g_new 42 rfl C X322 (hw _ (List.mem_of_getElem? (i := 0) rfl)) (hw _ (List.mem_of_getElem? (i := 1) rfl)) (hw _ (List.mem_of_getElem? (i := 2) rfl)) rfl at_39 (by decide) (by decide) fun T332 h333 o334 g335 X336 e337 E338 A339 D340 => ?_
      have ne341 : o292 ≠ o334 := by rw [g335]; exact Nat.ne_of_lt F326.lt
      have ne342 : o307 ≠ o334 := by rw [g335]; exact Nat.ne_of_lt F329.lt
      have gn343 : n0 ≤ o334 := by rw [g335]; exact Zs330
      have F344 := F326.ext E338
      have F345 := F329.ext E338
      have F346 := F327.ext E338
      have Zs347 := Nat.le_trans Zs330 E338.1
      have F348 : Fld Z h333 o334 "com/example/bot_rules/botrules/model/IpAddress" "octets" "[B" .null := D340 (Or.inr (hw _ (List.mem_of_getElem? (i := 15) rfl))) (ty := (.array .byte)) (by decide)
      refine g_dup 43 rfl C X336 at_42 rfl ?_
      refine g_iload 45 rfl C X336 at_43 rfl ?_
      refine g_iloadN 46 rfl C X336 at_45 rfl ?_
      refine g_callS 49 rfl C X336 (argsL := [(.int (0 : Int32)), (.int p2)]) (hw _ (List.mem_of_getElem? (i := 3) rfl)) (hw _ (List.mem_of_getElem? (i := 4) rfl)) (hw _ (List.mem_of_getElem? (i := 6) rfl)) (hw _ (List.mem_of_getElem? (i := 5) rfl)) e337 (rm1_0 l Z a0 hw [] p2 h333 n0 Zs347) (lenOf pd_41415128 rfl) (by decide) (by decide) (by decide) (by decide) rfl (W := 2) (Nat.le_of_eq rfl) (by decide) at_46 rfl fun r349 T350 Lc351 X352 hQ353 => ?_
      obtain ⟨o354, rfl, Nq355, Kc356, sz357, f358, B359⟩ := hQ353
      have ne360 : o292 ≠ o354 := Nat.ne_of_lt (Nat.lt_of_lt_of_le F344.lt sz357)
      have ne361 : o307 ≠ o354 := Nat.ne_of_lt (Nat.lt_of_lt_of_le F345.lt sz357)
      have ne362 : o334 ≠ o354 := Nat.ne_of_lt (Nat.lt_of_lt_of_le A339.lt sz357)
      have gn363 : n0 ≤ o354 := Nat.le_trans Zs347 sz357
      have F364 := F344.keep Kc356
      have F365 := F345.keep Kc356 nin0
      have F366 := F346.keep Kc356 nin0
      have F367 := A339.keep Kc356
      have F368 := F348.keep Kc356 nin0
      have Zs369 := Nat.le_trans Zs347 Kc356.1
      have N370 := Fr.app N331 Nq355
      show Goes _ _ _ _ _ _ 49 _ [(.ref o354), (.ref o334), (.ref o334)]
      refine g_callN 52 rfl C X352 (argsL := [(.ref o354)]) rfl rfl (hw _ (List.mem_of_getElem? (i := 8) rfl)) (hw _ (List.mem_of_getElem? (i := 9) rfl)) (hw _ (List.mem_of_getElem? (i := 10) rfl)) (hw _ (List.mem_of_getElem? (i := 2) rfl)) rfl (rm2 l Z a0 hw [] o334 o354 (T350.heap) n0 Zs369 F367 F368 gn343) (lenOf pd_42138761 rfl) (by decide) (by decide) (by decide) (by decide) rfl (W := 1) (Nat.le_of_eq rfl) (by decide) at_49 rfl fun r371 T372 Lc373 X374 hQ375 => ?_
      obtain ⟨rfl, Nq376, Kc377, F378, F379⟩ := hQ375
      have F380 := F364.keep Kc377
      have F381 := F365.keep Kc377 (ninS ne342 nin0)
      have F382 := F366.keep Kc377 (ninS ne341 nin0)
      have F383 := F367.keep Kc377
      have F384 := B359.keep Kc377 (ninS (Ne.symm ne362) nin0)
      have Zs385 := Nat.le_trans Zs369 Kc377.1
      have N386 := Fr.app N370 Nq376
      show Goes _ _ _ _ _ _ 52 _ [(.ref o334)]
      refine g_astore 54 rfl C X374 #[.val (.int p0), .val (.int p1), .val (.int p2), .val (.int (1 : Int32)), .val (.int (0 : Int32)), .val (.ref o292), .val (.ref o334), .unset] at_52 rfl rfl ?_
      refine g_iloadN 55 rfl C X374 at_54 rfl ?_
      refine g_iload 57 rfl C X374 at_55 rfl ?_
      refine g_icmp_ne_t 64 C X374 at_57 (by decide) (by decide) (by decide) ?_
      refine g_iconst 65 rfl C X374 (0 : Int32) at_64 rfl ?_
      refine g_istore 67 rfl C X374 (0 : Int32) rfl #[.val (.int p0), .val (.int p1), .val (.int p2), .val (.int (1 : Int32)), .val (.int (0 : Int32)), .val (.ref o292), .val (.ref o334), .val (.int (0 : Int32))] at_65 rfl ?_
      refine g_aload 69 rfl C X374 at_67 rfl rfl ?_
      refine g_aload 71 rfl C X374 at_69 rfl rfl ?_
      refine g_callV 74 rfl C X374 (argsL := [(.ref o334)]) (hw _ (List.mem_of_getElem? (i := 16) rfl)) (hw _ (List.mem_of_getElem? (i := 17) rfl)) (hw _ (List.mem_of_getElem? (i := 19) rfl)) (hw _ (List.mem_of_getElem? (i := 18) rfl)) (hw _ (List.mem_of_getElem? (i := 20) rfl)) (hw _ (List.mem_of_getElem? (i := 2) rfl)) rfl F380 (rm4_16_4 l Z a0 hw [] o292 o334 o307 o354 f311 f358 (T372.heap) n0 Zs385 F382 F379 F381 F384) (lenOf pd_20686750 rfl) (by decide) (by decide) (by decide) (by decide) rfl (W := 0) (Nat.le_of_eq rfl) (by decide) at_71 rfl fun r387 T388 Lc389 X390 hQ391 => ?_
      obtain ⟨r392, rfl, hs393, Nq394, eh395⟩ := hQ391
      have N396 := Fr.app N386 Nq394
      show Goes _ _ _ _ _ _ 74 _ [(.int r392)]
      refine g_iload 76 rfl C X390 at_74 rfl ?_
      have fr397 := rng32 p0
      have fc398 : (1 : Int32).toInt = 1 := rfl
      have fo399 : (p0 &&& (1 : Int32)).toInt = p0.toInt % 2 := c_mask p0 (1 : Int32) 1 (by decide) (by decide)
      have fc400 : (2 : Int32).toInt = 2 := rfl
      have fc402 : (3 : Int32).toInt = 3 := rfl
      have fo403 : (p0 &&& (3 : Int32)).toInt = p0.toInt % 4 := c_mask p0 (3 : Int32) 2 (by decide) (by decide)
      have fo401 := own_blk p0 (2 : Int32) (1 : Int32) (3 : Int32) (by decide) (by decide)
      have fo404 := c_and p0 (2 : Int32) (by decide)
      have fr405 := rng32 (p0 &&& (2 : Int32))
      have fc406 : (0 : Int32).toInt = 0 := rfl
      have fr407 := rng32 r392
      have hb408 : r392.toInt = (0 : Int32).toInt := by omega
      refine g_icmp_ne_f 79 rfl C X390 at_76 hb408 ?_
      refine g_aload 81 rfl C X390 at_79 rfl rfl ?_
      refine g_aload 83 rfl C X390 at_81 rfl rfl ?_
      refine g_callV 86 rfl C X390 (argsL := [(.ref o292)]) (hw _ (List.mem_of_getElem? (i := 16) rfl)) (hw _ (List.mem_of_getElem? (i := 17) rfl)) (hw _ (List.mem_of_getElem? (i := 19) rfl)) (hw _ (List.mem_of_getElem? (i := 18) rfl)) (hw _ (List.mem_of_getElem? (i := 20) rfl)) (hw _ (List.mem_of_getElem? (i := 2) rfl)) eh395 F378 (rm4_4_16 l Z a0 hw [] o334 o292 o354 o307 f358 f311 (T372.heap) n0 Zs385 F379 F382 F384 F381) (lenOf pd_20686750 rfl) (by decide) (by decide) (by decide) (by decide) rfl (W := 0) (Nat.le_of_eq rfl) (by decide) at_83 rfl fun r409 T410 Lc411 X412 hQ413 => ?_
      obtain ⟨r414, rfl, hs415, Nq416, eh417⟩ := hQ413
      have N418 := Fr.app N396 Nq416
      show Goes _ _ _ _ _ _ 86 _ [(.int r414)]
      refine g_iload 88 rfl C X412 at_86 rfl ?_
      have fr419 := rng32 r414
      have hb420 : r414.toInt = (0 : Int32).toInt := by omega
      refine g_icmp_ne_f 91 rfl C X412 at_88 hb420 ?_
      refine g_aload 93 rfl C X412 at_91 rfl rfl ?_
      refine g_aload 95 rfl C X412 at_93 rfl rfl ?_
      refine g_callV 98 rfl C X412 (argsL := [(.ref o292)]) (hw _ (List.mem_of_getElem? (i := 16) rfl)) (hw _ (List.mem_of_getElem? (i := 17) rfl)) (hw _ (List.mem_of_getElem? (i := 19) rfl)) (hw _ (List.mem_of_getElem? (i := 18) rfl)) (hw _ (List.mem_of_getElem? (i := 20) rfl)) (hw _ (List.mem_of_getElem? (i := 2) rfl)) eh417 F380 (rm4_16_16 l Z a0 hw [] o292 o292 o307 o307 f311 f311 (T372.heap) n0 Zs385 F382 F382 F381 F381) (lenOf pd_20686750 rfl) (by decide) (by decide) (by decide) (by decide) rfl (W := 0) (Nat.le_of_eq rfl) (by decide) at_95 rfl fun r421 T422 Lc423 X424 hQ425 => ?_
      obtain ⟨r426, rfl, hs427, Nq428, eh429⟩ := hQ425
      have N430 := Fr.app N418 Nq428
      show Goes _ _ _ _ _ _ 98 _ [(.int r426)]
      have fr431 := rng32 r426
      have hb432 : ¬ (r426.toInt = 0) := by omega
      refine g_if_eq_f 101 rfl C X424 at_98 hb432 ?_
      refine g_iconst 102 rfl C X424 (1 : Int32) at_101 rfl ?_
      refine g_goto 106 C X424 at_102 (by decide) (by decide) ?_
      exact g_retN C X424 (z' := (1 : Int32)) rfl (Or.inl rfl) at_106 eh429 (by decide) (by decide) rfl ⟨rfl, N430⟩
    · skip
      refine g_if_eq_f 18 rfl C X0 at_15 hb289 ?_
      refine g_iconst 19 rfl C X0 (1 : Int32) at_18 rfl ?_
      refine g_goto 23 C X0 at_19 (by decide) (by decide) ?_
      refine g_istore 25 rfl C X0 (1 : Int32) rfl #[.val (.int p0), .val (.int p1), .val (.int p2), .val (.int (1 : Int32)), .val (.int (1 : Int32)), .unset, .unset, .unset] at_23 rfl ?_
      refine g_new 28 rfl C X0 (hw _ (List.mem_of_getElem? (i := 0) rfl)) (hw _ (List.mem_of_getElem? (i := 1) rfl)) (hw _ (List.mem_of_getElem? (i := 2) rfl)) e0 at_25 (by decide) (by decide) fun T433 h434 o435 g436 X437 e438 E439 A440 D441 => ?_
      have gn442 : n0 ≤ o435 := by rw [g436]; exact Z0
      have Zs443 := Nat.le_trans Z0 E439.1
      have F444 : Fld Z h434 o435 "com/example/bot_rules/botrules/model/IpAddress" "octets" "[B" .null := D441 (Or.inr (hw _ (List.mem_of_getElem? (i := 15) rfl))) (ty := (.array .byte)) (by decide)
      refine g_dup 29 rfl C X437 at_28 rfl ?_
      refine g_iloadN 30 rfl C X437 at_29 rfl ?_
      refine g_iloadN 31 rfl C X437 at_30 rfl ?_
      refine g_callS 34 rfl C X437 (argsL := [(.int (1 : Int32)), (.int p1)]) (hw _ (List.mem_of_getElem? (i := 3) rfl)) (hw _ (List.mem_of_getElem? (i := 4) rfl)) (hw _ (List.mem_of_getElem? (i := 6) rfl)) (hw _ (List.mem_of_getElem? (i := 5) rfl)) e438 (rm1_1 l Z a0 hw [] p1 h434 n0 Zs443) (lenOf pd_41415128 rfl) (by decide) (by decide) (by decide) (by decide) rfl (W := 2) (Nat.le_of_eq rfl) (by decide) at_31 rfl fun r445 T446 Lc447 X448 hQ449 => ?_
      obtain ⟨o450, rfl, Nq451, Kc452, sz453, f454, B455⟩ := hQ449
      have ne456 : o435 ≠ o450 := Nat.ne_of_lt (Nat.lt_of_lt_of_le A440.lt sz453)
      have gn457 : n0 ≤ o450 := Nat.le_trans Zs443 sz453
      have F458 := A440.keep Kc452
      have F459 := F444.keep Kc452 nin0
      have Zs460 := Nat.le_trans Zs443 Kc452.1
      have N461 := Fr.app N0 Nq451
      show Goes _ _ _ _ _ _ 34 _ [(.ref o450), (.ref o435), (.ref o435)]
      refine g_callN 37 rfl C X448 (argsL := [(.ref o450)]) rfl rfl (hw _ (List.mem_of_getElem? (i := 8) rfl)) (hw _ (List.mem_of_getElem? (i := 9) rfl)) (hw _ (List.mem_of_getElem? (i := 10) rfl)) (hw _ (List.mem_of_getElem? (i := 2) rfl)) rfl (rm2 l Z a0 hw [] o435 o450 (T446.heap) n0 Zs460 F458 F459 gn442) (lenOf pd_42138761 rfl) (by decide) (by decide) (by decide) (by decide) rfl (W := 1) (Nat.le_of_eq rfl) (by decide) at_34 rfl fun r462 T463 Lc464 X465 hQ466 => ?_
      obtain ⟨rfl, Nq467, Kc468, F469, F470⟩ := hQ466
      have F471 := F458.keep Kc468
      have F472 := B455.keep Kc468 (ninS (Ne.symm ne456) nin0)
      have Zs473 := Nat.le_trans Zs460 Kc468.1
      have N474 := Fr.app N461 Nq467
      show Goes _ _ _ _ _ _ 37 _ [(.ref o435)]
      refine g_astore 39 rfl C X465 #[.val (.int p0), .val (.int p1), .val (.int p2), .val (.int (1 : Int32)), .val (.int (1 : Int32)), .val (.ref o435), .unset, .unset] at_37 rfl rfl ?_
      refine g_new 42 rfl C X465 (hw _ (List.mem_of_getElem? (i := 0) rfl)) (hw _ (List.mem_of_getElem? (i := 1) rfl)) (hw _ (List.mem_of_getElem? (i := 2) rfl)) rfl at_39 (by decide) (by decide) fun T475 h476 o477 g478 X479 e480 E481 A482 D483 => ?_
      have ne484 : o435 ≠ o477 := by rw [g478]; exact Nat.ne_of_lt F469.lt
      have ne485 : o450 ≠ o477 := by rw [g478]; exact Nat.ne_of_lt F472.lt
      have gn486 : n0 ≤ o477 := by rw [g478]; exact Zs473
      have F487 := F469.ext E481
      have F488 := F472.ext E481
      have F489 := F470.ext E481
      have Zs490 := Nat.le_trans Zs473 E481.1
      have F491 : Fld Z h476 o477 "com/example/bot_rules/botrules/model/IpAddress" "octets" "[B" .null := D483 (Or.inr (hw _ (List.mem_of_getElem? (i := 15) rfl))) (ty := (.array .byte)) (by decide)
      refine g_dup 43 rfl C X479 at_42 rfl ?_
      refine g_iload 45 rfl C X479 at_43 rfl ?_
      refine g_iloadN 46 rfl C X479 at_45 rfl ?_
      refine g_callS 49 rfl C X479 (argsL := [(.int (1 : Int32)), (.int p2)]) (hw _ (List.mem_of_getElem? (i := 3) rfl)) (hw _ (List.mem_of_getElem? (i := 4) rfl)) (hw _ (List.mem_of_getElem? (i := 6) rfl)) (hw _ (List.mem_of_getElem? (i := 5) rfl)) e480 (rm1_1 l Z a0 hw [] p2 h476 n0 Zs490) (lenOf pd_41415128 rfl) (by decide) (by decide) (by decide) (by decide) rfl (W := 2) (Nat.le_of_eq rfl) (by decide) at_46 rfl fun r492 T493 Lc494 X495 hQ496 => ?_
      obtain ⟨o497, rfl, Nq498, Kc499, sz500, f501, B502⟩ := hQ496
      have ne503 : o435 ≠ o497 := Nat.ne_of_lt (Nat.lt_of_lt_of_le F487.lt sz500)
      have ne504 : o450 ≠ o497 := Nat.ne_of_lt (Nat.lt_of_lt_of_le F488.lt sz500)
      have ne505 : o477 ≠ o497 := Nat.ne_of_lt (Nat.lt_of_lt_of_le A482.lt sz500)
      have gn506 : n0 ≤ o497 := Nat.le_trans Zs490 sz500
      have F507 := F487.keep Kc499
      have F508 := F488.keep Kc499 nin0
      have F509 := F489.keep Kc499 nin0
      have F510 := A482.keep Kc499
      have F511 := F491.keep Kc499 nin0
      have Zs512 := Nat.le_trans Zs490 Kc499.1
      have N513 := Fr.app N474 Nq498
      show Goes _ _ _ _ _ _ 49 _ [(.ref o497), (.ref o477), (.ref o477)]
      refine g_callN 52 rfl C X495 (argsL := [(.ref o497)]) rfl rfl (hw _ (List.mem_of_getElem? (i := 8) rfl)) (hw _ (List.mem_of_getElem? (i := 9) rfl)) (hw _ (List.mem_of_getElem? (i := 10) rfl)) (hw _ (List.mem_of_getElem? (i := 2) rfl)) rfl (rm2 l Z a0 hw [] o477 o497 (T493.heap) n0 Zs512 F510 F511 gn486) (lenOf pd_42138761 rfl) (by decide) (by decide) (by decide) (by decide) rfl (W := 1) (Nat.le_of_eq rfl) (by decide) at_49 rfl fun r514 T515 Lc516 X517 hQ518 => ?_
      obtain ⟨rfl, Nq519, Kc520, F521, F522⟩ := hQ518
      have F523 := F507.keep Kc520
      have F524 := F508.keep Kc520 (ninS ne485 nin0)
      have F525 := F509.keep Kc520 (ninS ne484 nin0)
      have F526 := F510.keep Kc520
      have F527 := B502.keep Kc520 (ninS (Ne.symm ne505) nin0)
      have Zs528 := Nat.le_trans Zs512 Kc520.1
      have N529 := Fr.app N513 Nq519
      show Goes _ _ _ _ _ _ 52 _ [(.ref o477)]
      refine g_astore 54 rfl C X517 #[.val (.int p0), .val (.int p1), .val (.int p2), .val (.int (1 : Int32)), .val (.int (1 : Int32)), .val (.ref o435), .val (.ref o477), .unset] at_52 rfl rfl ?_
      refine g_iloadN 55 rfl C X517 at_54 rfl ?_
      refine g_iload 57 rfl C X517 at_55 rfl ?_
      refine g_icmp_ne_f 60 rfl C X517 at_57 (by decide) ?_
      refine g_iconst 61 rfl C X517 (1 : Int32) at_60 rfl ?_
      refine g_goto 65 C X517 at_61 (by decide) (by decide) ?_
      refine g_istore 67 rfl C X517 (1 : Int32) rfl #[.val (.int p0), .val (.int p1), .val (.int p2), .val (.int (1 : Int32)), .val (.int (1 : Int32)), .val (.ref o435), .val (.ref o477), .val (.int (1 : Int32))] at_65 rfl ?_
      refine g_aload 69 rfl C X517 at_67 rfl rfl ?_
      refine g_aload 71 rfl C X517 at_69 rfl rfl ?_
      refine g_callV 74 rfl C X517 (argsL := [(.ref o477)]) (hw _ (List.mem_of_getElem? (i := 16) rfl)) (hw _ (List.mem_of_getElem? (i := 17) rfl)) (hw _ (List.mem_of_getElem? (i := 19) rfl)) (hw _ (List.mem_of_getElem? (i := 18) rfl)) (hw _ (List.mem_of_getElem? (i := 20) rfl)) (hw _ (List.mem_of_getElem? (i := 2) rfl)) rfl F523 (rm4_16_16 l Z a0 hw [] o435 o477 o450 o497 f454 f501 (T515.heap) n0 Zs528 F525 F522 F524 F527) (lenOf pd_20686750 rfl) (by decide) (by decide) (by decide) (by decide) rfl (W := 0) (Nat.le_of_eq rfl) (by decide) at_71 rfl fun r530 T531 Lc532 X533 hQ534 => ?_
      obtain ⟨r535, rfl, hs536, Nq537, eh538⟩ := hQ534
      have N539 := Fr.app N529 Nq537
      show Goes _ _ _ _ _ _ 74 _ [(.int r535)]
      refine g_iload 76 rfl C X533 at_74 rfl ?_
      have fr540 := rng32 p0
      have fc541 : (1 : Int32).toInt = 1 := rfl
      have fo542 : (p0 &&& (1 : Int32)).toInt = p0.toInt % 2 := c_mask p0 (1 : Int32) 1 (by decide) (by decide)
      have fc543 : (2 : Int32).toInt = 2 := rfl
      have fc545 : (3 : Int32).toInt = 3 := rfl
      have fo546 : (p0 &&& (3 : Int32)).toInt = p0.toInt % 4 := c_mask p0 (3 : Int32) 2 (by decide) (by decide)
      have fo544 := own_blk p0 (2 : Int32) (1 : Int32) (3 : Int32) (by decide) (by decide)
      have fo547 := c_and p0 (2 : Int32) (by decide)
      have fr548 := rng32 (p0 &&& (2 : Int32))
      have fr549 := rng32 r535
      have hb550 : r535.toInt = (1 : Int32).toInt := by omega
      refine g_icmp_ne_f 79 rfl C X533 at_76 hb550 ?_
      refine g_aload 81 rfl C X533 at_79 rfl rfl ?_
      refine g_aload 83 rfl C X533 at_81 rfl rfl ?_
      refine g_callV 86 rfl C X533 (argsL := [(.ref o435)]) (hw _ (List.mem_of_getElem? (i := 16) rfl)) (hw _ (List.mem_of_getElem? (i := 17) rfl)) (hw _ (List.mem_of_getElem? (i := 19) rfl)) (hw _ (List.mem_of_getElem? (i := 18) rfl)) (hw _ (List.mem_of_getElem? (i := 20) rfl)) (hw _ (List.mem_of_getElem? (i := 2) rfl)) eh538 F521 (rm4_16_16 l Z a0 hw [] o477 o435 o497 o450 f501 f454 (T515.heap) n0 Zs528 F522 F525 F527 F524) (lenOf pd_20686750 rfl) (by decide) (by decide) (by decide) (by decide) rfl (W := 0) (Nat.le_of_eq rfl) (by decide) at_83 rfl fun r551 T552 Lc553 X554 hQ555 => ?_
      obtain ⟨r556, rfl, hs557, Nq558, eh559⟩ := hQ555
      have N560 := Fr.app N539 Nq558
      show Goes _ _ _ _ _ _ 86 _ [(.int r556)]
      refine g_iload 88 rfl C X554 at_86 rfl ?_
      have fr561 := rng32 r556
      have hb562 : r556.toInt = (1 : Int32).toInt := by omega
      refine g_icmp_ne_f 91 rfl C X554 at_88 hb562 ?_
      refine g_aload 93 rfl C X554 at_91 rfl rfl ?_
      refine g_aload 95 rfl C X554 at_93 rfl rfl ?_
      refine g_callV 98 rfl C X554 (argsL := [(.ref o435)]) (hw _ (List.mem_of_getElem? (i := 16) rfl)) (hw _ (List.mem_of_getElem? (i := 17) rfl)) (hw _ (List.mem_of_getElem? (i := 19) rfl)) (hw _ (List.mem_of_getElem? (i := 18) rfl)) (hw _ (List.mem_of_getElem? (i := 20) rfl)) (hw _ (List.mem_of_getElem? (i := 2) rfl)) eh559 F523 (rm4_16_16 l Z a0 hw [] o435 o435 o450 o450 f454 f454 (T515.heap) n0 Zs528 F525 F525 F524 F524) (lenOf pd_20686750 rfl) (by decide) (by decide) (by decide) (by decide) rfl (W := 0) (Nat.le_of_eq rfl) (by decide) at_95 rfl fun r563 T564 Lc565 X566 hQ567 => ?_
      obtain ⟨r568, rfl, hs569, Nq570, eh571⟩ := hQ567
      have N572 := Fr.app N560 Nq570
      show Goes _ _ _ _ _ _ 98 _ [(.int r568)]
      have fr573 := rng32 r568
      have hb574 : ¬ (r568.toInt = 0) := by omega
      refine g_if_eq_f 101 rfl C X566 at_98 hb574 ?_
      refine g_iconst 102 rfl C X566 (1 : Int32) at_101 rfl ?_
      refine g_goto 106 C X566 at_102 (by decide) (by decide) ?_
      exact g_retN C X566 (z' := (1 : Int32)) rfl (Or.inl rfl) at_106 eh571 (by decide) (by decide) rfl ⟨rfl, N572⟩
set_option maxRecDepth 65536 in
set_option maxHeartbeats 40000000 in
theorem comes_1 {Post : Tables → Env → Array Value → State → Outcome → State → Prop} (hpost : ∀ tb e args s v u, (limb_1_1.after args s (.returned v) u = true ∧ limb_1_2.after args s (.returned v) u = true ∧ True) → FrameEnd s (.returned v) u (Jvm.fieldLocs frame_1_writes args s ++ Jvm.arrayLocs frame_1_arrays args s ++ Jvm.staticLocs frame_1_statics s) 16 192 → Post tb e args s (.returned v) u) :
    ArmFor flags0 classFile x code maxLocals ret World_1 tables_1 room_1 Calls_1 rest_1 Pre_1 Post := by
  intro l hfl _ _ p e ha hc hk s m args below hf hA hF happ hP
  obtain ⟨hcalls, hrest, hpre⟩ := hP
  obtain ⟨-, -, -, hnamed, -, -, -, hat⟩ := (Spec.applies_iff hf).mp happ
  obtain ⟨hg, hn⟩ := and_e (Cond.before_iff.mp (show (Jvm.Cond.and given_1 narrow_1).before args s = true from hpre))
  obtain ⟨g1, g2⟩ := and_e hg
  obtain ⟨g3, g4⟩ := and_e g2
  obtain ⟨g5, g6⟩ := and_e g4
  obtain ⟨w0, w1, w2, rfl⟩ : ∃ w0 w1 w2 : Value, args = #[w0, w1, w2] := by
    have hs : args.size = 3 := by simpa [Cond.value, given_1] using g1
    obtain ⟨L⟩ := args
    match L, hs with
    | [w0, w1, w2], _ => exact ⟨w0, w1, w2, rfl⟩
  have hw := fun d (hd : d ∈ tables_1) => atoms_spec (ws := Jvm.Cond.code x code maxLocals ret :: tables_1) hat d (List.mem_cons_of_mem _ hd)
  obtain ⟨i0, ei0⟩ := is_v g3
  obtain rfl : w0 = (.int i0) := Option.some.inj ei0
  obtain ⟨i1, ei1⟩ := is_v g5
  obtain rfl : w1 = (.int i1) := Option.some.inj ei1
  obtain ⟨i2, ei2⟩ := is_v g6
  obtain rfl : w2 = (.int i2) := Option.some.inj ei2
  obtain ⟨n, o, h1, h2, h3, _, L, rfl, ⟨rfl, N⟩, hq⟩ := rm0 l s _ hw tables_1 i0 i1 i2 s.heap s.heap.size (Nat.le_refl _) p e ha hc hk s m _ below hf ((Spec.applies_iff_loose hf).mp happ).1 ⟨rfl, State.Warmed39.refl s, rfl⟩ trivial
  refine ⟨n, _, h1, h2, h3, hpost _ _ _ _ _ _ ⟨Cond.after_iff.mpr rfl, Cond.after_iff.mpr (eq_i res_at (Term.int_eval (1)) rfl), trivial⟩ ⟨hq.1, hq.2.1, (hq.2.2.sift fun y hy => Or.inr (N y hy)).mono (by decide) (by decide)⟩⟩
theorem main_1_1 : Claimed_1_1 := comes_1 fun _ _ _ _ _ _ h hF => ⟨h.1, hF⟩
theorem main_1_2 : Claimed_1_2 := comes_1 fun _ _ _ _ _ _ h hF => ⟨h.2.1, hF⟩
end Jvm.Pilot.@@N@@
namespace Jvm.Pilot.@@N@@
open Jvm Jvm.ClassFile Sem Op Lib Jvm.Free Jvm.Stand Jvm.Pilot.@@N@@.Jvm.D
/-! MADE BY PROGRAM (witnessworld.py) out of the Statement's table words and the real class files: 10 classes; the members and pool entries that the words name. The judged class is class 1, her method 2. -/
namespace start1
open Jvm.ClassFile
def u (s : String) : CpInfo := .utf8 (stringToUtf16 s)
/-- a pool by its gaps: so many unusable entries, then the entry; so many at the end -/
def gap : Nat → List CpInfo → List CpInfo
  | 0, r => r
  | n + 1, r => .unusable :: gap n r
def poolList (es : List (Nat × CpInfo)) (last : Nat) : List CpInfo := es.foldr (fun e r => gap e.1 (e.2 :: r)) (gap last [])
def pool (es : List (Nat × CpInfo)) (last : Nat) : Array CpInfo := ⟨poolList es last⟩
def fileOf (pool : Array CpInfo) (this : Nat) (attrs : Array Attribute := #[]) (ms : Array MethodInfo := #[]) (fl : Nat := 33) (sup : Nat := 0) (ifs : Array Nat := #[]) (fds : Array FieldInfo := #[]) : ClassFile where
  minorVersion := 0
  majorVersion := 65
  constantPool := pool
  accessFlags := fl
  thisClass := this
  superClass := sup
  interfaces := ifs
  fields := fds
  methods := ms
  attributes := attrs
def plain (name : String) (sup : Option ClassId) : Class where
  name := name
  kind := .ordinary
  loader := none
  accessFlags := 33
  super := sup
  interfaces := #[]
  cf := none
  fields := #[]
  methods := #[]
  instanceTypes := #[]
  staticTypes := #[]
  resolved := #[]
  callSites := []
  init := .initialized
  statics := none
  mirror := none

def pool0 : Array CpInfo := pool [(5, u "<init>"), (0, u "()V"), (1, .class_ 10), (1, u "java/lang/Object")] 113

def k0c0 : Code := { maxStack := 0, maxLocals := 1, code := object_method_1_code, exceptionTable := #[], attributes := #[] }
def k0m0 : Method := { name := "<init>", desc := "()V", sig := { parameters := [], returnType := none }, accessFlags := 1, code := some k0c0 }
/-- java/lang/Object -/
def k0 : Class := { plain "java/lang/Object" none with
  accessFlags := 33
  interfaces := #[]
  cf := some (fileOf pool0 8 #[] #[{ accessFlags := 1, nameIndex := 5, descriptorIndex := 6, attributes := #[] }] 33 0 #[] #[])
  fields := #[]
  methods := #[k0m0]
  instanceTypes := #[]
  staticTypes := #[]
  resolved := Array.replicate 124 none
  statics := none }

def pool1 : Array CpInfo := pool [(2, .class_ 4), (1, u "java/lang/Object"), (0, u "<init>"), (0, u "()V"), (0, .class_ 8), (0, u "com/example/bot_rules/botrules/model/IpAddress"), (0, .methodref 10 11), (0, .class_ 12), (0, .nameAndType 13 14), (0, u "com/example/bot_rules/botrules/model/IpAddressIsSameKindPinLaw"), (0, u "octets"), (0, u "(ZI)[B"), (0, .methodref 7 16), (0, .nameAndType 5 17), (0, u "([B)V"), (0, .methodref 7 19), (0, .nameAndType 20 21), (0, u "isSameKind"), (0, u "(Lcom/example/bot_rules/botrules/model/IpAddress;)Z"), (5, u "law"), (0, u "(III)Z")] 2

def k1m0 : Method := { name := "<init>", desc := "()V", sig := { parameters := [], returnType := none }, accessFlags := 2, code := none }
def k1c1 : Code := { maxStack := 4, maxLocals := 3, code := method_2_code, exceptionTable := #[], attributes := #[] }
def k1m1 : Method := { name := "octets", desc := "(ZI)[B", sig := { parameters := [.boolean, .int], returnType := some (.array .byte) }, accessFlags := 10, code := some k1c1 }
def k1c2 : Code := { maxStack := 4, maxLocals := 8, code := code, exceptionTable := #[], attributes := #[] }
def k1m2 : Method := { name := "law", desc := "(III)Z", sig := { parameters := [.int, .int, .int], returnType := some .boolean }, accessFlags := 9, code := some k1c2 }
/-- com/example/bot_rules/botrules/model/IpAddressIsSameKindPinLaw -/
def k1 : Class := { plain "com/example/bot_rules/botrules/model/IpAddressIsSameKindPinLaw" (some 0) with
  accessFlags := 49
  interfaces := #[]
  cf := some (fileOf pool1 10 #[] #[{ accessFlags := 2, nameIndex := 5, descriptorIndex := 6, attributes := #[] }, { accessFlags := 10, nameIndex := 13, descriptorIndex := 14, attributes := #[] }, { accessFlags := 9, nameIndex := 27, descriptorIndex := 28, attributes := #[] }] 49 2 #[] #[])
  fields := #[]
  methods := #[k1m0, k1m1, k1m2]
  instanceTypes := #[]
  staticTypes := #[]
  resolved := Array.replicate 31 none
  statics := none }

def pool2 : Array CpInfo := pool [(1, .class_ 2), (0, u "java/lang/Comparable"), (0, .class_ 4), (0, u "java/lang/Object")] 7

/-- java/lang/Comparable -/
def k2 : Class := { plain "java/lang/Comparable" (some 0) with
  accessFlags := 1537
  interfaces := #[]
  cf := some (fileOf pool2 1 #[] #[] 1537 3 #[] #[])
  fields := #[]
  methods := #[]
  instanceTypes := #[]
  staticTypes := #[]
  resolved := Array.replicate 12 none
  statics := none }

def pool3 : Array CpInfo := pool [(1, .methodref 2 3), (0, .class_ 4), (0, .nameAndType 5 6), (0, u "java/lang/Object"), (0, u "<init>"), (0, u "()V"), (0, .fieldref 8 9), (0, .class_ 10), (0, .nameAndType 11 12), (0, u "com/example/bot_rules/botrules/model/IpAddress"), (0, u "octets"), (0, u "[B"), (32, u "([B)V"), (157, .class_ 204), (0, u "java/lang/Comparable"), (0, u "IPV4_OCTETS"), (0, u "I"), (2, u "IPV6_OCTETS"), (1, u "IPV6_GROUPS"), (1, u "MAX_OCTET"), (1, u "MAX_GROUP_DIGITS"), (9, u "isSameKind"), (0, u "(Lcom/example/bot_rules/botrules/model/IpAddress;)Z")] 24

def k3c0 : Code := { maxStack := 2, maxLocals := 2, code := prog_33_method_1_code, exceptionTable := #[], attributes := #[] }
def k3m0 : Method := { name := "<init>", desc := "([B)V", sig := { parameters := [(.array .byte)], returnType := none }, accessFlags := 0, code := some k3c0 }
def k3c1 : Code := { maxStack := 2, maxLocals := 2, code := prog_33_method_10_code, exceptionTable := #[], attributes := #[] }
def k3m1 : Method := { name := "isSameKind", desc := "(Lcom/example/bot_rules/botrules/model/IpAddress;)Z", sig := { parameters := [(.object "com/example/bot_rules/botrules/model/IpAddress")], returnType := some .boolean }, accessFlags := 1, code := some k3c1 }
/-- com/example/bot_rules/botrules/model/IpAddress -/
def k3 : Class := { plain "com/example/bot_rules/botrules/model/IpAddress" (some 0) with
  accessFlags := 49
  interfaces := #[2]
  cf := some (fileOf pool3 8 #[] #[{ accessFlags := 0, nameIndex := 5, descriptorIndex := 45, attributes := #[] }, { accessFlags := 1, nameIndex := 225, descriptorIndex := 226, attributes := #[] }] 49 2 #[203] #[{ accessFlags := 26, nameIndex := 205, descriptorIndex := 206, attributes := #[] }, { accessFlags := 26, nameIndex := 209, descriptorIndex := 206, attributes := #[] }, { accessFlags := 26, nameIndex := 211, descriptorIndex := 206, attributes := #[] }, { accessFlags := 26, nameIndex := 213, descriptorIndex := 206, attributes := #[] }, { accessFlags := 26, nameIndex := 215, descriptorIndex := 206, attributes := #[] }, { accessFlags := 18, nameIndex := 11, descriptorIndex := 12, attributes := #[] }])
  fields := #[{ name := "IPV4_OCTETS", type := .int, accessFlags := 26, slot := 0, constantValue := 0 }, { name := "IPV6_OCTETS", type := .int, accessFlags := 26, slot := 1, constantValue := 0 }, { name := "IPV6_GROUPS", type := .int, accessFlags := 26, slot := 2, constantValue := 0 }, { name := "MAX_OCTET", type := .int, accessFlags := 26, slot := 3, constantValue := 0 }, { name := "MAX_GROUP_DIGITS", type := .int, accessFlags := 26, slot := 4, constantValue := 0 }, { name := "octets", type := (.array .byte), accessFlags := 18, slot := 0, constantValue := 0 }]
  methods := #[k3m0, k3m1]
  instanceTypes := #[(.array .byte)]
  staticTypes := #[.int, .int, .int, .int, .int]
  resolved := Array.replicate 251 none
  statics := none }

def pool4 : Array CpInfo := pool [(1, u "java/lang/Cloneable"), (0, .class_ 1), (0, u "java/lang/Object"), (0, .class_ 3)] 3

/-- java/lang/Cloneable -/
def k4 : Class := { plain "java/lang/Cloneable" (some 0) with
  accessFlags := 1537
  interfaces := #[]
  cf := some (fileOf pool4 2 #[] #[] 1537 4 #[] #[])
  fields := #[]
  methods := #[]
  instanceTypes := #[]
  staticTypes := #[]
  resolved := Array.replicate 8 none
  statics := none }

def pool5 : Array CpInfo := pool [(1, u "java/io/Serializable"), (0, .class_ 1), (0, u "java/lang/Object"), (0, .class_ 3)] 3

/-- java/io/Serializable -/
def k5 : Class := { plain "java/io/Serializable" (some 0) with
  accessFlags := 1537
  interfaces := #[]
  cf := some (fileOf pool5 2 #[] #[] 1537 4 #[] #[])
  fields := #[]
  methods := #[]
  instanceTypes := #[]
  staticTypes := #[]
  resolved := Array.replicate 8 none
  statics := none }

/-- the primitive byte -/
def k6 : Class := { plain "byte" none with kind := .primitive 'B', accessFlags := 0x411 }
/-- [B -/
def k7 : Class := { plain "[B" (some 0) with kind := .array 6 .byte, interfaces := #[4, 5], accessFlags := 1041 }

/-- the primitive int -/
def k8 : Class := { plain "int" none with kind := .primitive 'I', accessFlags := 0x411 }
/-- [I -/
def k9 : Class := { plain "[I" (some 0) with kind := .array 8 .int, interfaces := #[4, 5], accessFlags := 1041 }

def heap : Heap := #[]
def classes : Array Class := #[k0, k1, k2, k3, k4, k5, k6, k7, k8, k9]
def interned : List (Array UInt16 × Addr) := []
def slotsUsed : Nat := 0
def theMethod : MethodId := ⟨1, 2⟩
def args0 : Array Value := #[.int 5, .int 7, .int 9]
def aboutOver (below : List Frame) : State where
  vm := { classes := classes, interned := interned.toArray }
  heap := heap
  slotsUsed := slotsUsed
  threads := #[{ frames := .invoking theMethod args0 :: below }]
def below0 : List Frame := [.native { method := ⟨0, 0⟩, args := #[] }]
def about1 : State := aboutOver below0
def p0 : Program := .bare "" "" ""
def e0 : Env := launch0.env 0 0 0
theorem w_frames : about1.frames = Frame.invoking theMethod args0 :: below0 := rfl
set_option maxRecDepth 65536 in
theorem w_args : argsFit about1.vm theMethod args0 = true := by decide +kernel
set_option maxRecDepth 65536 in
theorem w_heap : heapFits about1 = true := by decide +kernel
set_option maxRecDepth 65536 in
theorem w_runnable : about1.curStatus? = some .runnable := by decide +kernel
set_option maxRecDepth 65536 in
theorem w_alone : about1.alone = true := by decide +kernel
set_option maxRecDepth 65536 in
theorem w_named : about1.methodNamed? x = some theMethod := by decide +kernel
set_option maxRecDepth 65536 in
theorem w_hears : about1.hears theMethod below0 = true := by decide +kernel
set_option maxRecDepth 65536 in
theorem w_ripe : about1.ripe theMethod args0 below0 = true := by decide +kernel
theorem w_running : about1.status = .running := rfl
set_option maxRecDepth 65536 in
theorem w_room : about1.hasRoom e0.platform room_1 = true :=
  launch0.hasRoom_least _ room_1 (by decide +kernel) (by decide +kernel) (by decide +kernel) (by decide +kernel) (by decide +kernel) (by decide +kernel)
theorem allAtoms_all (ts : List Jvm.Cond) (a : Array Jvm.Value) (st : Jvm.State) : (allAtoms ts).before a st = ts.all (fun c => c.before a st) := by
  induction ts with
  | nil => rfl
  | cons c t ih =>
    show (Jvm.Cond.and c (allAtoms t)).before a st = _
    rw [Jvm.Cond.before_and, ih, List.all_cons]
def words1 : List Jvm.Cond := Jvm.Cond.code x code maxLocals ret :: tables_1
/-- a 'code' word, met by the world's own term for the bytes: nothing is compared byte by byte -/
theorem code_word {y : MethodName} {bytes : ByteArray} {mx : Nat} {rt : Option FieldType} {a : Array Value} {s : State} {m : MethodId} {meth : Method} {c : Code} (h1 : s.methodNamed? y = some m) (h2 : s.vm.method? m = some meth) (h3 : meth.code = some c) (h4 : c.code = bytes)
    (h5 : (c.maxLocals == mx && c.exceptionTable.isEmpty && decide (c.maxStack ≤ mostOperands) && decide (meth.sig.returnType = rt) && !meth.locks && decide (parseMethodDescriptor y.desc = some meth.sig)) = true) : (Jvm.Cond.code y bytes mx rt).before a s = true := by
  simp only [Bool.and_eq_true, beq_iff_eq, Bool.not_eq_true', decide_eq_true_eq] at h5
  obtain ⟨⟨⟨⟨⟨g1, g2⟩, g3⟩, g4⟩, g5⟩, g6⟩ := h5
  simp [Cond.before, Cond.holds, Cond.value, h1, h2, h3, h4, g1, g2, g3, g4, g5, g6]
def isCode : Jvm.Cond → Bool
  | .code _ _ _ _ => true
  | _ => false
theorem all_split {L : List Jvm.Cond} {P : Jvm.Cond → Bool} (h1 : L.all (fun c => isCode c || P c) = true) (h2 : ∀ c ∈ L.filter isCode, P c = true) : L.all P = true := by
  refine List.all_eq_true.mpr fun c hc => ?_
  have h := List.all_eq_true.mp h1 c hc
  rcases Bool.eq_false_or_eq_true (isCode c) with hi | hi
  · exact h2 c (List.mem_filter.mpr ⟨hc, hi⟩)
  · simpa [hi] using h
set_option maxRecDepth 65536 in
theorem w_c0 : (Jvm.Cond.code x code maxLocals ret).before args0 about1 = true := code_word (m := ⟨1, 2⟩) (meth := k1m2) (c := k1c2) (by decide +kernel) rfl rfl rfl (by decide +kernel)
set_option maxRecDepth 65536 in
theorem w_c1 : (Jvm.Cond.code ({ cls := "com/example/bot_rules/botrules/model/IpAddressIsSameKindPinLaw", name := "octets", desc := "(ZI)[B" } : Jvm.MethodName) method_2_code (3 : Nat) (Option.some (Jvm.ClassFile.FieldType.array Jvm.ClassFile.FieldType.byte))).before args0 about1 = true := code_word (m := ⟨1, 1⟩) (meth := k1m1) (c := k1c1) (by decide +kernel) rfl rfl rfl (by decide +kernel)
set_option maxRecDepth 65536 in
theorem w_c2 : (Jvm.Cond.code ({ cls := "com/example/bot_rules/botrules/model/IpAddress", name := "<init>", desc := "([B)V" } : Jvm.MethodName) prog_33_method_1_code (2 : Nat) (Option.none : Option Jvm.ClassFile.FieldType)).before args0 about1 = true := code_word (m := ⟨3, 0⟩) (meth := k3m0) (c := k3c0) (by decide +kernel) rfl rfl rfl (by decide +kernel)
set_option maxRecDepth 65536 in
theorem w_c3 : (Jvm.Cond.code ({ cls := "java/lang/Object", name := "<init>", desc := "()V" } : Jvm.MethodName) object_method_1_code (1 : Nat) (Option.none : Option Jvm.ClassFile.FieldType)).before args0 about1 = true := code_word (m := ⟨0, 0⟩) (meth := k0m0) (c := k0c0) (by decide +kernel) rfl rfl rfl (by decide +kernel)
set_option maxRecDepth 65536 in
theorem w_c4 : (Jvm.Cond.code ({ cls := "com/example/bot_rules/botrules/model/IpAddress", name := "isSameKind", desc := "(Lcom/example/bot_rules/botrules/model/IpAddress;)Z" } : Jvm.MethodName) prog_33_method_10_code (2 : Nat) (Option.some Jvm.ClassFile.FieldType.boolean)).before args0 about1 = true := code_word (m := ⟨3, 1⟩) (meth := k3m1) (c := k3c1) (by decide +kernel) rfl rfl rfl (by decide +kernel)
def codes1 : List Jvm.Cond := [Jvm.Cond.code x code maxLocals ret, Jvm.Cond.code ({ cls := "com/example/bot_rules/botrules/model/IpAddressIsSameKindPinLaw", name := "octets", desc := "(ZI)[B" } : Jvm.MethodName) method_2_code (3 : Nat) (Option.some (Jvm.ClassFile.FieldType.array Jvm.ClassFile.FieldType.byte)), Jvm.Cond.code ({ cls := "com/example/bot_rules/botrules/model/IpAddress", name := "<init>", desc := "([B)V" } : Jvm.MethodName) prog_33_method_1_code (2 : Nat) (Option.none : Option Jvm.ClassFile.FieldType), Jvm.Cond.code ({ cls := "java/lang/Object", name := "<init>", desc := "()V" } : Jvm.MethodName) object_method_1_code (1 : Nat) (Option.none : Option Jvm.ClassFile.FieldType), Jvm.Cond.code ({ cls := "com/example/bot_rules/botrules/model/IpAddress", name := "isSameKind", desc := "(Lcom/example/bot_rules/botrules/model/IpAddress;)Z" } : Jvm.MethodName) prog_33_method_10_code (2 : Nat) (Option.some Jvm.ClassFile.FieldType.boolean)]
set_option maxRecDepth 65536 in
theorem codes_eq : words1.filter isCode = codes1 := rfl
theorem w_codes : ∀ c ∈ words1.filter isCode, c.before args0 about1 = true := by
  rw [codes_eq]
  intro c hc
  simp only [codes1, List.mem_cons, List.not_mem_nil, or_false] at hc
  rcases hc with rfl | rfl | rfl | rfl | rfl
  · exact w_c0
  · exact w_c1
  · exact w_c2
  · exact w_c3
  · exact w_c4
set_option maxRecDepth 65536 in
theorem w_t1 : words1.all (fun c => isCode c || c.before args0 about1) = true := by decide +kernel
theorem w_tables : (allAtoms (Jvm.Cond.code x code maxLocals ret :: tables_1)).before args0 about1 = true := by
  rw [allAtoms_all]
  show words1.all (fun c => c.before args0 about1) = true
  refine all_split ?_ w_codes
  rw [w_t1]
set_option maxRecDepth 65536 in
theorem w_case : (Jvm.Cond.and given_1 narrow_1).before args0 about1 = true := by decide +kernel
theorem w_applies : (headSpec (Jvm.Cond.code x code maxLocals ret :: tables_1) room_1).applies x e0.platform about1 = true :=
  (Spec.applies_iff w_frames).mpr ⟨w_running, w_runnable, w_alone, w_named, w_hears, w_ripe, w_room, w_tables⟩
theorem atStart : AtStart classFile x code maxLocals ret World_1 tables_1 room_1 Calls_1 rest_1 Pre_1 launch0 p0 e0 about1 theMethod args0 below0 :=
  ⟨lists_1, trivial, launch0.admits_env _ _ _, launch0.least_env, fairChoices_fair.cas, fairChoices_fair.clock, w_frames, w_args, w_heap, w_applies, trivial, trivial, w_case⟩
end start1
theorem witness_1 : WitnessClaimed_1 := ⟨start1.p0, start1.e0, start1.about1, start1.theMethod, start1.args0, start1.below0, start1.atStart⟩
end Jvm.Pilot.@@N@@
