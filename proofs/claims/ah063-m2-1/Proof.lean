import JvmDerived
import JvmDerived.Pilot.@@N@@Statement
import JvmDerived.Pilot.@@N@@Code
set_option linter.unusedVariables false
set_option linter.unusedSimpArgs false
namespace Jvm.Pilot.@@N@@
open Jvm Jvm.ClassFile Sem Op Lib Jvm.Free Jvm.Stand Jvm.LawKit Jvm.RoadKit Bundle Jvm.Pilot.@@N@@.Jvm.D
section Own
set_option maxHeartbeats 4000000
variable {p : Program} {l : Launch} {e : Env} {R : Room} {s : State} {m : MethodId} {args : Array Value} {below : List Frame} {meth : Method} {c : Code} {T : State} {locs : List Loc} {cells slots : Nat} {Z : State} {a0 : Array Value} {h : Heap} {own nm : String} {bytes : ByteArray} {ml : Nat} {rt : Option FieldType} {Q : Option Value → Heap → List Loc → Prop} {CC SS : Nat} {E : Outcome → State → Prop} {pc : Nat} {Ls : Array Slot} {St : List Value}
def Ctx (p : Program) (s : State) (m : MethodId) (meth : Method) (c : Code) (Z : State) (own nm : String) (bytes : ByteArray) (ml : Nat) (rt : Option FieldType) : Prop :=
  p.tables.exec = Jvm.exec ∧ Z.Warmed39 s.vm ∧ c.code = bytes ∧ c.maxLocals = ml ∧ s.vm.findClass own = some m.cls ∧ meth.locks = false ∧ meth.sig.returnType = rt ∧ meth.name = nm
theorem Ctx.c_x (C : Ctx p s m meth c Z own nm bytes ml rt) : p.tables.exec = Jvm.exec := C.1
theorem Ctx.c_z (C : Ctx p s m meth c Z own nm bytes ml rt) : Z.Warmed39 s.vm := C.2.1
theorem Ctx.c_by (C : Ctx p s m meth c Z own nm bytes ml rt) : c.code = bytes := C.2.2.1
theorem Ctx.c_ml (C : Ctx p s m meth c Z own nm bytes ml rt) : c.maxLocals = ml := C.2.2.2.1
theorem Ctx.c_own (C : Ctx p s m meth c Z own nm bytes ml rt) : s.vm.findClass own = some m.cls := C.2.2.2.2.1
theorem Ctx.c_lk (C : Ctx p s m meth c Z own nm bytes ml rt) : meth.locks = false := C.2.2.2.2.2.1
theorem Ctx.c_rt (C : Ctx p s m meth c Z own nm bytes ml rt) : meth.sig.returnType = rt := C.2.2.2.2.2.2.1
theorem Ctx.c_nm (C : Ctx p s m meth c Z own nm bytes ml rt) : meth.name = nm := C.2.2.2.2.2.2.2
def EndN (s : State) (Q : Option Value → Heap → List Loc → Prop) (CC SS : Nat) (o : Outcome) (t : State) : Prop := ∃ v L, o = .returned v ∧ Q v t.heap L ∧ FrameEnd s o t L CC SS
def Goes (p : Program) (e : Env) (below : List Frame) (E : Outcome → State → Prop) (T : State) (m : MethodId) (pc : Nat) (Ls : Array Slot) (St : List Value) : Prop :=
  ∃ s₂ o, Steps p.tables e below (T.setTop (mkF m pc Ls St)) s₂ ∧ s₂.status = .running ∧ Ended s₂ below o ∧ E o s₂
theorem Goes.back {T' : State} {q : Nat} {Ls' : Array Slot} {St' : List Value} (k : Goes p e below E T' m q Ls' St') (f : ∀ t, Steps p.tables e below (T'.setTop (mkF m q Ls' St')) t → Steps p.tables e below (T.setTop (mkF m pc Ls St)) t) : Goes p e below E T m pc Ls St := by
  obtain ⟨s2, o, h1, h2⟩ := k
  exact ⟨s2, o, f _ h1, h2⟩
theorem Goes.enter {g : JFrame} (hg : g = mkF m 0 Ls []) (k : Goes p e below (EndN s Q CC SS) T m 0 Ls []) : ∃ s₂ o, Steps p.tables e below (T.setTop g) s₂ ∧ s₂.status = .running ∧ Ended s₂ below o ∧ ∃ v L, o = .returned v ∧ Q v s₂.heap L ∧ FrameEnd s o s₂ L CC SS := by
  subst hg
  exact k
theorem Ctx.of {x : MethodName} {S : Spec} {s₁ : State} (Bd : BodyLoose p l x S bytes ml rt e s m args below meth c s₁) (hml : c.maxLocals = ml) (hZ : Z.Warmed39 s.vm) : Ctx p s m meth c Z x.cls x.name bytes ml rt :=
  ⟨Bd.exec, hZ, Bd.bytes, hml, findClass_of_methodNamed Bd.named, Bd.notSynchronized, Bd.returns, (name_of_methodNamed Bd.named Bd.method).1⟩
theorem g_isub (q : Nat) (hq : pc + 1 = q) (C : Ctx p s m meth c Z own nm bytes ml rt) (X : Stand p l e R s m args below meth c T locs cells slots) {x y : Int32} (hd : decode bytes pc = .ok (.isub, 1)) (k : Goes p e below E T m q Ls (.int (x - y) :: St)) : Goes p e below E T m pc Ls (.int y :: .int x :: St) := by
  subst hq
  exact k.back fun t kt => XS.isub (g := mkF m pc Ls (.int y :: .int x :: St)) X.here C.c_x rfl (hb C.c_by hd) rfl kt
theorem g_lmul (q : Nat) (hq : pc + 1 = q) (C : Ctx p s m meth c Z own nm bytes ml rt) (X : Stand p l e R s m args below meth c T locs cells slots) {x y : Int64} (hd : decode bytes pc = .ok (.lmul, 1)) (k : Goes p e below E T m q Ls (.long (x * y) :: St)) : Goes p e below E T m pc Ls (.long y :: .long x :: St) := by
  subst hq
  exact k.back fun t kt => XS.lmul (g := mkF m pc Ls (.long y :: .long x :: St)) X.here C.c_x rfl (hb C.c_by hd) rfl kt
theorem g_idiv (q : Nat) (hq : pc + 1 = q) (C : Ctx p s m meth c Z own nm bytes ml rt) (X : Stand p l e R s m args below meth c T locs cells slots) {x y : Int32} (hd : decode bytes pc = .ok (.idiv, 1)) (hy : y ≠ 0) (k : Goes p e below E T m q Ls (.int (x / y) :: St)) : Goes p e below E T m pc Ls (.int y :: .int x :: St) := by
  subst hq
  exact k.back fun t kt => XS.idiv (g := mkF m pc Ls (.int y :: .int x :: St)) X.here C.c_x rfl (hb C.c_by hd) rfl hy kt
theorem g_irem (q : Nat) (hq : pc + 1 = q) (C : Ctx p s m meth c Z own nm bytes ml rt) (X : Stand p l e R s m args below meth c T locs cells slots) {x y : Int32} (hd : decode bytes pc = .ok (.irem, 1)) (hy : y ≠ 0) (k : Goes p e below E T m q Ls (.int (x % y) :: St)) : Goes p e below E T m pc Ls (.int y :: .int x :: St) := by
  subst hq
  exact k.back fun t kt => XS.irem (g := mkF m pc Ls (.int y :: .int x :: St)) X.here C.c_x rfl (hb C.c_by hd) rfl hy (by rw [irem_eq_mod]; exact kt)
theorem g_i2l (q : Nat) (hq : pc + 1 = q) (C : Ctx p s m meth c Z own nm bytes ml rt) (X : Stand p l e R s m args below meth c T locs cells slots) {x : Int32} (hd : decode bytes pc = .ok (.i2l, 1)) (k : Goes p e below E T m q Ls (.long x.toInt64 :: St)) : Goes p e below E T m pc Ls (.int x :: St) := by
  subst hq
  exact k.back fun t kt => XS.i2l (g := mkF m pc Ls (.int x :: St)) X.here C.c_x rfl (hb C.c_by hd) rfl kt
theorem g_lcmp (q : Nat) (hq : pc + 1 = q) (C : Ctx p s m meth c Z own nm bytes ml rt) (X : Stand p l e R s m args below meth c T locs cells slots) {x y : Int64} (hd : decode bytes pc = .ok (.lcmp, 1)) (k : Goes p e below E T m q Ls (.int (lcmpW x y) :: St)) : Goes p e below E T m pc Ls (.long y :: .long x :: St) := by
  subst hq
  exact k.back fun t kt => XS.lcmp (g := mkF m pc Ls (.long y :: .long x :: St)) X.here C.c_x rfl (hb C.c_by hd) rfl kt
theorem g_iconst (q : Nat) (hq : pc + 1 = q) (C : Ctx p s m meth c Z own nm bytes ml rt) (X : Stand p l e R s m args below meth c T locs cells slots) {i : Int} (v : Int32) (hd : decode bytes pc = .ok (.iconst i, 1)) (hv : Int32.ofInt i = v) (k : Goes p e below E T m q Ls (.int v :: St)) : Goes p e below E T m pc Ls St := by
  subst hq
  exact k.back fun t kt => XS.iconst (g := mkF m pc Ls St) X.here C.c_x rfl (hb C.c_by hd) (by subst hv; exact kt)
theorem g_bipush (q : Nat) (hq : pc + 2 = q) (C : Ctx p s m meth c Z own nm bytes ml rt) (X : Stand p l e R s m args below meth c T locs cells slots) {i : Int} (v : Int32) (hd : decode bytes pc = .ok (.bipush i, 2)) (hv : (Int8.ofInt i).toInt32 = v) (k : Goes p e below E T m q Ls (.int v :: St)) : Goes p e below E T m pc Ls St := by
  subst hq
  exact k.back fun t kt => XS.bipush (g := mkF m pc Ls St) X.here C.c_x rfl (hb C.c_by hd) (by subst hv; exact kt)
theorem g_iloadN (q : Nat) (hq : pc + 1 = q) (C : Ctx p s m meth c Z own nm bytes ml rt) (X : Stand p l e R s m args below meth c T locs cells slots) {k0 : Fin 4} {v : Int32} (hd : decode bytes pc = .ok (.iload_n k0, 1)) (hl : Ls[k0.val]? = some (.val (.int v))) (k : Goes p e below E T m q Ls (.int v :: St)) : Goes p e below E T m pc Ls St := by
  subst hq
  exact k.back fun t kt => XS.iloadN (g := mkF m pc Ls St) X.here C.c_x rfl (hb C.c_by hd) hl kt
theorem g_istoreN (q : Nat) (hq : pc + 1 = q) (C : Ctx p s m meth c Z own nm bytes ml rt) (X : Stand p l e R s m args below meth c T locs cells slots) {k0 : Fin 4} {x : Int32} (v : Int32) (hv : x = v) (Ls' : Array Slot) (hd : decode bytes pc = .ok (.istore_n k0, 1)) (hl : storeLocals Ls k0.val (.int v) = some Ls') (k : Goes p e below E T m q Ls' St) : Goes p e below E T m pc Ls (.int x :: St) := by
  subst hq
  exact k.back fun t kt => XS.istoreN (g := mkF m pc Ls (.int x :: St)) X.here C.c_x rfl (hb C.c_by hd) rfl (by subst hv; exact hl) kt
theorem g_goto (q : Nat) (C : Ctx p s m meth c Z own nm bytes ml rt) (X : Stand p l e R s m args below meth c T locs cells slots) {o : Int} (hd : decode bytes pc = .ok (.goto o, 3)) (ho : 0 ≤ (pc : Int) + o) (hp : ((pc : Int) + o).toNat = q) (k : Goes p e below E T m q Ls St) : Goes p e below E T m pc Ls St :=
  k.back fun t kt => XS.goto (g := mkF m pc Ls St) X.here C.c_x rfl (pc0 := pc) (pc' := q) rfl (hb C.c_by hd) ho hp kt
theorem own_z0 : (0 : Int32).toInt = 0 := rfl
theorem g_if_ge_t (q : Nat) (C : Ctx p s m meth c Z own nm bytes ml rt) (X : Stand p l e R s m args below meth c T locs cells slots) {o : Int} {x : Int32} (hd : decode bytes pc = .ok (.ifCond .ge o, 3)) (ho : 0 ≤ (pc : Int) + o) (hp : ((pc : Int) + o).toNat = q) (h : ¬ x.toInt < 0) (k : Goes p e below E T m q Ls St) : Goes p e below E T m pc Ls (.int x :: St) :=
  k.back fun t kt => XS.ifYes (g := mkF m pc Ls (.int x :: St)) X.here C.c_x rfl (pc0 := pc) (pc' := q) rfl (hb C.c_by hd) rfl ((if0 _ _).trans (flt (fun r => h (Int32.lt_iff_toInt_lt.mp r))).2.1) ho hp kt
theorem g_if_ge_f (q : Nat) (hq : pc + 3 = q) (C : Ctx p s m meth c Z own nm bytes ml rt) (X : Stand p l e R s m args below meth c T locs cells slots) {o : Int} {x : Int32} (hd : decode bytes pc = .ok (.ifCond .ge o, 3)) (h : x.toInt < 0) (k : Goes p e below E T m q Ls St) : Goes p e below E T m pc Ls (.int x :: St) := by
  subst hq
  exact k.back fun t kt => XS.ifNo (g := mkF m pc Ls (.int x :: St)) X.here C.c_x rfl (hb C.c_by hd) rfl ((if0 _ _).trans (tlt (Int32.lt_iff_toInt_lt.mpr h)).2.1) kt
theorem g_icmp_le_t (q : Nat) (C : Ctx p s m meth c Z own nm bytes ml rt) (X : Stand p l e R s m args below meth c T locs cells slots) {o : Int} {x y : Int32} (hd : decode bytes pc = .ok (.if_icmp .le o, 3)) (ho : 0 ≤ (pc : Int) + o) (hp : ((pc : Int) + o).toNat = q) (h : ¬ y.toInt < x.toInt) (k : Goes p e below E T m q Ls St) : Goes p e below E T m pc Ls (.int y :: .int x :: St) :=
  k.back fun t kt => XS.icmpYes (g := mkF m pc Ls (.int y :: .int x :: St)) X.here C.c_x rfl (pc0 := pc) (pc' := q) rfl (hb C.c_by hd) rfl (flt (fun r => h (Int32.lt_iff_toInt_lt.mp r))).2.2.2 ho hp kt
theorem g_il_le_t (q : Nat) (C : Ctx p s m meth c Z own nm bytes ml rt) (X : Stand p l e R s m args below meth c T locs cells slots) {o : Int} {x y : Int64} (hd : decode bytes pc = .ok (.ifCond .le o, 3)) (ho : 0 ≤ (pc : Int) + o) (hp : ((pc : Int) + o).toNat = q) (h : ¬ y.toInt < x.toInt) (k : Goes p e below E T m q Ls St) : Goes p e below E T m pc Ls (.int (lcmpW x y) :: St) :=
  k.back fun t kt => XS.ifYes (g := mkF m pc Ls (.int (lcmpW x y) :: St)) X.here C.c_x rfl (pc0 := pc) (pc' := q) rfl (hb C.c_by hd) rfl ((if0 _ _).trans (flt (fun r => h (Int64.lt_iff_toInt_lt.mp ((lw_gt x y).mp r)))).2.2.2) ho hp kt
theorem g_icmp_le_f (q : Nat) (hq : pc + 3 = q) (C : Ctx p s m meth c Z own nm bytes ml rt) (X : Stand p l e R s m args below meth c T locs cells slots) {o : Int} {x y : Int32} (hd : decode bytes pc = .ok (.if_icmp .le o, 3)) (h : y.toInt < x.toInt) (k : Goes p e below E T m q Ls St) : Goes p e below E T m pc Ls (.int y :: .int x :: St) := by
  subst hq
  exact k.back fun t kt => XS.icmpNo (g := mkF m pc Ls (.int y :: .int x :: St)) X.here C.c_x rfl (hb C.c_by hd) rfl (tlt (Int32.lt_iff_toInt_lt.mpr h)).2.2.2 kt
theorem g_il_le_f (q : Nat) (hq : pc + 3 = q) (C : Ctx p s m meth c Z own nm bytes ml rt) (X : Stand p l e R s m args below meth c T locs cells slots) {o : Int} {x y : Int64} (hd : decode bytes pc = .ok (.ifCond .le o, 3)) (h : y.toInt < x.toInt) (k : Goes p e below E T m q Ls St) : Goes p e below E T m pc Ls (.int (lcmpW x y) :: St) := by
  subst hq
  exact k.back fun t kt => XS.ifNo (g := mkF m pc Ls (.int (lcmpW x y) :: St)) X.here C.c_x rfl (hb C.c_by hd) rfl ((if0 _ _).trans (tlt ((lw_gt x y).mpr (Int64.lt_iff_toInt_lt.mpr h))).2.2.2) kt
theorem g_icmp_ne_t (q : Nat) (C : Ctx p s m meth c Z own nm bytes ml rt) (X : Stand p l e R s m args below meth c T locs cells slots) {o : Int} {x y : Int32} (hd : decode bytes pc = .ok (.if_icmp .ne o, 3)) (ho : 0 ≤ (pc : Int) + o) (hp : ((pc : Int) + o).toNat = q) (h : ¬ x.toInt = y.toInt) (k : Goes p e below E T m q Ls St) : Goes p e below E T m pc Ls (.int y :: .int x :: St) :=
  k.back fun t kt => XS.icmpYes (g := mkF m pc Ls (.int y :: .int x :: St)) X.here C.c_x rfl (pc0 := pc) (pc' := q) rfl (hb C.c_by hd) rfl (feq (fun r => h (congrArg Int32.toInt r))).2 ho hp kt
theorem g_icmp_ne_f (q : Nat) (hq : pc + 3 = q) (C : Ctx p s m meth c Z own nm bytes ml rt) (X : Stand p l e R s m args below meth c T locs cells slots) {o : Int} {x y : Int32} (hd : decode bytes pc = .ok (.if_icmp .ne o, 3)) (h : x.toInt = y.toInt) (k : Goes p e below E T m q Ls St) : Goes p e below E T m pc Ls (.int y :: .int x :: St) := by
  subst hq
  exact k.back fun t kt => XS.icmpNo (g := mkF m pc Ls (.int y :: .int x :: St)) X.here C.c_x rfl (hb C.c_by hd) rfl (teq (Int32.toInt_inj.mp h)).2 kt
theorem g_ldc2 (q : Nat) (hq : pc + 3 = q) (C : Ctx p s m meth c Z own nm bytes ml rt) (X : Stand p l e R s m args below meth c T locs cells slots) {i : Nat} {v : Int64} (w : (Cond.constantLong own i v).before a0 Z = true) (hd : decode bytes pc = .ok (.ldc2_w i, 3)) (k : Goes p e below E T m q Ls (.long v :: St)) : Goes p e below E T m pc Ls St := by
  subst hq
  exact k.back fun t kt => X.ldc2Long C.c_x C.c_own (mvT C.c_z w) (g := mkF m pc Ls St) rfl (hb C.c_by hd) _ kt
theorem g_retW (C : Ctx p s m meth c Z own nm bytes ml rt) (X : Stand p l e R s m args below meth c T locs cells slots) {w : Value} {t : FieldType} {i : Instr} (hrt : rt = some t) (hn : narrow t w = w)
    (hi : (i = .ireturn ∧ (t = .int ∨ t = .boolean ∨ t = .byte ∨ t = .char ∨ t = .short) ∧ ∃ z, w = .int z) ∨ (i = .lreturn ∧ t = .long ∧ ∃ z, w = .long z) ∨ (i = .dreturn ∧ t = .double ∧ ∃ z, w = .double z) ∨ (i = .freturn ∧ t = .float ∧ ∃ z, w = .float z) ∨ (i = .areturn ∧ t.isReference = true ∧ w.isRef = true))
    (hd : decode bytes pc = .ok (i, 1)) (eT : T.heap = h) (hc : cells ≤ CC) (hs : slots ≤ SS) (hQ : Q (some w) h locs) : Goes p e below (EndN s Q CC SS) T m pc Ls (w :: St) := by
  obtain ⟨fs, hr, hrun, hended, hW, hsame⟩ := X.leave (v := some w) (fun r => by rw [C.c_rt, hrt] at r; cases r) C.c_lk
  subst eT
  exact ⟨_, _, retOut X C.c_x (C.c_rt.trans hrt) hn hi (hb C.c_by hd) hr, hrun, hended, _, _, rfl, hQ, ⟨_, rfl⟩, hW, hsame.mono hc hs⟩
theorem g_retI (C : Ctx p s m meth c Z own nm bytes ml rt) (X : Stand p l e R s m args below meth c T locs cells slots) {z : Int32} (hrt : rt = some .int) (hd : decode bytes pc = .ok (.ireturn, 1)) (eT : T.heap = h) (hc : cells ≤ CC) (hs : slots ≤ SS) (hQ : Q (some (.int z)) h locs) : Goes p e below (EndN s Q CC SS) T m pc Ls (.int z :: St) :=
  g_retW C X hrt rfl (Or.inl ⟨rfl, Or.inl rfl, z, rfl⟩) hd eT hc hs hQ
theorem g_retN (C : Ctx p s m meth c Z own nm bytes ml rt) (X : Stand p l e R s m args below meth c T locs cells slots) {z z' : Int32} {t : FieldType} (hrt : rt = some t) (ht : t = .boolean ∨ t = .byte ∨ t = .char ∨ t = .short) (hd : decode bytes pc = .ok (.ireturn, 1)) (eT : T.heap = h) (hc : cells ≤ CC) (hs : slots ≤ SS) (hz : nar t z = z') (hQ : Q (some (.int z')) h locs) : Goes p e below (EndN s Q CC SS) T m pc Ls (.int z :: St) := by
  obtain ⟨fs, hr, hrun, hended, hW, hsame⟩ := X.leave (v := some (.int (nar t z))) (fun r => by rw [C.c_rt, hrt] at r; cases r) C.c_lk
  subst eT
  subst hz
  exact ⟨_, _, retN X C.c_x (C.c_rt.trans hrt) ht (hb C.c_by hd) hr, hrun, hended, _, _, rfl, hQ, ⟨_, rfl⟩, hW, hsame.mono hc hs⟩
def Ba (Z : State) (h : Heap) (a : Addr) (ty : FieldType) (n : Nat) (f : Nat → Int32) : Prop := ∃ c : Cell, Arr Z h a c ty ∧ c.slots.size = n ∧ n < 2 ^ 31 ∧ (∀ k, k < n → c.slots[k]? = some (.int (f k)))
def upd (f : Nat → Int32) (j : Nat) (v : Int32) : Nat → Int32 := fun k => bif Nat.beq k j then v else f k
theorem upd_same {f : Nat → Int32} {j k : Nat} {v : Int32} (q : k = j) : upd f j v k = v := by subst q; simp [upd]
theorem upd_ne {f : Nat → Int32} {j k : Nat} {v : Int32} (q : k ≠ j) : upd f j v k = f k := by
  have : Nat.beq k j = false := by
    cases hb : Nat.beq k j with
    | false => rfl
    | true => exact absurd (Nat.eq_of_beq_eq_true hb) q
  show (bif Nat.beq k j then v else f k) = f k
  rw [this]; rfl
theorem upd_eq (f : Nat → Int32) (j k : Nat) (v : Int32) : upd f j v k = if k = j then v else f k := by
  split
  · rename_i q; exact upd_same q
  · rename_i q; exact upd_ne q
theorem Ba.lt {a : Addr} {ty : FieldType} {n : Nat} {f : Nat → Int32} (F : Ba Z h a ty n f) : a < h.size := by obtain ⟨c, A, -⟩ := F; exact A.lt
theorem Ba.ext {h' : Heap} {a : Addr} {ty : FieldType} {n : Nat} {f : Nat → Int32} (F : Ba Z h a ty n f) (E : Ext h h') : Ba Z h' a ty n f := by obtain ⟨c, A, r⟩ := F; exact ⟨c, A.ext E, r⟩
theorem Ba.other {h' : Heap} {a b : Addr} {ty : FieldType} {n sl : Nat} {v : Value} {f : Nat → Int32} (F : Ba Z h a ty n f) (W : Wr h h' b sl v) (q : a ≠ b) : Ba Z h' a ty n f := by obtain ⟨c, A, r⟩ := F; exact ⟨c, A.other W q, r⟩
theorem Ba.keep {h' : Heap} {a : Addr} {ty : FieldType} {n : Nat} {ws : List Addr} {f : Nat → Int32} (F : Ba Z h a ty n f) (K : Keep h h' ws) (q : a ∉ ws) : Ba Z h' a ty n f := by obtain ⟨c, A, r⟩ := F; exact ⟨c, ⟨K.2.1 a c A.1 q, A.2⟩, r⟩
theorem Ba.same {h' : Heap} {a : Addr} {ty : FieldType} {n j : Nat} {v : Int32} {f : Nat → Int32} (F : Ba Z h a ty n f) (W : Wr h h' a j (.int v)) : Ba Z h' a ty n (upd f j v) := by
  obtain ⟨c, A, hs, hn, hf⟩ := F
  refine ⟨_, A.same W, by simp [Cell.setSlot, hs], hn, fun k hk => ?_⟩
  rw [upd_eq]
  by_cases q : k = j
  · subst q; simp [Cell.setSlot, hs, hk]
  · rw [if_neg q]; simp only [Cell.setSlot]; rw [Array.getElem?_setIfInBounds_ne (Ne.symm q)]; exact hf k hk
theorem Ba.cong {a : Addr} {ty : FieldType} {n : Nat} {f f' : Nat → Int32} (F : Ba Z h a ty n f) (q : ∀ k, k < n → f k = f' k) : Ba Z h a ty n f' := by
  obtain ⟨c, A, hs, hn, hf⟩ := F
  exact ⟨c, A, hs, hn, fun k hk => by rw [← q k hk]; exact hf k hk⟩
theorem Ba.new {a : Addr} {cA : ClassId} {ty : FieldType} {z : Int32} {n : Nat} (A : Arr Z h a (newA cA ty z) ty) (hz : z.toInt = n) (hd : defaultValue ty = .int 0) : Ba Z h a ty n (fun _ => 0) := by
  have hr := rng32 z
  have hn : z.toNatClampNeg = n := by simp only [Int32.toNatClampNeg, hz]; rfl
  exact ⟨_, A, by rw [sz_new, hn], by omega, fun k hk => by simp [newA, hn, hk, hd]⟩
theorem own_clamp {j : Int32} {k : Nat} (hj : j.toInt = k) : j.toNatClampNeg = k ∧ ¬ j < 0 := by
  refine ⟨by simp only [Int32.toNatClampNeg, hj]; rfl, fun r => ?_⟩
  have := Int32.lt_iff_toInt_lt.mp r
  rw [hj, own_z0] at this; omega
theorem own_in {j : Int32} {k n : Nat} {c : Cell} (hs : c.slots.size = n) (hj : j.toInt = k) (hk : k < n) : ¬ (j < 0 ∨ c.slots.size ≤ j.toNatClampNeg) := by
  obtain ⟨h1, h2⟩ := own_clamp hj
  rw [h1, hs]; intro r; rcases r with r | r
  · exact h2 r
  · omega
theorem own_lenI {n : Nat} (hn : n < 2 ^ 31) : (n.toInt32).toInt = n := by
  have := len_toInt hn
  exact this
theorem own_narByte {b : Int32} (h0 : -128 ≤ b.toInt) (h1 : b.toInt < 128) : b.toInt8.toInt32 = b := by
  have := c_i2b b
  exact Int32.toInt_inj.mp (by omega)
theorem own_fitB {x : Int32} (h0 : -128 ≤ x.toInt) (h1 : x.toInt < 128) : fits .byte (.int x) = true := by
  have e := own_narByte h0 h1
  rw [← e]; exact fits_nar_byte x

theorem g_callS (q : Nat) (hq : pc + 3 = q) (C : Ctx p s m meth c Z own nm bytes ml rt) (X : Stand p l e R s m args below meth c T locs cells slots) {y : MethodName} {bytes' : ByteArray} {maxL' : Nat} {ret' : Option FieldType} {rm : Room} {Q' : Option Value → Heap → List Loc → Prop} {i W : Nat} {argsL : List Value} (w1 : (Cond.methodLink own i y).before a0 Z = true) (w2 : (Cond.static y).before a0 Z = true) (wc : (Cond.code y bytes' maxL' ret').before a0 Z = true) (wz : (Cond.initialized y.cls).before a0 Z = true) (eT : T.heap = h) (M : MetFree l y (head1 [Cond.code y bytes' maxL' ret'] rm) (fun a' U => a' = argsL.toArray ∧ Z.Warmed39 U.vm ∧ U.heap = h) (fun _ _ _ _ _ => True) (fun _ U o U' => ∃ v L, o = .returned v ∧ Q' v U'.heap L ∧ FrameEnd U o U' L rm.cells rm.slots)) (hlen : ∀ sig, parseMethodDescriptor y.desc = some sig → argsL.length = sig.parameters.length) (hf : rm.frames + 1 ≤ R.frames) (hl : W + (maxL' + 11) + rm.locals ≤ R.locals) (hc : cells + rm.cells ≤ R.cells) (hsl : slots + rm.slots ≤ R.slots) (hsz : Ls.size = ml) (hW : (St.map fun v => v.category).sum ≤ W) (hy : y.cls ≠ "java/lang/invoke/MethodHandle" ∧ y.cls ≠ "java/lang/invoke/VarHandle") (hd : decode bytes pc = .ok (.invokestatic i, 3)) {St0 : List Value} (hst : St0 = argsL.reverse ++ St)
    (k : ∀ v T' L, Stand p l e R s m args below meth c T' (locs ++ L) (cells + rm.cells) (slots + rm.slots) → Q' v T'.heap L → Goes p e below E T' m q Ls (v.toList ++ St)) : Goes p e below E T m pc Ls St0 := by
  subst hq hst
  obtain ⟨v, _, ⟨T', L', k', n'⟩, -, X', ⟨Lc, hQ', l', y', z'⟩, st⟩ := Jvm.LawKit.callS X C.c_x (y := y) C.c_own (mvT C.c_z w1) (mvT C.c_z w2) (mvT C.c_z wz) (mvT C.c_z wc) hy (backOf (W := W) M C.c_z wc wz hf hl) (g := mkF m pc Ls (argsL.reverse ++ St)) rfl (hsz.trans C.c_ml.symm) (argsL := argsL) (rest := St) hlen rfl (by show 2 * 0 + _ ≤ _; omega) (hb C.c_by hd) (fun _ _ => ⟨rfl, eT, hc, hsl⟩)
  dsimp only [Pt.U, Pt.locs, Pt.cells, Pt.slots] at X' l' y' z' st hQ'
  subst l' y' z'
  exact (k v T' Lc X' hQ').back fun t kt => st t kt
end Own
section OwnArith
theorem own_mulc (x y : Int32) (k : Int) (hk : y.toInt = k) : ((x * y).toInt - x.toInt * k) % 4294967296 = 0 := hk ▸ c_imul x y
theorem own_mulc' (x y : Int32) (k : Int) (hk : x.toInt = k) : ((x * y).toInt - k * y.toInt) % 4294967296 = 0 := hk ▸ c_imul x y
theorem own_lmulc (x y : Int64) (k : Int) (hk : y.toInt = k) : ((x * y).toInt - x.toInt * k) % 18446744073709551616 = 0 := hk ▸ c_lmul x y
theorem own_lmulc' (x y : Int64) (k : Int) (hk : x.toInt = k) : ((x * y).toInt - k * y.toInt) % 18446744073709551616 = 0 := hk ▸ c_lmul x y
theorem own_bvor (x y : BitVec 32) : (x ||| y) + (x &&& y) = x + y := by
  have h1 : x = (x &&& y) + (x &&& ~~~y) := by
    rw [BitVec.add_eq_or_of_and_eq_zero]
    · ext i; simp; cases x[i] <;> cases y[i] <;> rfl
    · ext i; simp; cases x[i] <;> cases y[i] <;> simp
  have h2 : x ||| y = y + (x &&& ~~~y) := by
    rw [BitVec.add_eq_or_of_and_eq_zero]
    · ext i; simp; cases x[i] <;> cases y[i] <;> rfl
    · ext i; simp; cases x[i] <;> cases y[i] <;> simp
  rw [h2]
  conv => rhs; rw [h1]
  ac_rfl
theorem own_or0 (x y : Int32) : (x ||| y) + (x &&& y) = x + y := Int32.toBitVec_inj.mp (by simpa using own_bvor x.toBitVec y.toBitVec)
theorem own_or (x y : Int32) : ((x ||| y).toInt + (x &&& y).toInt - (x.toInt + y.toInt)) % 4294967296 = 0 := by
  have h1 := c_iadd (x ||| y) (x &&& y)
  have h2 := c_iadd x y
  rw [own_or0] at h1; omega
theorem own_bvblk (x m a b : BitVec 32) (h1 : m ||| a = b) (h2 : m &&& a = 0#32) : (x &&& m) + (x &&& a) = x &&& b := by
  rw [BitVec.add_eq_or_of_and_eq_zero, ← h1]
  · ext i; simp; cases x[i] <;> simp
  · have : (x &&& m) &&& (x &&& a) = x &&& (m &&& a) := by ext i; simp; cases x[i] <;> simp
    rw [this, h2]; simp
theorem own_blk (x m a b : Int32) (h1 : m ||| a = b) (h2 : m &&& a = 0) : ((x &&& m).toInt + (x &&& a).toInt - (x &&& b).toInt) % 4294967296 = 0 := by
  have e : (x &&& m) + (x &&& a) = x &&& b := Int32.toBitVec_inj.mp (by
    have q1 := congrArg Int32.toBitVec h1
    have q2 := congrArg Int32.toBitVec h2
    simpa using own_bvblk x.toBitVec m.toBitVec a.toBitVec b.toBitVec (by simpa using q1) (by simpa using q2))
  have := c_iadd (x &&& m) (x &&& a)
  rw [e] at this; omega
theorem own_andM1 (x : Int32) : x &&& (-1) = x := Int32.toBitVec_inj.mp (by ext i; simp)
theorem own_narZ {b : Int32} (hb : b.toInt = 0 ∨ b.toInt = 1) : nar .boolean b = b := by
  have : b = 0 ∨ b = 1 := by
    rcases hb with q | q
    · exact Or.inl (Int32.toInt_inj.mp q)
    · exact Or.inr (Int32.toInt_inj.mp q)
  rcases this with rfl | rfl <;> decide
theorem own_narC {b : Int32} (h0 : 0 ≤ b.toInt) (h1 : b.toInt < 65536) : nar .char b = b := by
  have := c_i2c b
  exact Int32.toInt_inj.mp (by show b.toUInt32.toUInt16.toUInt32.toInt32.toInt = _; omega)
theorem own_narB {b : Int32} (h0 : -128 ≤ b.toInt) (h1 : b.toInt < 128) : nar .byte b = b := by
  have := c_i2b b
  exact Int32.toInt_inj.mp (by show b.toInt8.toInt32.toInt = _; omega)
theorem own_eq {x y : Int32} (q : x.toInt = y.toInt) : x = y := Int32.toInt_inj.mp q
theorem own_eqL {x y : Int64} (q : x.toInt = y.toInt) : x = y := Int64.toInt_inj.mp q
end OwnArith


theorem d1_0 : decode method_2_code 0 = .ok (.iload_n 0, 1) := by decide +kernel
theorem d1_1 : decode method_2_code 1 = .ok (.bipush 10, 2) := by decide +kernel
theorem d1_3 : decode method_2_code 3 = .ok (.idiv, 1) := by decide +kernel
theorem d1_4 : decode method_2_code 4 = .ok (.istore_n 1, 1) := by decide +kernel
theorem d1_5 : decode method_2_code 5 = .ok (.iload_n 0, 1) := by decide +kernel
theorem d1_6 : decode method_2_code 6 = .ok (.bipush 10, 2) := by decide +kernel
theorem d1_8 : decode method_2_code 8 = .ok (.irem, 1) := by decide +kernel
theorem d1_9 : decode method_2_code 9 = .ok (.istore_n 2, 1) := by decide +kernel
theorem d1_10 : decode method_2_code 10 = .ok (.iload_n 2, 1) := by decide +kernel
theorem d1_11 : decode method_2_code 11 = .ok (.ifCond .ge 7, 3) := by decide +kernel
theorem d1_14 : decode method_2_code 14 = .ok (.iload_n 1, 1) := by decide +kernel
theorem d1_15 : decode method_2_code 15 = .ok (.iconst 1, 1) := by decide +kernel
theorem d1_16 : decode method_2_code 16 = .ok (.isub, 1) := by decide +kernel
theorem d1_17 : decode method_2_code 17 = .ok (.ireturn, 1) := by decide +kernel
theorem d1_18 : decode method_2_code 18 = .ok (.iload_n 1, 1) := by decide +kernel
theorem d1_19 : decode method_2_code 19 = .ok (.ireturn, 1) := by decide +kernel
theorem pn_1184036 : plainName "com/example/cairn_search/cairnsearch/vector/GraphWalkGoesThroughPinLaw" = true := by first | (simp [plainName, overriddenIn]; done) | decide +kernel
theorem ef_1 (m : MethodId) (p0 : Int32) : entryFrame m #[(.int p0)] 3 = mkF m 0 #[.val (.int p0), .unset, .unset] [] := by first | (simp [entryFrame, mkF, argsToLocals, Value.category]; done) | rfl
def Q1 (Z : State) (p0 : Int32) (h0 : Heap) (n0 : Nat) (v : Option Value) (h : Heap) (L : List Loc) : Prop := ∃ r : Int32, v = some (.int r) ∧ (r.toInt = p0.toInt / 10) ∧ Fr n0 L ∧ h = h0
set_option maxRecDepth 65536 in
set_option maxHeartbeats 40000000 in
theorem rm1 (l : Launch) (Z : State) (a0 : Array Value) (hw : ∀ d ∈ tables_1, d.before a0 Z = true) (ws : List Jvm.Cond) (p0 : Int32) (h0 : Heap) (n0 : Nat) (Z0 : n0 ≤ h0.size) :
    MetFree l (⟨"com/example/cairn_search/cairnsearch/vector/GraphWalkGoesThroughPinLaw", "floorTenth", "(I)I"⟩ : MethodName) (head1 (Jvm.Cond.code (⟨"com/example/cairn_search/cairnsearch/vector/GraphWalkGoesThroughPinLaw", "floorTenth", "(I)I"⟩ : MethodName) method_2_code 3 (some .int) :: ws) ({ frames := 0, cells := 0, slots := 0, locals := 0 } : Room)) (fun a U => a = #[(.int p0)] ∧ Z.Warmed39 U.vm ∧ U.heap = h0) (fun _ _ _ _ _ => True) (fun _ U o U' => ∃ v L, o = .returned v ∧ Q1 Z p0 h0 n0 v U'.heap L ∧ FrameEnd U o U' L ({ frames := 0, cells := 0, slots := 0, locals := 0 } : Room).cells ({ frames := 0, cells := 0, slots := 0, locals := 0 } : Room).slots) := by
  refine MetFree.of_bodySF (plainFor_of_name pn_1184036) hisR ?_
  intro p e s m args below meth c s₁ Bd hml0 hP hK
  obtain ⟨rfl, hZ, hh⟩ := hP
  have C : Ctx p s m meth c Z "com/example/cairn_search/cairnsearch/vector/GraphWalkGoesThroughPinLaw" "floorTenth" method_2_code 3 (some .int) := Ctx.of Bd hml0 hZ
  have X0 : Stand p l e ({ frames := 0, cells := 0, slots := 0, locals := 0 } : Room) s m #[(.int p0)] below meth c s₁ [] 0 0 := Stand.of_body Bd
  have e0 : s₁.heap = h0 := by rw [← hh, Bd.state]; rfl
  have N0 := Fr.nil n0
  refine Goes.enter (ef_1 m p0) ?_
  clear hK hml0 hh
  refine g_iloadN 1 rfl C X0 d1_0 rfl ?_
  refine g_bipush 3 rfl C X0 (10 : Int32) d1_1 rfl ?_
  refine g_idiv 4 rfl C X0 d1_3 (by decide) ?_
  obtain ⟨v1, hv1⟩ : ∃ z : Int32, (p0 / (10 : Int32)) = z := ⟨_, rfl⟩
  refine g_istoreN 5 rfl C X0 v1 hv1 #[.val (.int p0), .val (.int v1), .unset] d1_4 rfl ?_
  refine g_iloadN 6 rfl C X0 d1_5 rfl ?_
  refine g_bipush 8 rfl C X0 (10 : Int32) d1_6 rfl ?_
  refine g_irem 9 rfl C X0 d1_8 (by decide) ?_
  obtain ⟨v2, hv2⟩ : ∃ z : Int32, (p0 % (10 : Int32)) = z := ⟨_, rfl⟩
  refine g_istoreN 10 rfl C X0 v2 hv2 #[.val (.int p0), .val (.int v1), .val (.int v2)] d1_9 rfl ?_
  refine g_iloadN 11 rfl C X0 d1_10 rfl ?_
  by_cases hb3 : v2.toInt < 0
  · skip
    refine g_if_ge_f 14 rfl C X0 d1_11 hb3 ?_
    refine g_iloadN 15 rfl C X0 d1_14 rfl ?_
    refine g_iconst 16 rfl C X0 (1 : Int32) d1_15 rfl ?_
    refine g_isub 17 rfl C X0 d1_16 ?_
    have fr4 := rng32 v2
    have fr5 := rng32 p0
    have fc6 : (10 : Int32).toInt = 10 := rfl
    have fo7 := c_irem p0 (10 : Int32) 10 rfl
    have fr8 := rng32 (p0 % (10 : Int32))
    have fe9 : (p0 % (10 : Int32)).toInt = v2.toInt := congrArg Int32.toInt hv2
    have fr10 := rng32 v1
    have fo11 := c_idiv p0 (10 : Int32) 10 rfl (by decide)
    have fr12 := rng32 (p0 / (10 : Int32))
    have fe13 : (p0 / (10 : Int32)).toInt = v1.toInt := congrArg Int32.toInt hv1
    have fc14 : (1 : Int32).toInt = 1 := rfl
    have fo15 := c_isub v1 (1 : Int32)
    have fr16 := rng32 (v1 - (1 : Int32))
    exact g_retI C X0 rfl d1_17 e0 (by decide) (by decide) ⟨_, rfl, by omega, N0, rfl⟩
  · skip
    refine g_if_ge_t 18 C X0 d1_11 (by decide) (by decide) hb3 ?_
    refine g_iloadN 19 rfl C X0 d1_18 rfl ?_
    have fr17 := rng32 v2
    have fr18 := rng32 p0
    have fc19 : (10 : Int32).toInt = 10 := rfl
    have fo20 := c_irem p0 (10 : Int32) 10 rfl
    have fr21 := rng32 (p0 % (10 : Int32))
    have fe22 : (p0 % (10 : Int32)).toInt = v2.toInt := congrArg Int32.toInt hv2
    have fr23 := rng32 v1
    have fo24 := c_idiv p0 (10 : Int32) 10 rfl (by decide)
    have fr25 := rng32 (p0 / (10 : Int32))
    have fe26 : (p0 / (10 : Int32)).toInt = v1.toInt := congrArg Int32.toInt hv1
    exact g_retI C X0 rfl d1_19 e0 (by decide) (by decide) ⟨_, rfl, by omega, N0, rfl⟩
theorem d2_0 : decode prog_66_method_15_code 0 = .ok (.ldc2_w 247, 3) := by decide +kernel
theorem d2_3 : decode prog_66_method_15_code 3 = .ok (.iload_n 0, 1) := by decide +kernel
theorem d2_4 : decode prog_66_method_15_code 4 = .ok (.i2l, 1) := by decide +kernel
theorem d2_5 : decode prog_66_method_15_code 5 = .ok (.lmul, 1) := by decide +kernel
theorem d2_6 : decode prog_66_method_15_code 6 = .ok (.iload_n 1, 1) := by decide +kernel
theorem d2_7 : decode prog_66_method_15_code 7 = .ok (.i2l, 1) := by decide +kernel
theorem d2_8 : decode prog_66_method_15_code 8 = .ok (.lcmp, 1) := by decide +kernel
theorem d2_9 : decode prog_66_method_15_code 9 = .ok (.ifCond .le 7, 3) := by decide +kernel
theorem d2_12 : decode prog_66_method_15_code 12 = .ok (.iconst 1, 1) := by decide +kernel
theorem d2_13 : decode prog_66_method_15_code 13 = .ok (.goto 4, 3) := by decide +kernel
theorem d2_17 : decode prog_66_method_15_code 17 = .ok (.ireturn, 1) := by decide +kernel
theorem d2_16 : decode prog_66_method_15_code 16 = .ok (.iconst 0, 1) := by decide +kernel
theorem pn_37931884 : plainName "com/example/cairn_search/cairnsearch/vector/GraphWalk" = true := by first | (simp [plainName, overriddenIn]; done) | decide +kernel
theorem ef_2 (m : MethodId) (p0 : Int32) (p1 : Int32) : entryFrame m #[(.int p0), (.int p1)] 2 = mkF m 0 #[.val (.int p0), .val (.int p1)] [] := by first | (simp [entryFrame, mkF, argsToLocals, Value.category]; done) | rfl
def Q2 (Z : State) (p0 : Int32) (p1 : Int32) (h0 : Heap) (n0 : Nat) (v : Option Value) (h : Heap) (L : List Loc) : Prop := ∃ r : Int32, v = some (.int r) ∧ ((r.toInt = 1 ∧ p1.toInt < 10 * p0.toInt) ∨ (r.toInt = 0 ∧ ¬ p1.toInt < 10 * p0.toInt)) ∧ Fr n0 L ∧ h = h0
set_option maxRecDepth 65536 in
set_option maxHeartbeats 40000000 in
theorem rm2 (l : Launch) (Z : State) (a0 : Array Value) (hw : ∀ d ∈ tables_1, d.before a0 Z = true) (ws : List Jvm.Cond) (p0 : Int32) (p1 : Int32) (h0 : Heap) (n0 : Nat) (Z0 : n0 ≤ h0.size) :
    MetFree l (⟨"com/example/cairn_search/cairnsearch/vector/GraphWalk", "goesThrough", "(II)Z"⟩ : MethodName) (head1 (Jvm.Cond.code (⟨"com/example/cairn_search/cairnsearch/vector/GraphWalk", "goesThrough", "(II)Z"⟩ : MethodName) prog_66_method_15_code 2 (some .boolean) :: ws) ({ frames := 0, cells := 0, slots := 0, locals := 0 } : Room)) (fun a U => a = #[(.int p0), (.int p1)] ∧ Z.Warmed39 U.vm ∧ U.heap = h0) (fun _ _ _ _ _ => True) (fun _ U o U' => ∃ v L, o = .returned v ∧ Q2 Z p0 p1 h0 n0 v U'.heap L ∧ FrameEnd U o U' L ({ frames := 0, cells := 0, slots := 0, locals := 0 } : Room).cells ({ frames := 0, cells := 0, slots := 0, locals := 0 } : Room).slots) := by
  refine MetFree.of_bodySF (plainFor_of_name pn_37931884) hisR ?_
  intro p e s m args below meth c s₁ Bd hml0 hP hK
  obtain ⟨rfl, hZ, hh⟩ := hP
  have C : Ctx p s m meth c Z "com/example/cairn_search/cairnsearch/vector/GraphWalk" "goesThrough" prog_66_method_15_code 2 (some .boolean) := Ctx.of Bd hml0 hZ
  have X0 : Stand p l e ({ frames := 0, cells := 0, slots := 0, locals := 0 } : Room) s m #[(.int p0), (.int p1)] below meth c s₁ [] 0 0 := Stand.of_body Bd
  have e0 : s₁.heap = h0 := by rw [← hh, Bd.state]; rfl
  have N0 := Fr.nil n0
  refine Goes.enter (ef_2 m p0 p1) ?_
  clear hK hml0 hh
  refine g_ldc2 3 rfl C X0 (hw _ (List.mem_of_getElem? (i := 8) rfl)) d2_0 ?_
  refine g_iloadN 4 rfl C X0 d2_3 rfl ?_
  refine g_i2l 5 rfl C X0 d2_4 ?_
  refine g_lmul 6 rfl C X0 d2_5 ?_
  refine g_iloadN 7 rfl C X0 d2_6 rfl ?_
  refine g_i2l 8 rfl C X0 d2_7 ?_
  refine g_lcmp 9 rfl C X0 d2_8 ?_
  by_cases hb1 : ((p1).toInt64).toInt < ((10 : Int64) * ((p0).toInt64)).toInt
  · skip
    refine g_il_le_f 12 rfl C X0 d2_9 hb1 ?_
    refine g_iconst 13 rfl C X0 (1 : Int32) d2_12 rfl ?_
    refine g_goto 17 C X0 d2_13 (by decide) (by decide) ?_
    have fc2 : (10 : Int64).toInt = 10 := rfl
    have fr3 := rng32 p0
    have fo4 := c_i2l p0
    have fo5 := own_lmulc' (10 : Int64) ((p0).toInt64) 10 rfl
    have fr6 := rng64 ((10 : Int64) * ((p0).toInt64))
    have fr7 := rng32 p1
    have fo8 := c_i2l p1
    have fc9 : (1 : Int32).toInt = 1 := rfl
    exact g_retN C X0 (z' := (1 : Int32)) rfl (Or.inl rfl) d2_17 e0 (by decide) (by decide) rfl ⟨_, rfl, by omega, N0, rfl⟩
  · skip
    refine g_il_le_t 16 C X0 d2_9 (by decide) (by decide) hb1 ?_
    refine g_iconst 17 rfl C X0 (0 : Int32) d2_16 rfl ?_
    have fc10 : (10 : Int64).toInt = 10 := rfl
    have fr11 := rng32 p0
    have fo12 := c_i2l p0
    have fo13 := own_lmulc' (10 : Int64) ((p0).toInt64) 10 rfl
    have fr14 := rng64 ((10 : Int64) * ((p0).toInt64))
    have fr15 := rng32 p1
    have fo16 := c_i2l p1
    have fc17 : (0 : Int32).toInt = 0 := rfl
    exact g_retN C X0 (z' := (0 : Int32)) rfl (Or.inl rfl) d2_17 e0 (by decide) (by decide) rfl ⟨_, rfl, by omega, N0, rfl⟩
theorem pd_52681284 : parseMethodDescriptor "(I)I" = some ⟨[.int], some .int⟩ := by decide +kernel
theorem pd_1793254 : parseMethodDescriptor "(II)Z" = some ⟨[.int, .int], some .boolean⟩ := by decide +kernel
theorem ef_0 (m : MethodId) (p0 : Int32) (p1 : Int32) : entryFrame m #[(.int p0), (.int p1)] maxLocals = mkF m 0 #[.val (.int p0), .val (.int p1), .unset, .unset] [] := by first | (simp [entryFrame, mkF, argsToLocals, Value.category, maxLocals]; done) | rfl
def Q0 (Z : State) (p0 : Int32) (p1 : Int32) (h0 : Heap) (n0 : Nat) (v : Option Value) (h : Heap) (L : List Loc) : Prop := v = some (.int 1) ∧ Fr n0 L
set_option maxRecDepth 65536 in
set_option maxHeartbeats 40000000 in
theorem rm0 (l : Launch) (Z : State) (a0 : Array Value) (hw : ∀ d ∈ tables_1, d.before a0 Z = true) (ws : List Jvm.Cond) (p0 : Int32) (p1 : Int32) (h0 : Heap) (n0 : Nat) (Z0 : n0 ≤ h0.size) :
    MetFree l x (head1 (Jvm.Cond.code x code maxLocals ret :: ws) room_1) (fun a U => a = #[(.int p0), (.int p1)] ∧ Z.Warmed39 U.vm ∧ U.heap = h0) (fun _ _ _ _ _ => True) (fun _ U o U' => ∃ v L, o = .returned v ∧ Q0 Z p0 p1 h0 n0 v U'.heap L ∧ FrameEnd U o U' L 0 0) := by
  refine MetFree.of_bodySF (plainFor_of_name pn_1184036) hisR ?_
  intro p e s m args below meth c s₁ Bd hml0 hP hK
  obtain ⟨rfl, hZ, hh⟩ := hP
  have C : Ctx p s m meth c Z "com/example/cairn_search/cairnsearch/vector/GraphWalkGoesThroughPinLaw" "law" code maxLocals ret := Ctx.of Bd hml0 hZ
  have X0 : Stand p l e room_1 s m #[(.int p0), (.int p1)] below meth c s₁ [] 0 0 := Stand.of_body Bd
  have e0 : s₁.heap = h0 := by rw [← hh, Bd.state]; rfl
  have N0 := Fr.nil n0
  refine Goes.enter (ef_0 m p0 p1) ?_
  clear hK hml0 hh
  refine g_iloadN 1 rfl C X0 at_0 rfl ?_
  refine g_iloadN 2 rfl C X0 at_1 rfl ?_
  refine g_callS 5 rfl C X0 (argsL := [(.int p1)]) (hw _ (List.mem_of_getElem? (i := 0) rfl)) (hw _ (List.mem_of_getElem? (i := 1) rfl)) (hw _ (List.mem_of_getElem? (i := 3) rfl)) (hw _ (List.mem_of_getElem? (i := 2) rfl)) e0 (rm1 l Z a0 hw [] p1 h0 n0 Z0) (lenOf pd_52681284 rfl) (by decide) (by decide) (by decide) (by decide) rfl (W := 1) (Nat.le_of_eq rfl) (by decide) at_2 rfl fun r1 T2 Lc3 X4 hQ5 => ?_
  obtain ⟨r6, rfl, hs7, Nq8, eh9⟩ := hQ5
  have N10 := Fr.app N0 Nq8
  show Goes _ _ _ _ _ _ 5 _ [(.int r6), (.int p0)]
  by_cases hb11 : r6.toInt < p0.toInt
  · skip
    refine g_icmp_le_f 8 rfl C X4 at_5 hb11 ?_
    refine g_iconst 9 rfl C X4 (1 : Int32) at_8 rfl ?_
    refine g_goto 13 C X4 at_9 (by decide) (by decide) ?_
    refine g_istoreN 14 rfl C X4 (1 : Int32) rfl #[.val (.int p0), .val (.int p1), .val (.int (1 : Int32)), .unset] at_13 rfl ?_
    refine g_iloadN 15 rfl C X4 at_14 rfl ?_
    refine g_iloadN 16 rfl C X4 at_15 rfl ?_
    refine g_callS 19 rfl C X4 (argsL := [(.int p0), (.int p1)]) (hw _ (List.mem_of_getElem? (i := 4) rfl)) (hw _ (List.mem_of_getElem? (i := 5) rfl)) (hw _ (List.mem_of_getElem? (i := 7) rfl)) (hw _ (List.mem_of_getElem? (i := 6) rfl)) eh9 (rm2 l Z a0 hw [] p0 p1 h0 n0 Z0) (lenOf pd_1793254 rfl) (by decide) (by decide) (by decide) (by decide) rfl (W := 0) (Nat.le_of_eq rfl) (by decide) at_16 rfl fun r12 T13 Lc14 X15 hQ16 => ?_
    obtain ⟨r17, rfl, hs18, Nq19, eh20⟩ := hQ16
    have N21 := Fr.app N10 Nq19
    show Goes _ _ _ _ _ _ 19 _ [(.int r17)]
    refine g_istoreN 20 rfl C X15 r17 rfl #[.val (.int p0), .val (.int p1), .val (.int (1 : Int32)), .val (.int r17)] at_19 rfl ?_
    refine g_iloadN 21 rfl C X15 at_20 rfl ?_
    refine g_iloadN 22 rfl C X15 at_21 rfl ?_
    by_cases hb22 : r17.toInt = (1 : Int32).toInt
    · skip
      refine g_icmp_ne_f 25 rfl C X15 at_22 hb22 ?_
      refine g_iconst 26 rfl C X15 (1 : Int32) at_25 rfl ?_
      refine g_goto 30 C X15 at_26 (by decide) (by decide) ?_
      exact g_retN C X15 (z' := (1 : Int32)) rfl (Or.inl rfl) at_30 eh20 (by decide) (by decide) rfl ⟨rfl, N21⟩
    · skip
      refine g_icmp_ne_t 29 C X15 at_22 (by decide) (by decide) hb22 ?_
      refine g_iconst 30 rfl C X15 (0 : Int32) at_29 rfl ?_
      exfalso
      have fr23 := rng32 p1
      have fr24 := rng32 r6
      have fr25 := rng32 p0
      have fr26 := rng32 r17
      have fc27 : (1 : Int32).toInt = 1 := rfl
      omega
  · skip
    refine g_icmp_le_t 12 C X4 at_5 (by decide) (by decide) hb11 ?_
    refine g_iconst 13 rfl C X4 (0 : Int32) at_12 rfl ?_
    refine g_istoreN 14 rfl C X4 (0 : Int32) rfl #[.val (.int p0), .val (.int p1), .val (.int (0 : Int32)), .unset] at_13 rfl ?_
    refine g_iloadN 15 rfl C X4 at_14 rfl ?_
    refine g_iloadN 16 rfl C X4 at_15 rfl ?_
    refine g_callS 19 rfl C X4 (argsL := [(.int p0), (.int p1)]) (hw _ (List.mem_of_getElem? (i := 4) rfl)) (hw _ (List.mem_of_getElem? (i := 5) rfl)) (hw _ (List.mem_of_getElem? (i := 7) rfl)) (hw _ (List.mem_of_getElem? (i := 6) rfl)) eh9 (rm2 l Z a0 hw [] p0 p1 h0 n0 Z0) (lenOf pd_1793254 rfl) (by decide) (by decide) (by decide) (by decide) rfl (W := 0) (Nat.le_of_eq rfl) (by decide) at_16 rfl fun r28 T29 Lc30 X31 hQ32 => ?_
    obtain ⟨r33, rfl, hs34, Nq35, eh36⟩ := hQ32
    have N37 := Fr.app N10 Nq35
    show Goes _ _ _ _ _ _ 19 _ [(.int r33)]
    refine g_istoreN 20 rfl C X31 r33 rfl #[.val (.int p0), .val (.int p1), .val (.int (0 : Int32)), .val (.int r33)] at_19 rfl ?_
    refine g_iloadN 21 rfl C X31 at_20 rfl ?_
    refine g_iloadN 22 rfl C X31 at_21 rfl ?_
    by_cases hb38 : r33.toInt = (0 : Int32).toInt
    · skip
      refine g_icmp_ne_f 25 rfl C X31 at_22 hb38 ?_
      refine g_iconst 26 rfl C X31 (1 : Int32) at_25 rfl ?_
      refine g_goto 30 C X31 at_26 (by decide) (by decide) ?_
      exact g_retN C X31 (z' := (1 : Int32)) rfl (Or.inl rfl) at_30 eh36 (by decide) (by decide) rfl ⟨rfl, N37⟩
    · skip
      refine g_icmp_ne_t 29 C X31 at_22 (by decide) (by decide) hb38 ?_
      refine g_iconst 30 rfl C X31 (0 : Int32) at_29 rfl ?_
      exfalso
      have fr39 := rng32 p1
      have fr40 := rng32 r6
      have fr41 := rng32 p0
      have fr42 := rng32 r33
      have fc43 : (0 : Int32).toInt = 0 := rfl
      omega
set_option maxRecDepth 65536 in
set_option maxHeartbeats 40000000 in
theorem comes_1 {Post : Tables → Env → Array Value → State → Outcome → State → Prop} (hpost : ∀ tb e args s v u, (limb_1_1.after args s (.returned v) u = true ∧ limb_1_2.after args s (.returned v) u = true ∧ True) → FrameEnd s (.returned v) u (Jvm.fieldLocs frame_1_writes args s ++ Jvm.arrayLocs frame_1_arrays args s ++ Jvm.staticLocs frame_1_statics s) 0 0 → Post tb e args s (.returned v) u) :
    ArmFor flags0 classFile x code maxLocals ret World_1 tables_1 room_1 Calls_1 rest_1 Pre_1 Post := by
  intro l hfl _ _ p e ha hc hk s m args below hf hA hF happ hP
  obtain ⟨hcalls, hrest, hpre⟩ := hP
  obtain ⟨-, -, -, hnamed, -, -, -, hat⟩ := (Spec.applies_iff hf).mp happ
  obtain ⟨hg, hn⟩ := and_e (Cond.before_iff.mp (show (Jvm.Cond.and given_1 narrow_1).before args s = true from hpre))
  obtain ⟨g1, g2⟩ := and_e hg
  obtain ⟨g3, g4⟩ := and_e g2
  obtain ⟨w0, w1, rfl⟩ : ∃ w0 w1 : Value, args = #[w0, w1] := by
    have hs : args.size = 2 := by simpa [Cond.value, given_1] using g1
    obtain ⟨L⟩ := args
    match L, hs with
    | [w0, w1], _ => exact ⟨w0, w1, rfl⟩
  have hw := fun d (hd : d ∈ tables_1) => atoms_spec (ws := Jvm.Cond.code x code maxLocals ret :: tables_1) hat d (List.mem_cons_of_mem _ hd)
  obtain ⟨i0, ei0⟩ := is_v g3
  obtain rfl : w0 = (.int i0) := Option.some.inj ei0
  obtain ⟨i1, ei1⟩ := is_v g4
  obtain rfl : w1 = (.int i1) := Option.some.inj ei1
  obtain ⟨n, o, h1, h2, h3, _, L, rfl, ⟨rfl, N⟩, hq⟩ := rm0 l s _ hw tables_1 i0 i1 s.heap s.heap.size (Nat.le_refl _) p e ha hc hk s m _ below hf ((Spec.applies_iff_loose hf).mp happ).1 ⟨rfl, State.Warmed39.refl s, rfl⟩ trivial
  refine ⟨n, _, h1, h2, h3, hpost _ _ _ _ _ _ ⟨Cond.after_iff.mpr rfl, Cond.after_iff.mpr (eq_i res_at (Term.int_eval (1)) rfl), trivial⟩ ⟨hq.1, hq.2.1, (hq.2.2.sift fun y hy => Or.inr (N y hy)).mono (by decide) (by decide)⟩⟩
theorem main_1_1 : Claimed_1_1 := comes_1 fun _ _ _ _ _ _ h hF => ⟨h.1, hF⟩
theorem main_1_2 : Claimed_1_2 := comes_1 fun _ _ _ _ _ _ h hF => ⟨h.2.1, hF⟩
end Jvm.Pilot.@@N@@
namespace Jvm.Pilot.@@N@@
open Jvm Jvm.ClassFile Sem Op Lib Jvm.Free Jvm.Stand Jvm.Pilot.@@N@@.Jvm.D
/-! MADE BY PROGRAM (witnessworld.py) out of the Statement's table words and the real class files: 9 classes; the members and pool entries that the words name. The judged class is class 1, her method 2. -/
namespace start1
open Jvm.ClassFile
def u (s : String) : CpInfo := .utf8 (stringToUtf16 s)
/-- a pool by its gaps: so many unusable entries, then the entry; so many at the end -/
def gap : Nat → List CpInfo → List CpInfo
  | 0, r => r
  | n + 1, r => .unusable :: gap n r
def poolList (es : List (Nat × CpInfo)) (last : Nat) : List CpInfo := es.foldr (fun e r => gap e.1 (e.2 :: r)) (gap last [])
def pool (es : List (Nat × CpInfo)) (last : Nat) : Array CpInfo := ⟨poolList es last⟩
def fileOf (pool : Array CpInfo) (this : Nat) (attrs : Array Attribute := #[]) (ms : Array MethodInfo := #[]) (fl : Nat := 33) (sup : Nat := 0) (ifs : Array Nat := #[]) (fds : Array FieldInfo := #[]) : ClassFile where
  minorVersion := 0
  majorVersion := 65
  constantPool := pool
  accessFlags := fl
  thisClass := this
  superClass := sup
  interfaces := ifs
  fields := fds
  methods := ms
  attributes := attrs
def plain (name : String) (sup : Option ClassId) : Class where
  name := name
  kind := .ordinary
  loader := none
  accessFlags := 33
  super := sup
  interfaces := #[]
  cf := none
  fields := #[]
  methods := #[]
  instanceTypes := #[]
  staticTypes := #[]
  resolved := #[]
  callSites := []
  init := .initialized
  statics := none
  mirror := none

def pool0 : Array CpInfo := pool [(5, u "<init>"), (0, u "()V"), (1, .class_ 10), (1, u "java/lang/Object")] 113

def k0m0 : Method := { name := "<init>", desc := "()V", sig := { parameters := [], returnType := none }, accessFlags := 1, code := none }
/-- java/lang/Object -/
def k0 : Class := { plain "java/lang/Object" none with
  accessFlags := 33
  interfaces := #[]
  cf := some (fileOf pool0 8 #[] #[{ accessFlags := 1, nameIndex := 5, descriptorIndex := 6, attributes := #[] }] 33 0 #[] #[])
  fields := #[]
  methods := #[k0m0]
  instanceTypes := #[]
  staticTypes := #[]
  resolved := Array.replicate 124 none
  statics := none }

def pool1 : Array CpInfo := pool [(2, .class_ 4), (1, u "java/lang/Object"), (0, u "<init>"), (0, u "()V"), (0, .methodref 8 9), (0, .class_ 10), (0, .nameAndType 11 12), (0, u "com/example/cairn_search/cairnsearch/vector/GraphWalkGoesThroughPinLaw"), (0, u "floorTenth"), (0, u "(I)I"), (0, .methodref 14 15), (0, .class_ 16), (0, .nameAndType 17 18), (0, u "com/example/cairn_search/cairnsearch/vector/GraphWalk"), (0, u "goesThrough"), (0, u "(II)Z"), (3, u "law")] 2

def k1m0 : Method := { name := "<init>", desc := "()V", sig := { parameters := [], returnType := none }, accessFlags := 1, code := none }
def k1c1 : Code := { maxStack := 2, maxLocals := 3, code := method_2_code, exceptionTable := #[], attributes := #[] }
def k1m1 : Method := { name := "floorTenth", desc := "(I)I", sig := { parameters := [.int], returnType := some .int }, accessFlags := 10, code := some k1c1 }
def k1c2 : Code := { maxStack := 2, maxLocals := 4, code := code, exceptionTable := #[], attributes := #[] }
def k1m2 : Method := { name := "law", desc := "(II)Z", sig := { parameters := [.int, .int], returnType := some .boolean }, accessFlags := 9, code := some k1c2 }
/-- com/example/cairn_search/cairnsearch/vector/GraphWalkGoesThroughPinLaw -/
def k1 : Class := { plain "com/example/cairn_search/cairnsearch/vector/GraphWalkGoesThroughPinLaw" (some 0) with
  accessFlags := 49
  interfaces := #[]
  cf := some (fileOf pool1 8 #[] #[{ accessFlags := 1, nameIndex := 5, descriptorIndex := 6, attributes := #[] }, { accessFlags := 10, nameIndex := 11, descriptorIndex := 12, attributes := #[] }, { accessFlags := 9, nameIndex := 22, descriptorIndex := 18, attributes := #[] }] 49 2 #[] #[])
  fields := #[]
  methods := #[k1m0, k1m1, k1m2]
  instanceTypes := #[]
  staticTypes := #[]
  resolved := Array.replicate 25 none
  statics := none }

def pool2 : Array CpInfo := pool [(2, .class_ 4), (1, u "java/lang/Object"), (3, .class_ 10), (1, u "com/example/cairn_search/cairnsearch/vector/GraphWalk"), (0, u "failed"), (0, u "[I"), (2, u "scoredNodes"), (2, u "scores"), (0, u "[D"), (7, u "toVisit"), (0, u "Lcom/example/cairn_search/cairnsearch/vector/ScoredHeap;"), (2, u "visitedIn"), (2, u "links"), (2, u "batch"), (2, u "batchScores"), (2, u "failing"), (0, u "[Z"), (2, u "throughLinks"), (2, u "beyondLinks"), (16, u "graph"), (0, u "Lcom/example/cairn_search/cairnsearch/vector/GraphLinks;"), (2, u "scorer"), (0, u "Lcom/example/cairn_search/cairnsearch/vector/GraphWalk$Scorer;"), (2, u "scored"), (0, u "I"), (2, u "walk"), (8, u "countedIn"), (2, u "scoredIn"), (2, u "visitedTwoHopsIn"), (6, u "EVERY_NODE"), (0, u "Ljava/util/function/IntPredicate;"), (5, .class_ 110), (1, u "com/example/cairn_search/cairnsearch/vector/GraphWalk$Reach"), (8, u "near"), (0, u "Lcom/example/cairn_search/cairnsearch/vector/TopK;"), (5, u "nearest"), (2, u "ways"), (4, u "scoredAtWays"), (2, u "addedNearOnly"), (3, u "Z"), (2, u "inScoredOrder"), (9, u "failedCount"), (2, u "nextFailed"), (30, u "walkingOn"), (14, u "searchingAgain"), (1, .class_ 207), (1, u "com/example/cairn_search/cairnsearch/vector/GraphWalk$Scorer"), (17, u "goesThrough"), (0, u "(II)Z"), (20, .long 10), (23, .class_ 273), (1, u "com/example/cairn_search/cairnsearch/vector/GraphWalk$TwoHops"), (3, .class_ 279), (1, u "com/example/cairn_search/cairnsearch/vector/GraphWalk$WalkOn"), (73, u "WAYS"), (2, u "AGAIN_BEAM"), (1, u "FLAT"), (0, u "D")] 35

def k2c0 : Code := { maxStack := 4, maxLocals := 2, code := prog_66_method_15_code, exceptionTable := #[], attributes := #[] }
def k2m0 : Method := { name := "goesThrough", desc := "(II)Z", sig := { parameters := [.int, .int], returnType := some .boolean }, accessFlags := 8, code := some k2c0 }
/-- com/example/cairn_search/cairnsearch/vector/GraphWalk -/
def k2 : Class := { plain "com/example/cairn_search/cairnsearch/vector/GraphWalk" (some 0) with
  accessFlags := 48
  interfaces := #[]
  cf := some (fileOf pool2 8 #[.nestMembers #[277, 271, 108, 205]] #[{ accessFlags := 8, nameIndex := 225, descriptorIndex := 226, attributes := #[] }] 48 2 #[] #[{ accessFlags := 24, nameIndex := 353, descriptorIndex := 76, attributes := #[] }, { accessFlags := 24, nameIndex := 356, descriptorIndex := 76, attributes := #[] }, { accessFlags := 24, nameIndex := 358, descriptorIndex := 359, attributes := #[] }, { accessFlags := 24, nameIndex := 101, descriptorIndex := 102, attributes := #[] }, { accessFlags := 18, nameIndex := 31, descriptorIndex := 12, attributes := #[] }, { accessFlags := 2, nameIndex := 79, descriptorIndex := 76, attributes := #[] }, { accessFlags := 18, nameIndex := 34, descriptorIndex := 12, attributes := #[] }, { accessFlags := 2, nameIndex := 37, descriptorIndex := 12, attributes := #[] }, { accessFlags := 2, nameIndex := 40, descriptorIndex := 19, attributes := #[] }, { accessFlags := 18, nameIndex := 43, descriptorIndex := 44, attributes := #[] }, { accessFlags := 18, nameIndex := 47, descriptorIndex := 12, attributes := #[] }, { accessFlags := 18, nameIndex := 50, descriptorIndex := 12, attributes := #[] }, { accessFlags := 2, nameIndex := 88, descriptorIndex := 12, attributes := #[] }, { accessFlags := 2, nameIndex := 129, descriptorIndex := 12, attributes := #[] }, { accessFlags := 2, nameIndex := 134, descriptorIndex := 76, attributes := #[] }, { accessFlags := 2, nameIndex := 137, descriptorIndex := 141, attributes := #[] }, { accessFlags := 2, nameIndex := 91, descriptorIndex := 12, attributes := #[] }, { accessFlags := 2, nameIndex := 203, descriptorIndex := 141, attributes := #[] }, { accessFlags := 2, nameIndex := 94, descriptorIndex := 12, attributes := #[] }, { accessFlags := 2, nameIndex := 188, descriptorIndex := 141, attributes := #[] }, { accessFlags := 2, nameIndex := 144, descriptorIndex := 141, attributes := #[] }, { accessFlags := 2, nameIndex := 119, descriptorIndex := 120, attributes := #[] }, { accessFlags := 2, nameIndex := 126, descriptorIndex := 120, attributes := #[] }, { accessFlags := 2, nameIndex := 11, descriptorIndex := 12, attributes := #[] }, { accessFlags := 2, nameIndex := 154, descriptorIndex := 76, attributes := #[] }, { accessFlags := 2, nameIndex := 157, descriptorIndex := 76, attributes := #[] }, { accessFlags := 2, nameIndex := 15, descriptorIndex := 12, attributes := #[] }, { accessFlags := 2, nameIndex := 18, descriptorIndex := 19, attributes := #[] }, { accessFlags := 2, nameIndex := 75, descriptorIndex := 76, attributes := #[] }, { accessFlags := 18, nameIndex := 27, descriptorIndex := 28, attributes := #[] }, { accessFlags := 2, nameIndex := 67, descriptorIndex := 68, attributes := #[] }, { accessFlags := 2, nameIndex := 71, descriptorIndex := 72, attributes := #[] }])
  fields := #[{ name := "WAYS", type := .int, accessFlags := 24, slot := 0, constantValue := 0 }, { name := "AGAIN_BEAM", type := .int, accessFlags := 24, slot := 1, constantValue := 0 }, { name := "FLAT", type := .double, accessFlags := 24, slot := 2, constantValue := 0 }, { name := "EVERY_NODE", type := (.object "java/util/function/IntPredicate"), accessFlags := 24, slot := 3, constantValue := 0 }, { name := "visitedIn", type := (.array .int), accessFlags := 18, slot := 0, constantValue := 0 }, { name := "walk", type := .int, accessFlags := 2, slot := 1, constantValue := 0 }, { name := "links", type := (.array .int), accessFlags := 18, slot := 2, constantValue := 0 }, { name := "batch", type := (.array .int), accessFlags := 2, slot := 3, constantValue := 0 }, { name := "batchScores", type := (.array .double), accessFlags := 2, slot := 4, constantValue := 0 }, { name := "failing", type := (.array .boolean), accessFlags := 18, slot := 5, constantValue := 0 }, { name := "throughLinks", type := (.array .int), accessFlags := 18, slot := 6, constantValue := 0 }, { name := "beyondLinks", type := (.array .int), accessFlags := 18, slot := 7, constantValue := 0 }, { name := "countedIn", type := (.array .int), accessFlags := 2, slot := 8, constantValue := 0 }, { name := "ways", type := (.array .int), accessFlags := 2, slot := 9, constantValue := 0 }, { name := "scoredAtWays", type := .int, accessFlags := 2, slot := 10, constantValue := 0 }, { name := "addedNearOnly", type := .boolean, accessFlags := 2, slot := 11, constantValue := 0 }, { name := "scoredIn", type := (.array .int), accessFlags := 2, slot := 12, constantValue := 0 }, { name := "searchingAgain", type := .boolean, accessFlags := 2, slot := 13, constantValue := 0 }, { name := "visitedTwoHopsIn", type := (.array .int), accessFlags := 2, slot := 14, constantValue := 0 }, { name := "walkingOn", type := .boolean, accessFlags := 2, slot := 15, constantValue := 0 }, { name := "inScoredOrder", type := .boolean, accessFlags := 2, slot := 16, constantValue := 0 }, { name := "near", type := (.object "com/example/cairn_search/cairnsearch/vector/TopK"), accessFlags := 2, slot := 17, constantValue := 0 }, { name := "nearest", type := (.object "com/example/cairn_search/cairnsearch/vector/TopK"), accessFlags := 2, slot := 18, constantValue := 0 }, { name := "failed", type := (.array .int), accessFlags := 2, slot := 19, constantValue := 0 }, { name := "failedCount", type := .int, accessFlags := 2, slot := 20, constantValue := 0 }, { name := "nextFailed", type := .int, accessFlags := 2, slot := 21, constantValue := 0 }, { name := "scoredNodes", type := (.array .int), accessFlags := 2, slot := 22, constantValue := 0 }, { name := "scores", type := (.array .double), accessFlags := 2, slot := 23, constantValue := 0 }, { name := "scored", type := .int, accessFlags := 2, slot := 24, constantValue := 0 }, { name := "toVisit", type := (.object "com/example/cairn_search/cairnsearch/vector/ScoredHeap"), accessFlags := 18, slot := 25, constantValue := 0 }, { name := "graph", type := (.object "com/example/cairn_search/cairnsearch/vector/GraphLinks"), accessFlags := 2, slot := 26, constantValue := 0 }, { name := "scorer", type := (.object "com/example/cairn_search/cairnsearch/vector/GraphWalk$Scorer"), accessFlags := 2, slot := 27, constantValue := 0 }]
  methods := #[k2m0]
  instanceTypes := #[(.array .int), .int, (.array .int), (.array .int), (.array .double), (.array .boolean), (.array .int), (.array .int), (.array .int), (.array .int), .int, .boolean, (.array .int), .boolean, (.array .int), .boolean, .boolean, (.object "com/example/cairn_search/cairnsearch/vector/TopK"), (.object "com/example/cairn_search/cairnsearch/vector/TopK"), (.array .int), .int, .int, (.array .int), (.array .double), .int, (.object "com/example/cairn_search/cairnsearch/vector/ScoredHeap"), (.object "com/example/cairn_search/cairnsearch/vector/GraphLinks"), (.object "com/example/cairn_search/cairnsearch/vector/GraphWalk$Scorer")]
  staticTypes := #[.int, .int, .double, (.object "java/util/function/IntPredicate")]
  resolved := Array.replicate 395 none
  statics := none }

def pool3 : Array CpInfo := pool [(1, u "java/lang/Cloneable"), (0, .class_ 1), (0, u "java/lang/Object"), (0, .class_ 3)] 3

/-- java/lang/Cloneable -/
def k3 : Class := { plain "java/lang/Cloneable" (some 0) with
  accessFlags := 1537
  interfaces := #[]
  cf := some (fileOf pool3 2 #[] #[] 1537 4 #[] #[])
  fields := #[]
  methods := #[]
  instanceTypes := #[]
  staticTypes := #[]
  resolved := Array.replicate 8 none
  statics := none }

def pool4 : Array CpInfo := pool [(1, u "java/io/Serializable"), (0, .class_ 1), (0, u "java/lang/Object"), (0, .class_ 3)] 3

/-- java/io/Serializable -/
def k4 : Class := { plain "java/io/Serializable" (some 0) with
  accessFlags := 1537
  interfaces := #[]
  cf := some (fileOf pool4 2 #[] #[] 1537 4 #[] #[])
  fields := #[]
  methods := #[]
  instanceTypes := #[]
  staticTypes := #[]
  resolved := Array.replicate 8 none
  statics := none }

/-- the primitive byte -/
def k5 : Class := { plain "byte" none with kind := .primitive 'B', accessFlags := 0x411 }
/-- [B -/
def k6 : Class := { plain "[B" (some 0) with kind := .array 5 .byte, interfaces := #[3, 4], accessFlags := 1041 }

/-- the primitive int -/
def k7 : Class := { plain "int" none with kind := .primitive 'I', accessFlags := 0x411 }
/-- [I -/
def k8 : Class := { plain "[I" (some 0) with kind := .array 7 .int, interfaces := #[3, 4], accessFlags := 1041 }

def heap : Heap := #[]
def classes : Array Class := #[k0, k1, k2, k3, k4, k5, k6, k7, k8]
def interned : List (Array UInt16 × Addr) := []
def slotsUsed : Nat := 0
def theMethod : MethodId := ⟨1, 2⟩
def args0 : Array Value := #[.int 5, .int 7]
def aboutOver (below : List Frame) : State where
  vm := { classes := classes, interned := interned.toArray }
  heap := heap
  slotsUsed := slotsUsed
  threads := #[{ frames := .invoking theMethod args0 :: below }]
def below0 : List Frame := [.native { method := ⟨0, 0⟩, args := #[] }]
def about1 : State := aboutOver below0
def p0 : Program := .bare "" "" ""
def e0 : Env := launch0.env 0 0 0
theorem w_frames : about1.frames = Frame.invoking theMethod args0 :: below0 := rfl
set_option maxRecDepth 65536 in
theorem w_args : argsFit about1.vm theMethod args0 = true := by decide +kernel
set_option maxRecDepth 65536 in
theorem w_heap : heapFits about1 = true := by decide +kernel
set_option maxRecDepth 65536 in
theorem w_runnable : about1.curStatus? = some .runnable := by decide +kernel
set_option maxRecDepth 65536 in
theorem w_alone : about1.alone = true := by decide +kernel
set_option maxRecDepth 65536 in
theorem w_named : about1.methodNamed? x = some theMethod := by decide +kernel
set_option maxRecDepth 65536 in
theorem w_hears : about1.hears theMethod below0 = true := by decide +kernel
set_option maxRecDepth 65536 in
theorem w_ripe : about1.ripe theMethod args0 below0 = true := by decide +kernel
theorem w_running : about1.status = .running := rfl
set_option maxRecDepth 65536 in
theorem w_room : about1.hasRoom e0.platform room_1 = true :=
  launch0.hasRoom_least _ room_1 (by decide +kernel) (by decide +kernel) (by decide +kernel) (by decide +kernel) (by decide +kernel) (by decide +kernel)
theorem allAtoms_all (ts : List Jvm.Cond) (a : Array Jvm.Value) (st : Jvm.State) : (allAtoms ts).before a st = ts.all (fun c => c.before a st) := by
  induction ts with
  | nil => rfl
  | cons c t ih =>
    show (Jvm.Cond.and c (allAtoms t)).before a st = _
    rw [Jvm.Cond.before_and, ih, List.all_cons]
def words1 : List Jvm.Cond := Jvm.Cond.code x code maxLocals ret :: tables_1
/-- a 'code' word, met by the world's own term for the bytes: nothing is compared byte by byte -/
theorem code_word {y : MethodName} {bytes : ByteArray} {mx : Nat} {rt : Option FieldType} {a : Array Value} {s : State} {m : MethodId} {meth : Method} {c : Code} (h1 : s.methodNamed? y = some m) (h2 : s.vm.method? m = some meth) (h3 : meth.code = some c) (h4 : c.code = bytes)
    (h5 : (c.maxLocals == mx && c.exceptionTable.isEmpty && decide (c.maxStack ≤ mostOperands) && decide (meth.sig.returnType = rt) && !meth.locks && decide (parseMethodDescriptor y.desc = some meth.sig)) = true) : (Jvm.Cond.code y bytes mx rt).before a s = true := by
  simp only [Bool.and_eq_true, beq_iff_eq, Bool.not_eq_true', decide_eq_true_eq] at h5
  obtain ⟨⟨⟨⟨⟨g1, g2⟩, g3⟩, g4⟩, g5⟩, g6⟩ := h5
  simp [Cond.before, Cond.holds, Cond.value, h1, h2, h3, h4, g1, g2, g3, g4, g5, g6]
def isCode : Jvm.Cond → Bool
  | .code _ _ _ _ => true
  | _ => false
theorem all_split {L : List Jvm.Cond} {P : Jvm.Cond → Bool} (h1 : L.all (fun c => isCode c || P c) = true) (h2 : ∀ c ∈ L.filter isCode, P c = true) : L.all P = true := by
  refine List.all_eq_true.mpr fun c hc => ?_
  have h := List.all_eq_true.mp h1 c hc
  rcases Bool.eq_false_or_eq_true (isCode c) with hi | hi
  · exact h2 c (List.mem_filter.mpr ⟨hc, hi⟩)
  · simpa [hi] using h
set_option maxRecDepth 65536 in
theorem w_c0 : (Jvm.Cond.code x code maxLocals ret).before args0 about1 = true := code_word (m := ⟨1, 2⟩) (meth := k1m2) (c := k1c2) (by decide +kernel) rfl rfl rfl (by decide +kernel)
set_option maxRecDepth 65536 in
theorem w_c1 : (Jvm.Cond.code ({ cls := "com/example/cairn_search/cairnsearch/vector/GraphWalkGoesThroughPinLaw", name := "floorTenth", desc := "(I)I" } : Jvm.MethodName) method_2_code (3 : Nat) (Option.some Jvm.ClassFile.FieldType.int)).before args0 about1 = true := code_word (m := ⟨1, 1⟩) (meth := k1m1) (c := k1c1) (by decide +kernel) rfl rfl rfl (by decide +kernel)
set_option maxRecDepth 65536 in
theorem w_c2 : (Jvm.Cond.code ({ cls := "com/example/cairn_search/cairnsearch/vector/GraphWalk", name := "goesThrough", desc := "(II)Z" } : Jvm.MethodName) prog_66_method_15_code (2 : Nat) (Option.some Jvm.ClassFile.FieldType.boolean)).before args0 about1 = true := code_word (m := ⟨2, 0⟩) (meth := k2m0) (c := k2c0) (by decide +kernel) rfl rfl rfl (by decide +kernel)
def codes1 : List Jvm.Cond := [Jvm.Cond.code x code maxLocals ret, Jvm.Cond.code ({ cls := "com/example/cairn_search/cairnsearch/vector/GraphWalkGoesThroughPinLaw", name := "floorTenth", desc := "(I)I" } : Jvm.MethodName) method_2_code (3 : Nat) (Option.some Jvm.ClassFile.FieldType.int), Jvm.Cond.code ({ cls := "com/example/cairn_search/cairnsearch/vector/GraphWalk", name := "goesThrough", desc := "(II)Z" } : Jvm.MethodName) prog_66_method_15_code (2 : Nat) (Option.some Jvm.ClassFile.FieldType.boolean)]
set_option maxRecDepth 65536 in
theorem codes_eq : words1.filter isCode = codes1 := rfl
theorem w_codes : ∀ c ∈ words1.filter isCode, c.before args0 about1 = true := by
  rw [codes_eq]
  intro c hc
  simp only [codes1, List.mem_cons, List.not_mem_nil, or_false] at hc
  rcases hc with rfl | rfl | rfl
  · exact w_c0
  · exact w_c1
  · exact w_c2
set_option maxRecDepth 65536 in
theorem w_t1 : words1.all (fun c => isCode c || c.before args0 about1) = true := by decide +kernel
theorem w_tables : (allAtoms (Jvm.Cond.code x code maxLocals ret :: tables_1)).before args0 about1 = true := by
  rw [allAtoms_all]
  show words1.all (fun c => c.before args0 about1) = true
  refine all_split ?_ w_codes
  rw [w_t1]
set_option maxRecDepth 65536 in
theorem w_case : (Jvm.Cond.and given_1 narrow_1).before args0 about1 = true := by decide +kernel
theorem w_applies : (headSpec (Jvm.Cond.code x code maxLocals ret :: tables_1) room_1).applies x e0.platform about1 = true :=
  (Spec.applies_iff w_frames).mpr ⟨w_running, w_runnable, w_alone, w_named, w_hears, w_ripe, w_room, w_tables⟩
theorem atStart : AtStart classFile x code maxLocals ret World_1 tables_1 room_1 Calls_1 rest_1 Pre_1 launch0 p0 e0 about1 theMethod args0 below0 :=
  ⟨lists_1, trivial, launch0.admits_env _ _ _, launch0.least_env, fairChoices_fair.cas, fairChoices_fair.clock, w_frames, w_args, w_heap, w_applies, trivial, trivial, w_case⟩
end start1
theorem witness_1 : WitnessClaimed_1 := ⟨start1.p0, start1.e0, start1.about1, start1.theMethod, start1.args0, start1.below0, start1.atStart⟩
end Jvm.Pilot.@@N@@
