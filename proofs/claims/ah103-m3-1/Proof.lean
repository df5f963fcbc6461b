import JvmDerived
import JvmDerived.Pilot.@@N@@Statement
import JvmDerived.Pilot.@@N@@Code
set_option linter.unusedVariables false
set_option linter.unusedSimpArgs false
namespace Jvm.Pilot.@@N@@
open Jvm Jvm.ClassFile Sem Op Lib Jvm.Free Jvm.Stand Jvm.LawKit Jvm.RoadKit Bundle Jvm.Pilot.@@N@@.Jvm.D
section Own
set_option maxHeartbeats 4000000
variable {p : Program} {l : Launch} {e : Env} {R : Room} {s : State} {m : MethodId} {args : Array Value} {below : List Frame} {meth : Method} {c : Code} {T : State} {locs : List Loc} {cells slots : Nat} {Z : State} {a0 : Array Value} {h : Heap} {own nm : String} {bytes : ByteArray} {ml : Nat} {rt : Option FieldType} {Q : Option Value → Heap → List Loc → Prop} {CC SS : Nat} {E : Outcome → State → Prop} {pc : Nat} {Ls : Array Slot} {St : List Value}
def Ctx (p : Program) (s : State) (m : MethodId) (meth : Method) (c : Code) (Z : State) (own nm : String) (bytes : ByteArray) (ml : Nat) (rt : Option FieldType) : Prop :=
  p.tables.exec = Jvm.exec ∧ Z.Warmed39 s.vm ∧ c.code = bytes ∧ c.maxLocals = ml ∧ s.vm.findClass own = some m.cls ∧ meth.locks = false ∧ meth.sig.returnType = rt ∧ meth.name = nm
theorem Ctx.c_x (C : Ctx p s m meth c Z own nm bytes ml rt) : p.tables.exec = Jvm.exec := C.1
theorem Ctx.c_z (C : Ctx p s m meth c Z own nm bytes ml rt) : Z.Warmed39 s.vm := C.2.1
theorem Ctx.c_by (C : Ctx p s m meth c Z own nm bytes ml rt) : c.code = bytes := C.2.2.1
theorem Ctx.c_ml (C : Ctx p s m meth c Z own nm bytes ml rt) : c.maxLocals = ml := C.2.2.2.1
theorem Ctx.c_own (C : Ctx p s m meth c Z own nm bytes ml rt) : s.vm.findClass own = some m.cls := C.2.2.2.2.1
theorem Ctx.c_lk (C : Ctx p s m meth c Z own nm bytes ml rt) : meth.locks = false := C.2.2.2.2.2.1
theorem Ctx.c_rt (C : Ctx p s m meth c Z own nm bytes ml rt) : meth.sig.returnType = rt := C.2.2.2.2.2.2.1
theorem Ctx.c_nm (C : Ctx p s m meth c Z own nm bytes ml rt) : meth.name = nm := C.2.2.2.2.2.2.2
def EndN (s : State) (Q : Option Value → Heap → List Loc → Prop) (CC SS : Nat) (o : Outcome) (t : State) : Prop := ∃ v L, o = .returned v ∧ Q v t.heap L ∧ FrameEnd s o t L CC SS
def Goes (p : Program) (e : Env) (below : List Frame) (E : Outcome → State → Prop) (T : State) (m : MethodId) (pc : Nat) (Ls : Array Slot) (St : List Value) : Prop :=
  ∃ s₂ o, Steps p.tables e below (T.setTop (mkF m pc Ls St)) s₂ ∧ s₂.status = .running ∧ Ended s₂ below o ∧ E o s₂
theorem Goes.back {T' : State} {q : Nat} {Ls' : Array Slot} {St' : List Value} (k : Goes p e below E T' m q Ls' St') (f : ∀ t, Steps p.tables e below (T'.setTop (mkF m q Ls' St')) t → Steps p.tables e below (T.setTop (mkF m pc Ls St)) t) : Goes p e below E T m pc Ls St := by
  obtain ⟨s2, o, h1, h2⟩ := k
  exact ⟨s2, o, f _ h1, h2⟩
theorem Goes.enter {g : JFrame} (hg : g = mkF m 0 Ls []) (k : Goes p e below (EndN s Q CC SS) T m 0 Ls []) : ∃ s₂ o, Steps p.tables e below (T.setTop g) s₂ ∧ s₂.status = .running ∧ Ended s₂ below o ∧ ∃ v L, o = .returned v ∧ Q v s₂.heap L ∧ FrameEnd s o s₂ L CC SS := by
  subst hg
  exact k
theorem Ctx.of {x : MethodName} {S : Spec} {s₁ : State} (Bd : BodyLoose p l x S bytes ml rt e s m args below meth c s₁) (hml : c.maxLocals = ml) (hZ : Z.Warmed39 s.vm) : Ctx p s m meth c Z x.cls x.name bytes ml rt :=
  ⟨Bd.exec, hZ, Bd.bytes, hml, findClass_of_methodNamed Bd.named, Bd.notSynchronized, Bd.returns, (name_of_methodNamed Bd.named Bd.method).1⟩
theorem g_iand (q : Nat) (hq : pc + 1 = q) (C : Ctx p s m meth c Z own nm bytes ml rt) (X : Stand p l e R s m args below meth c T locs cells slots) {x y : Int32} (hd : decode bytes pc = .ok (.iand, 1)) (k : Goes p e below E T m q Ls (.int (x &&& y) :: St)) : Goes p e below E T m pc Ls (.int y :: .int x :: St) := by
  subst hq
  exact k.back fun t kt => XS.iand (g := mkF m pc Ls (.int y :: .int x :: St)) X.here C.c_x rfl (hb C.c_by hd) rfl kt
theorem g_ladd (q : Nat) (hq : pc + 1 = q) (C : Ctx p s m meth c Z own nm bytes ml rt) (X : Stand p l e R s m args below meth c T locs cells slots) {x y : Int64} (hd : decode bytes pc = .ok (.ladd, 1)) (k : Goes p e below E T m q Ls (.long (x + y) :: St)) : Goes p e below E T m pc Ls (.long y :: .long x :: St) := by
  subst hq
  exact k.back fun t kt => XS.ladd (g := mkF m pc Ls (.long y :: .long x :: St)) X.here C.c_x rfl (hb C.c_by hd) rfl kt
theorem g_lmul (q : Nat) (hq : pc + 1 = q) (C : Ctx p s m meth c Z own nm bytes ml rt) (X : Stand p l e R s m args below meth c T locs cells slots) {x y : Int64} (hd : decode bytes pc = .ok (.lmul, 1)) (k : Goes p e below E T m q Ls (.long (x * y) :: St)) : Goes p e below E T m pc Ls (.long y :: .long x :: St) := by
  subst hq
  exact k.back fun t kt => XS.lmul (g := mkF m pc Ls (.long y :: .long x :: St)) X.here C.c_x rfl (hb C.c_by hd) rfl kt
theorem g_irem (q : Nat) (hq : pc + 1 = q) (C : Ctx p s m meth c Z own nm bytes ml rt) (X : Stand p l e R s m args below meth c T locs cells slots) {x y : Int32} (hd : decode bytes pc = .ok (.irem, 1)) (hy : y ≠ 0) (k : Goes p e below E T m q Ls (.int (x % y) :: St)) : Goes p e below E T m pc Ls (.int y :: .int x :: St) := by
  subst hq
  exact k.back fun t kt => XS.irem (g := mkF m pc Ls (.int y :: .int x :: St)) X.here C.c_x rfl (hb C.c_by hd) rfl hy (by rw [irem_eq_mod]; exact kt)
theorem g_i2l (q : Nat) (hq : pc + 1 = q) (C : Ctx p s m meth c Z own nm bytes ml rt) (X : Stand p l e R s m args below meth c T locs cells slots) {x : Int32} (hd : decode bytes pc = .ok (.i2l, 1)) (k : Goes p e below E T m q Ls (.long x.toInt64 :: St)) : Goes p e below E T m pc Ls (.int x :: St) := by
  subst hq
  exact k.back fun t kt => XS.i2l (g := mkF m pc Ls (.int x :: St)) X.here C.c_x rfl (hb C.c_by hd) rfl kt
theorem g_lcmp (q : Nat) (hq : pc + 1 = q) (C : Ctx p s m meth c Z own nm bytes ml rt) (X : Stand p l e R s m args below meth c T locs cells slots) {x y : Int64} (hd : decode bytes pc = .ok (.lcmp, 1)) (k : Goes p e below E T m q Ls (.int (lcmpW x y) :: St)) : Goes p e below E T m pc Ls (.long y :: .long x :: St) := by
  subst hq
  exact k.back fun t kt => XS.lcmp (g := mkF m pc Ls (.long y :: .long x :: St)) X.here C.c_x rfl (hb C.c_by hd) rfl kt
theorem g_iconst (q : Nat) (hq : pc + 1 = q) (C : Ctx p s m meth c Z own nm bytes ml rt) (X : Stand p l e R s m args below meth c T locs cells slots) {i : Int} (v : Int32) (hd : decode bytes pc = .ok (.iconst i, 1)) (hv : Int32.ofInt i = v) (k : Goes p e below E T m q Ls (.int v :: St)) : Goes p e below E T m pc Ls St := by
  subst hq
  exact k.back fun t kt => XS.iconst (g := mkF m pc Ls St) X.here C.c_x rfl (hb C.c_by hd) (by subst hv; exact kt)
theorem g_iloadN (q : Nat) (hq : pc + 1 = q) (C : Ctx p s m meth c Z own nm bytes ml rt) (X : Stand p l e R s m args below meth c T locs cells slots) {k0 : Fin 4} {v : Int32} (hd : decode bytes pc = .ok (.iload_n k0, 1)) (hl : Ls[k0.val]? = some (.val (.int v))) (k : Goes p e below E T m q Ls (.int v :: St)) : Goes p e below E T m pc Ls St := by
  subst hq
  exact k.back fun t kt => XS.iloadN (g := mkF m pc Ls St) X.here C.c_x rfl (hb C.c_by hd) hl kt
theorem g_iload (q : Nat) (hq : pc + 2 = q) (C : Ctx p s m meth c Z own nm bytes ml rt) (X : Stand p l e R s m args below meth c T locs cells slots) {k0 : Nat} {v : Int32} (hd : decode bytes pc = .ok (.iload k0, 2)) (hl : Ls[k0]? = some (.val (.int v))) (k : Goes p e below E T m q Ls (.int v :: St)) : Goes p e below E T m pc Ls St := by
  subst hq
  exact k.back fun t kt => XS.iload (g := mkF m pc Ls St) X.here C.c_x rfl (hb C.c_by hd) hl kt
theorem g_lloadN (q : Nat) (hq : pc + 1 = q) (C : Ctx p s m meth c Z own nm bytes ml rt) (X : Stand p l e R s m args below meth c T locs cells slots) {k0 : Fin 4} {v : Int64} (hd : decode bytes pc = .ok (.lload_n k0, 1)) (hl : Ls[k0.val]? = some (.val (.long v))) (k : Goes p e below E T m q Ls (.long v :: St)) : Goes p e below E T m pc Ls St := by
  subst hq
  exact k.back fun t kt => XS.lloadN (g := mkF m pc Ls St) X.here C.c_x rfl (hb C.c_by hd) hl kt
theorem g_lload (q : Nat) (hq : pc + 2 = q) (C : Ctx p s m meth c Z own nm bytes ml rt) (X : Stand p l e R s m args below meth c T locs cells slots) {k0 : Nat} {v : Int64} (hd : decode bytes pc = .ok (.lload k0, 2)) (hl : Ls[k0]? = some (.val (.long v))) (k : Goes p e below E T m q Ls (.long v :: St)) : Goes p e below E T m pc Ls St := by
  subst hq
  exact k.back fun t kt => XS.lload (g := mkF m pc Ls St) X.here C.c_x rfl (hb C.c_by hd) hl kt
theorem g_istore (q : Nat) (hq : pc + 2 = q) (C : Ctx p s m meth c Z own nm bytes ml rt) (X : Stand p l e R s m args below meth c T locs cells slots) {k0 : Nat} {x : Int32} (v : Int32) (hv : x = v) (Ls' : Array Slot) (hd : decode bytes pc = .ok (.istore k0, 2)) (hl : storeLocals Ls k0 (.int v) = some Ls') (k : Goes p e below E T m q Ls' St) : Goes p e below E T m pc Ls (.int x :: St) := by
  subst hq
  exact k.back fun t kt => XS.istore (g := mkF m pc Ls (.int x :: St)) X.here C.c_x rfl (hb C.c_by hd) rfl (by subst hv; exact hl) kt
theorem g_lstore (q : Nat) (hq : pc + 2 = q) (C : Ctx p s m meth c Z own nm bytes ml rt) (X : Stand p l e R s m args below meth c T locs cells slots) {k0 : Nat} {x : Int64} (v : Int64) (hv : x = v) (Ls' : Array Slot) (hd : decode bytes pc = .ok (.lstore k0, 2)) (hl : storeLocals Ls k0 (.long v) = some Ls') (k : Goes p e below E T m q Ls' St) : Goes p e below E T m pc Ls (.long x :: St) := by
  subst hq
  exact k.back fun t kt => XS.lstore (g := mkF m pc Ls (.long x :: St)) X.here C.c_x rfl (hb C.c_by hd) rfl (by subst hv; exact hl) kt
theorem g_goto (q : Nat) (C : Ctx p s m meth c Z own nm bytes ml rt) (X : Stand p l e R s m args below meth c T locs cells slots) {o : Int} (hd : decode bytes pc = .ok (.goto o, 3)) (ho : 0 ≤ (pc : Int) + o) (hp : ((pc : Int) + o).toNat = q) (k : Goes p e below E T m q Ls St) : Goes p e below E T m pc Ls St :=
  k.back fun t kt => XS.goto (g := mkF m pc Ls St) X.here C.c_x rfl (pc0 := pc) (pc' := q) rfl (hb C.c_by hd) ho hp kt
theorem own_z0 : (0 : Int32).toInt = 0 := rfl
theorem g_il_le_t (q : Nat) (C : Ctx p s m meth c Z own nm bytes ml rt) (X : Stand p l e R s m args below meth c T locs cells slots) {o : Int} {x y : Int64} (hd : decode bytes pc = .ok (.ifCond .le o, 3)) (ho : 0 ≤ (pc : Int) + o) (hp : ((pc : Int) + o).toNat = q) (h : ¬ y.toInt < x.toInt) (k : Goes p e below E T m q Ls St) : Goes p e below E T m pc Ls (.int (lcmpW x y) :: St) :=
  k.back fun t kt => XS.ifYes (g := mkF m pc Ls (.int (lcmpW x y) :: St)) X.here C.c_x rfl (pc0 := pc) (pc' := q) rfl (hb C.c_by hd) rfl ((if0 _ _).trans (flt (fun r => h (Int64.lt_iff_toInt_lt.mp ((lw_gt x y).mp r)))).2.2.2) ho hp kt
theorem g_il_le_f (q : Nat) (hq : pc + 3 = q) (C : Ctx p s m meth c Z own nm bytes ml rt) (X : Stand p l e R s m args below meth c T locs cells slots) {o : Int} {x y : Int64} (hd : decode bytes pc = .ok (.ifCond .le o, 3)) (h : y.toInt < x.toInt) (k : Goes p e below E T m q Ls St) : Goes p e below E T m pc Ls (.int (lcmpW x y) :: St) := by
  subst hq
  exact k.back fun t kt => XS.ifNo (g := mkF m pc Ls (.int (lcmpW x y) :: St)) X.here C.c_x rfl (hb C.c_by hd) rfl ((if0 _ _).trans (tlt ((lw_gt x y).mpr (Int64.lt_iff_toInt_lt.mpr h))).2.2.2) kt
theorem g_if_eq_t (q : Nat) (C : Ctx p s m meth c Z own nm bytes ml rt) (X : Stand p l e R s m args below meth c T locs cells slots) {o : Int} {x : Int32} (hd : decode bytes pc = .ok (.ifCond .eq o, 3)) (ho : 0 ≤ (pc : Int) + o) (hp : ((pc : Int) + o).toNat = q) (h : x.toInt = 0) (k : Goes p e below E T m q Ls St) : Goes p e below E T m pc Ls (.int x :: St) :=
  k.back fun t kt => XS.ifYes (g := mkF m pc Ls (.int x :: St)) X.here C.c_x rfl (pc0 := pc) (pc' := q) rfl (hb C.c_by hd) rfl ((if0 _ _).trans (teq (Int32.toInt_inj.mp h)).1) ho hp kt
theorem g_if_eq_f (q : Nat) (hq : pc + 3 = q) (C : Ctx p s m meth c Z own nm bytes ml rt) (X : Stand p l e R s m args below meth c T locs cells slots) {o : Int} {x : Int32} (hd : decode bytes pc = .ok (.ifCond .eq o, 3)) (h : ¬ x.toInt = 0) (k : Goes p e below E T m q Ls St) : Goes p e below E T m pc Ls (.int x :: St) := by
  subst hq
  exact k.back fun t kt => XS.ifNo (g := mkF m pc Ls (.int x :: St)) X.here C.c_x rfl (hb C.c_by hd) rfl ((if0 _ _).trans (feq (fun r => h (congrArg Int32.toInt r))).1) kt
theorem g_icmp_ne_t (q : Nat) (C : Ctx p s m meth c Z own nm bytes ml rt) (X : Stand p l e R s m args below meth c T locs cells slots) {o : Int} {x y : Int32} (hd : decode bytes pc = .ok (.if_icmp .ne o, 3)) (ho : 0 ≤ (pc : Int) + o) (hp : ((pc : Int) + o).toNat = q) (h : ¬ x.toInt = y.toInt) (k : Goes p e below E T m q Ls St) : Goes p e below E T m pc Ls (.int y :: .int x :: St) :=
  k.back fun t kt => XS.icmpYes (g := mkF m pc Ls (.int y :: .int x :: St)) X.here C.c_x rfl (pc0 := pc) (pc' := q) rfl (hb C.c_by hd) rfl (feq (fun r => h (congrArg Int32.toInt r))).2 ho hp kt
theorem g_icmp_ne_f (q : Nat) (hq : pc + 3 = q) (C : Ctx p s m meth c Z own nm bytes ml rt) (X : Stand p l e R s m args below meth c T locs cells slots) {o : Int} {x y : Int32} (hd : decode bytes pc = .ok (.if_icmp .ne o, 3)) (h : x.toInt = y.toInt) (k : Goes p e below E T m q Ls St) : Goes p e below E T m pc Ls (.int y :: .int x :: St) := by
  subst hq
  exact k.back fun t kt => XS.icmpNo (g := mkF m pc Ls (.int y :: .int x :: St)) X.here C.c_x rfl (hb C.c_by hd) rfl (teq (Int32.toInt_inj.mp h)).2 kt
theorem g_ldc2 (q : Nat) (hq : pc + 3 = q) (C : Ctx p s m meth c Z own nm bytes ml rt) (X : Stand p l e R s m args below meth c T locs cells slots) {i : Nat} {v : Int64} (w : (Cond.constantLong own i v).before a0 Z = true) (hd : decode bytes pc = .ok (.ldc2_w i, 3)) (k : Goes p e below E T m q Ls (.long v :: St)) : Goes p e below E T m pc Ls St := by
  subst hq
  exact k.back fun t kt => X.ldc2Long C.c_x C.c_own (mvT C.c_z w) (g := mkF m pc Ls St) rfl (hb C.c_by hd) _ kt
theorem g_retN (C : Ctx p s m meth c Z own nm bytes ml rt) (X : Stand p l e R s m args below meth c T locs cells slots) {z z' : Int32} {t : FieldType} (hrt : rt = some t) (ht : t = .boolean ∨ t = .byte ∨ t = .char ∨ t = .short) (hd : decode bytes pc = .ok (.ireturn, 1)) (eT : T.heap = h) (hc : cells ≤ CC) (hs : slots ≤ SS) (hz : nar t z = z') (hQ : Q (some (.int z')) h locs) : Goes p e below (EndN s Q CC SS) T m pc Ls (.int z :: St) := by
  obtain ⟨fs, hr, hrun, hended, hW, hsame⟩ := X.leave (v := some (.int (nar t z))) (fun r => by rw [C.c_rt, hrt] at r; cases r) C.c_lk
  subst eT
  subst hz
  exact ⟨_, _, retN X C.c_x (C.c_rt.trans hrt) ht (hb C.c_by hd) hr, hrun, hended, _, _, rfl, hQ, ⟨_, rfl⟩, hW, hsame.mono hc hs⟩
def Ba (Z : State) (h : Heap) (a : Addr) (ty : FieldType) (n : Nat) (f : Nat → Int32) : Prop := ∃ c : Cell, Arr Z h a c ty ∧ c.slots.size = n ∧ n < 2 ^ 31 ∧ (∀ k, k < n → c.slots[k]? = some (.int (f k)))
def upd (f : Nat → Int32) (j : Nat) (v : Int32) : Nat → Int32 := fun k => bif Nat.beq k j then v else f k
theorem upd_same {f : Nat → Int32} {j k : Nat} {v : Int32} (q : k = j) : upd f j v k = v := by subst q; simp [upd]
theorem upd_ne {f : Nat → Int32} {j k : Nat} {v : Int32} (q : k ≠ j) : upd f j v k = f k := by
  have : Nat.beq k j = false := by
    cases hb : Nat.beq k j with
    | false => rfl
    | true => exact absurd (Nat.eq_of_beq_eq_true hb) q
  show (bif Nat.beq k j then v else f k) = f k
  rw [this]; rfl
theorem upd_eq (f : Nat → Int32) (j k : Nat) (v : Int32) : upd f j v k = if k = j then v else f k := by
  split
  · rename_i q; exact upd_same q
  · rename_i q; exact upd_ne q
theorem Ba.lt {a : Addr} {ty : FieldType} {n : Nat} {f : Nat → Int32} (F : Ba Z h a ty n f) : a < h.size := by obtain ⟨c, A, -⟩ := F; exact A.lt
theorem Ba.ext {h' : Heap} {a : Addr} {ty : FieldType} {n : Nat} {f : Nat → Int32} (F : Ba Z h a ty n f) (E : Ext h h') : Ba Z h' a ty n f := by obtain ⟨c, A, r⟩ := F; exact ⟨c, A.ext E, r⟩
theorem Ba.other {h' : Heap} {a b : Addr} {ty : FieldType} {n sl : Nat} {v : Value} {f : Nat → Int32} (F : Ba Z h a ty n f) (W : Wr h h' b sl v) (q : a ≠ b) : Ba Z h' a ty n f := by obtain ⟨c, A, r⟩ := F; exact ⟨c, A.other W q, r⟩
theorem Ba.keep {h' : Heap} {a : Addr} {ty : FieldType} {n : Nat} {ws : List Addr} {f : Nat → Int32} (F : Ba Z h a ty n f) (K : Keep h h' ws) (q : a ∉ ws) : Ba Z h' a ty n f := by obtain ⟨c, A, r⟩ := F; exact ⟨c, ⟨K.2.1 a c A.1 q, A.2⟩, r⟩
theorem Ba.same {h' : Heap} {a : Addr} {ty : FieldType} {n j : Nat} {v : Int32} {f : Nat → Int32} (F : Ba Z h a ty n f) (W : Wr h h' a j (.int v)) : Ba Z h' a ty n (upd f j v) := by
  obtain ⟨c, A, hs, hn, hf⟩ := F
  refine ⟨_, A.same W, by simp [Cell.setSlot, hs], hn, fun k hk => ?_⟩
  rw [upd_eq]
  by_cases q : k = j
  · subst q; simp [Cell.setSlot, hs, hk]
  · rw [if_neg q]; simp only [Cell.setSlot]; rw [Array.getElem?_setIfInBounds_ne (Ne.symm q)]; exact hf k hk
theorem Ba.cong {a : Addr} {ty : FieldType} {n : Nat} {f f' : Nat → Int32} (F : Ba Z h a ty n f) (q : ∀ k, k < n → f k = f' k) : Ba Z h a ty n f' := by
  obtain ⟨c, A, hs, hn, hf⟩ := F
  exact ⟨c, A, hs, hn, fun k hk => by rw [← q k hk]; exact hf k hk⟩
theorem Ba.new {a : Addr} {cA : ClassId} {ty : FieldType} {z : Int32} {n : Nat} (A : Arr Z h a (newA cA ty z) ty) (hz : z.toInt = n) (hd : defaultValue ty = .int 0) : Ba Z h a ty n (fun _ => 0) := by
  have hr := rng32 z
  have hn : z.toNatClampNeg = n := by simp only [Int32.toNatClampNeg, hz]; rfl
  exact ⟨_, A, by rw [sz_new, hn], by omega, fun k hk => by simp [newA, hn, hk, hd]⟩
theorem own_clamp {j : Int32} {k : Nat} (hj : j.toInt = k) : j.toNatClampNeg = k ∧ ¬ j < 0 := by
  refine ⟨by simp only [Int32.toNatClampNeg, hj]; rfl, fun r => ?_⟩
  have := Int32.lt_iff_toInt_lt.mp r
  rw [hj, own_z0] at this; omega
theorem own_in {j : Int32} {k n : Nat} {c : Cell} (hs : c.slots.size = n) (hj : j.toInt = k) (hk : k < n) : ¬ (j < 0 ∨ c.slots.size ≤ j.toNatClampNeg) := by
  obtain ⟨h1, h2⟩ := own_clamp hj
  rw [h1, hs]; intro r; rcases r with r | r
  · exact h2 r
  · omega
theorem own_lenI {n : Nat} (hn : n < 2 ^ 31) : (n.toInt32).toInt = n := by
  have := len_toInt hn
  exact this
theorem own_narByte {b : Int32} (h0 : -128 ≤ b.toInt) (h1 : b.toInt < 128) : b.toInt8.toInt32 = b := by
  have := c_i2b b
  exact Int32.toInt_inj.mp (by omega)
theorem own_fitB {x : Int32} (h0 : -128 ≤ x.toInt) (h1 : x.toInt < 128) : fits .byte (.int x) = true := by
  have e := own_narByte h0 h1
  rw [← e]; exact fits_nar_byte x

theorem g_callS (q : Nat) (hq : pc + 3 = q) (C : Ctx p s m meth c Z own nm bytes ml rt) (X : Stand p l e R s m args below meth c T locs cells slots) {y : MethodName} {bytes' : ByteArray} {maxL' : Nat} {ret' : Option FieldType} {rm : Room} {Q' : Option Value → Heap → List Loc → Prop} {i W : Nat} {argsL : List Value} (w1 : (Cond.methodLink own i y).before a0 Z = true) (w2 : (Cond.static y).before a0 Z = true) (wc : (Cond.code y bytes' maxL' ret').before a0 Z = true) (wz : (Cond.initialized y.cls).before a0 Z = true) (eT : T.heap = h) (M : MetFree l y (head1 [Cond.code y bytes' maxL' ret'] rm) (fun a U => a = argsL.toArray ∧ Z.Warmed39 U.vm ∧ U.heap = h) (fun _ _ _ _ _ => True) (fun _ U o U' => ∃ v L, o = .returned v ∧ Q' v U'.heap L ∧ FrameEnd U o U' L rm.cells rm.slots)) (hlen : ∀ sig, parseMethodDescriptor y.desc = some sig → argsL.length = sig.parameters.length) (hf : rm.frames + 1 ≤ R.frames) (hl : W + (maxL' + 11) + rm.locals ≤ R.locals) (hc : cells + rm.cells ≤ R.cells) (hsl : slots + rm.slots ≤ R.slots) (hsz : Ls.size = ml) (hW : (St.map fun v => v.category).sum ≤ W) (hy : y.cls ≠ "java/lang/invoke/MethodHandle" ∧ y.cls ≠ "java/lang/invoke/VarHandle") (hd : decode bytes pc = .ok (.invokestatic i, 3)) {St0 : List Value} (hst : St0 = argsL.reverse ++ St)
    (k : ∀ v T' L, Stand p l e R s m args below meth c T' (locs ++ L) (cells + rm.cells) (slots + rm.slots) → Q' v T'.heap L → Goes p e below E T' m q Ls (v.toList ++ St)) : Goes p e below E T m pc Ls St0 := by
  subst hq hst
  obtain ⟨v, _, ⟨T', L', k', n'⟩, -, X', ⟨Lc, hQ', l', y', z'⟩, st⟩ := Jvm.LawKit.callS X C.c_x (y := y) C.c_own (mvT C.c_z w1) (mvT C.c_z w2) (mvT C.c_z wz) (mvT C.c_z wc) hy (backOf (W := W) M C.c_z wc wz hf hl) (g := mkF m pc Ls (argsL.reverse ++ St)) rfl (hsz.trans C.c_ml.symm) (argsL := argsL) (rest := St) hlen rfl (by show 2 * 0 + _ ≤ _; omega) (hb C.c_by hd) (fun _ _ => ⟨rfl, eT, hc, hsl⟩)
  dsimp only [Pt.U, Pt.locs, Pt.cells, Pt.slots] at X' l' y' z' st hQ'
  subst l' y' z'
  exact (k v T' Lc X' hQ').back fun t kt => st t kt
end Own
section OwnArith
theorem own_mulc (x y : Int32) (k : Int) (hk : y.toInt = k) : ((x * y).toInt - x.toInt * k) % 4294967296 = 0 := hk ▸ c_imul x y
theorem own_mulc' (x y : Int32) (k : Int) (hk : x.toInt = k) : ((x * y).toInt - k * y.toInt) % 4294967296 = 0 := hk ▸ c_imul x y
theorem own_lmulc (x y : Int64) (k : Int) (hk : y.toInt = k) : ((x * y).toInt - x.toInt * k) % 18446744073709551616 = 0 := hk ▸ c_lmul x y
theorem own_lmulc' (x y : Int64) (k : Int) (hk : x.toInt = k) : ((x * y).toInt - k * y.toInt) % 18446744073709551616 = 0 := hk ▸ c_lmul x y
theorem own_bvor (x y : BitVec 32) : (x ||| y) + (x &&& y) = x + y := by
  have h1 : x = (x &&& y) + (x &&& ~~~y) := by
    rw [BitVec.add_eq_or_of_and_eq_zero]
    · ext i; simp; cases x[i] <;> cases y[i] <;> rfl
    · ext i; simp; cases x[i] <;> cases y[i] <;> simp
  have h2 : x ||| y = y + (x &&& ~~~y) := by
    rw [BitVec.add_eq_or_of_and_eq_zero]
    · ext i; simp; cases x[i] <;> cases y[i] <;> rfl
    · ext i; simp; cases x[i] <;> cases y[i] <;> simp
  rw [h2]
  conv => rhs; rw [h1]
  ac_rfl
theorem own_or0 (x y : Int32) : (x ||| y) + (x &&& y) = x + y := Int32.toBitVec_inj.mp (by simpa using own_bvor x.toBitVec y.toBitVec)
theorem own_or (x y : Int32) : ((x ||| y).toInt + (x &&& y).toInt - (x.toInt + y.toInt)) % 4294967296 = 0 := by
  have h1 := c_iadd (x ||| y) (x &&& y)
  have h2 := c_iadd x y
  rw [own_or0] at h1; omega
theorem own_bvblk (x m a b : BitVec 32) (h1 : m ||| a = b) (h2 : m &&& a = 0#32) : (x &&& m) + (x &&& a) = x &&& b := by
  rw [BitVec.add_eq_or_of_and_eq_zero, ← h1]
  · ext i; simp; cases x[i] <;> simp
  · have : (x &&& m) &&& (x &&& a) = x &&& (m &&& a) := by ext i; simp; cases x[i] <;> simp
    rw [this, h2]; simp
theorem own_blk (x m a b : Int32) (h1 : m ||| a = b) (h2 : m &&& a = 0) : ((x &&& m).toInt + (x &&& a).toInt - (x &&& b).toInt) % 4294967296 = 0 := by
  have e : (x &&& m) + (x &&& a) = x &&& b := Int32.toBitVec_inj.mp (by
    have q1 := congrArg Int32.toBitVec h1
    have q2 := congrArg Int32.toBitVec h2
    simpa using own_bvblk x.toBitVec m.toBitVec a.toBitVec b.toBitVec (by simpa using q1) (by simpa using q2))
  have := c_iadd (x &&& m) (x &&& a)
  rw [e] at this; omega
theorem own_andM1 (x : Int32) : x &&& (-1) = x := Int32.toBitVec_inj.mp (by ext i; simp)
theorem own_narZ {b : Int32} (hb : b.toInt = 0 ∨ b.toInt = 1) : nar .boolean b = b := by
  have : b = 0 ∨ b = 1 := by
    rcases hb with q | q
    · exact Or.inl (Int32.toInt_inj.mp q)
    · exact Or.inr (Int32.toInt_inj.mp q)
  rcases this with rfl | rfl <;> decide
theorem own_narC {b : Int32} (h0 : 0 ≤ b.toInt) (h1 : b.toInt < 65536) : nar .char b = b := by
  have := c_i2c b
  exact Int32.toInt_inj.mp (by show b.toUInt32.toUInt16.toUInt32.toInt32.toInt = _; omega)
theorem own_narB {b : Int32} (h0 : -128 ≤ b.toInt) (h1 : b.toInt < 128) : nar .byte b = b := by
  have := c_i2b b
  exact Int32.toInt_inj.mp (by show b.toInt8.toInt32.toInt = _; omega)
theorem own_eq {x y : Int32} (q : x.toInt = y.toInt) : x = y := Int32.toInt_inj.mp q
theorem own_eqL {x y : Int64} (q : x.toInt = y.toInt) : x = y := Int64.toInt_inj.mp q
end OwnArith


theorem d1_0 : decode prog_17_method_6_code 0 = .ok (.lload_n 0, 1) := by decide +kernel
theorem d1_1 : decode prog_17_method_6_code 1 = .ok (.ldc2_w 15, 3) := by decide +kernel
theorem d1_4 : decode prog_17_method_6_code 4 = .ok (.iload_n 2, 1) := by decide +kernel
theorem d1_5 : decode prog_17_method_6_code 5 = .ok (.i2l, 1) := by decide +kernel
theorem d1_6 : decode prog_17_method_6_code 6 = .ok (.lmul, 1) := by decide +kernel
theorem d1_7 : decode prog_17_method_6_code 7 = .ok (.ldc2_w 17, 3) := by decide +kernel
theorem d1_10 : decode prog_17_method_6_code 10 = .ok (.iload_n 3, 1) := by decide +kernel
theorem d1_11 : decode prog_17_method_6_code 11 = .ok (.i2l, 1) := by decide +kernel
theorem d1_12 : decode prog_17_method_6_code 12 = .ok (.lmul, 1) := by decide +kernel
theorem d1_13 : decode prog_17_method_6_code 13 = .ok (.ladd, 1) := by decide +kernel
theorem d1_14 : decode prog_17_method_6_code 14 = .ok (.lcmp, 1) := by decide +kernel
theorem d1_15 : decode prog_17_method_6_code 15 = .ok (.ifCond .le 7, 3) := by decide +kernel
theorem d1_18 : decode prog_17_method_6_code 18 = .ok (.iconst 1, 1) := by decide +kernel
theorem d1_19 : decode prog_17_method_6_code 19 = .ok (.goto 4, 3) := by decide +kernel
theorem d1_23 : decode prog_17_method_6_code 23 = .ok (.ireturn, 1) := by decide +kernel
theorem d1_22 : decode prog_17_method_6_code 22 = .ok (.iconst 0, 1) := by decide +kernel
theorem pn_68539470 : plainName "com/example/otsing/otsing/algorithm/BackwardScan" = true := by first | (simp [plainName, overriddenIn]; done) | decide +kernel
theorem ef_1 (m : MethodId) (p0 : Int64) (p1 : Int32) (p2 : Int32) : entryFrame m #[(.long p0), (.int p1), (.int p2)] 4 = mkF m 0 #[.val (.long p0), .second, .val (.int p1), .val (.int p2)] [] := by first | (simp [entryFrame, mkF, argsToLocals, Value.category]; done) | rfl
def Q1 (Z : State) (p0 : Int64) (p1 : Int32) (p2 : Int32) (h0 : Heap) (n0 : Nat) (v : Option Value) (h : Heap) (L : List Loc) : Prop := ∃ r : Int32, v = some (.int r) ∧ ((r.toInt = 1 ∧ 4 * p1.toInt + 2 * p2.toInt < p0.toInt) ∨ (r.toInt = 0 ∧ ¬ 4 * p1.toInt + 2 * p2.toInt < p0.toInt)) ∧ Fr n0 L ∧ h = h0
set_option maxRecDepth 65536 in
set_option maxHeartbeats 40000000 in
theorem rm1 (l : Launch) (Z : State) (a0 : Array Value) (hw : ∀ d ∈ tables_1, d.before a0 Z = true) (ws : List Jvm.Cond) (p0 : Int64) (p1 : Int32) (p2 : Int32) (h0 : Heap) (n0 : Nat) (Z0 : n0 ≤ h0.size) :
    MetFree l (⟨"com/example/otsing/otsing/algorithm/BackwardScan", "overBudget", "(JII)Z"⟩ : MethodName) (head1 (Jvm.Cond.code (⟨"com/example/otsing/otsing/algorithm/BackwardScan", "overBudget", "(JII)Z"⟩ : MethodName) prog_17_method_6_code 4 (some .boolean) :: ws) ({ frames := 0, cells := 0, slots := 0, locals := 0 } : Room)) (fun a U => a = #[(.long p0), (.int p1), (.int p2)] ∧ Z.Warmed39 U.vm ∧ U.heap = h0) (fun _ _ _ _ _ => True) (fun _ U o U' => ∃ v L, o = .returned v ∧ Q1 Z p0 p1 p2 h0 n0 v U'.heap L ∧ FrameEnd U o U' L ({ frames := 0, cells := 0, slots := 0, locals := 0 } : Room).cells ({ frames := 0, cells := 0, slots := 0, locals := 0 } : Room).slots) := by
  refine MetFree.of_bodySF (plainFor_of_name pn_68539470) hisR ?_
  intro p e s m args below meth c s₁ Bd hml0 hP hK
  obtain ⟨rfl, hZ, hh⟩ := hP
  have C : Ctx p s m meth c Z "com/example/otsing/otsing/algorithm/BackwardScan" "overBudget" prog_17_method_6_code 4 (some .boolean) := Ctx.of Bd hml0 hZ
  have X0 : Stand p l e ({ frames := 0, cells := 0, slots := 0, locals := 0 } : Room) s m #[(.long p0), (.int p1), (.int p2)] below meth c s₁ [] 0 0 := Stand.of_body Bd
  have e0 : s₁.heap = h0 := by rw [← hh, Bd.state]; rfl
  have N0 := Fr.nil n0
  refine Goes.enter (ef_1 m p0 p1 p2) ?_
  clear hK hml0 hh
  refine g_lloadN 1 rfl C X0 d1_0 rfl ?_
  refine g_ldc2 4 rfl C X0 (hw _ (List.mem_of_getElem? (i := 4) rfl)) d1_1 ?_
  refine g_iloadN 5 rfl C X0 d1_4 rfl ?_
  refine g_i2l 6 rfl C X0 d1_5 ?_
  refine g_lmul 7 rfl C X0 d1_6 ?_
  refine g_ldc2 10 rfl C X0 (hw _ (List.mem_of_getElem? (i := 5) rfl)) d1_7 ?_
  refine g_iloadN 11 rfl C X0 d1_10 rfl ?_
  refine g_i2l 12 rfl C X0 d1_11 ?_
  refine g_lmul 13 rfl C X0 d1_12 ?_
  refine g_ladd 14 rfl C X0 d1_13 ?_
  refine g_lcmp 15 rfl C X0 d1_14 ?_
  by_cases hb1 : (((4 : Int64) * ((p1).toInt64)) + ((2 : Int64) * ((p2).toInt64))).toInt < p0.toInt
  · skip
    refine g_il_le_f 18 rfl C X0 d1_15 hb1 ?_
    refine g_iconst 19 rfl C X0 (1 : Int32) d1_18 rfl ?_
    refine g_goto 23 C X0 d1_19 (by decide) (by decide) ?_
    have fr2 := rng64 p0
    have fc3 : (4 : Int64).toInt = 4 := rfl
    have fr4 := rng32 p1
    have fo5 := c_i2l p1
    have fo6 := own_lmulc' (4 : Int64) ((p1).toInt64) 4 rfl
    have fr7 := rng64 ((4 : Int64) * ((p1).toInt64))
    have fc8 : (2 : Int64).toInt = 2 := rfl
    have fr9 := rng32 p2
    have fo10 := c_i2l p2
    have fo11 := own_lmulc' (2 : Int64) ((p2).toInt64) 2 rfl
    have fr12 := rng64 ((2 : Int64) * ((p2).toInt64))
    have fo13 := c_ladd ((4 : Int64) * ((p1).toInt64)) ((2 : Int64) * ((p2).toInt64))
    have fr14 := rng64 (((4 : Int64) * ((p1).toInt64)) + ((2 : Int64) * ((p2).toInt64)))
    have fc15 : (1 : Int32).toInt = 1 := rfl
    exact g_retN C X0 (z' := (1 : Int32)) rfl (Or.inl rfl) d1_23 e0 (by decide) (by decide) rfl ⟨_, rfl, by omega, N0, rfl⟩
  · skip
    refine g_il_le_t 22 C X0 d1_15 (by decide) (by decide) hb1 ?_
    refine g_iconst 23 rfl C X0 (0 : Int32) d1_22 rfl ?_
    have fr16 := rng64 p0
    have fc17 : (4 : Int64).toInt = 4 := rfl
    have fr18 := rng32 p1
    have fo19 := c_i2l p1
    have fo20 := own_lmulc' (4 : Int64) ((p1).toInt64) 4 rfl
    have fr21 := rng64 ((4 : Int64) * ((p1).toInt64))
    have fc22 : (2 : Int64).toInt = 2 := rfl
    have fr23 := rng32 p2
    have fo24 := c_i2l p2
    have fo25 := own_lmulc' (2 : Int64) ((p2).toInt64) 2 rfl
    have fr26 := rng64 ((2 : Int64) * ((p2).toInt64))
    have fo27 := c_ladd ((4 : Int64) * ((p1).toInt64)) ((2 : Int64) * ((p2).toInt64))
    have fr28 := rng64 (((4 : Int64) * ((p1).toInt64)) + ((2 : Int64) * ((p2).toInt64)))
    have fc29 : (0 : Int32).toInt = 0 := rfl
    exact g_retN C X0 (z' := (0 : Int32)) rfl (Or.inl rfl) d1_23 e0 (by decide) (by decide) rfl ⟨_, rfl, by omega, N0, rfl⟩
theorem pd_29959018 : parseMethodDescriptor "(JII)Z" = some ⟨[.long, .int, .int], some .boolean⟩ := by decide +kernel
theorem pn_85286852 : plainName "com/example/otsing/otsing/algorithm/BackwardScanOverBudgetPinLaw" = true := by first | (simp [plainName, overriddenIn]; done) | decide +kernel
theorem ef_0 (m : MethodId) (p0 : Int64) (p1 : Int32) (p2 : Int32) (p3 : Int32) (p4 : Int32) : entryFrame m #[(.long p0), (.int p1), (.int p2), (.int p3), (.int p4)] maxLocals = mkF m 0 #[.val (.long p0), .second, .val (.int p1), .val (.int p2), .val (.int p3), .val (.int p4), .unset, .unset, .unset, .unset, .unset] [] := by first | (simp [entryFrame, mkF, argsToLocals, Value.category, maxLocals]; done) | rfl
def Q0 (Z : State) (p0 : Int64) (p1 : Int32) (p2 : Int32) (p3 : Int32) (p4 : Int32) (h0 : Heap) (n0 : Nat) (v : Option Value) (h : Heap) (L : List Loc) : Prop := v = some (.int 1) ∧ Fr n0 L
set_option maxRecDepth 65536 in
set_option maxHeartbeats 40000000 in
theorem rm0 (l : Launch) (Z : State) (a0 : Array Value) (hw : ∀ d ∈ tables_1, d.before a0 Z = true) (ws : List Jvm.Cond) (p0 : Int64) (p1 : Int32) (p2 : Int32) (p3 : Int32) (p4 : Int32) (h0 : Heap) (n0 : Nat) (Z0 : n0 ≤ h0.size) :
    MetFree l x (head1 (Jvm.Cond.code x code maxLocals ret :: ws) room_1) (fun a U => a = #[(.long p0), (.int p1), (.int p2), (.int p3), (.int p4)] ∧ Z.Warmed39 U.vm ∧ U.heap = h0) (fun _ _ _ _ _ => True) (fun _ U o U' => ∃ v L, o = .returned v ∧ Q0 Z p0 p1 p2 p3 p4 h0 n0 v U'.heap L ∧ FrameEnd U o U' L 0 0) := by
  refine MetFree.of_bodySF (plainFor_of_name pn_85286852) hisR ?_
  intro p e s m args below meth c s₁ Bd hml0 hP hK
  obtain ⟨rfl, hZ, hh⟩ := hP
  have C : Ctx p s m meth c Z "com/example/otsing/otsing/algorithm/BackwardScanOverBudgetPinLaw" "law" code maxLocals ret := Ctx.of Bd hml0 hZ
  have X0 : Stand p l e room_1 s m #[(.long p0), (.int p1), (.int p2), (.int p3), (.int p4)] below meth c s₁ [] 0 0 := Stand.of_body Bd
  have e0 : s₁.heap = h0 := by rw [← hh, Bd.state]; rfl
  have N0 := Fr.nil n0
  refine Goes.enter (ef_0 m p0 p1 p2 p3 p4) ?_
  clear hK hml0 hh
  refine g_iloadN 1 rfl C X0 at_0 rfl ?_
  refine g_i2l 2 rfl C X0 at_1 ?_
  refine g_iloadN 3 rfl C X0 at_2 rfl ?_
  refine g_i2l 4 rfl C X0 at_3 ?_
  refine g_ladd 5 rfl C X0 at_4 ?_
  refine g_iloadN 6 rfl C X0 at_5 rfl ?_
  refine g_i2l 7 rfl C X0 at_6 ?_
  refine g_ladd 8 rfl C X0 at_7 ?_
  refine g_iloadN 9 rfl C X0 at_8 rfl ?_
  refine g_i2l 10 rfl C X0 at_9 ?_
  refine g_ladd 11 rfl C X0 at_10 ?_
  refine g_iloadN 12 rfl C X0 at_11 rfl ?_
  refine g_i2l 13 rfl C X0 at_12 ?_
  refine g_ladd 14 rfl C X0 at_13 ?_
  refine g_iloadN 15 rfl C X0 at_14 rfl ?_
  refine g_i2l 16 rfl C X0 at_15 ?_
  refine g_ladd 17 rfl C X0 at_16 ?_
  obtain ⟨v1, hv1⟩ : ∃ z : Int64, (((((((p1).toInt64) + ((p1).toInt64)) + ((p1).toInt64)) + ((p1).toInt64)) + ((p2).toInt64)) + ((p2).toInt64)) = z := ⟨_, rfl⟩
  refine g_lstore 19 rfl C X0 v1 hv1 #[.val (.long p0), .second, .val (.int p1), .val (.int p2), .val (.int p3), .val (.int p4), .val (.long v1), .second, .unset, .unset, .unset] at_17 rfl ?_
  refine g_iload 21 rfl C X0 at_19 rfl ?_
  refine g_iconst 22 rfl C X0 (1 : Int32) at_21 rfl ?_
  refine g_iand 23 rfl C X0 at_22 ?_
  by_cases hb2 : (p4 &&& (1 : Int32)).toInt = 0
  · skip
    refine g_if_eq_t 32 C X0 at_23 (by decide) (by decide) hb2 ?_
    refine g_lload 34 rfl C X0 at_32 rfl ?_
    refine g_iload 36 rfl C X0 at_34 rfl ?_
    refine g_iconst 37 rfl C X0 (4 : Int32) at_36 rfl ?_
    refine g_irem 38 rfl C X0 at_37 (by decide) ?_
    refine g_i2l 39 rfl C X0 at_38 ?_
    refine g_ladd 40 rfl C X0 at_39 ?_
    obtain ⟨v3, hv3⟩ : ∃ z : Int64, (v1 + (((p3 % (4 : Int32))).toInt64)) = z := ⟨_, rfl⟩
    refine g_lstore 42 rfl C X0 v3 hv3 #[.val (.long p0), .second, .val (.int p1), .val (.int p2), .val (.int p3), .val (.int p4), .val (.long v1), .second, .val (.long v3), .second, .unset] at_40 rfl ?_
    refine g_lload 44 rfl C X0 at_42 rfl ?_
    refine g_lload 46 rfl C X0 at_44 rfl ?_
    refine g_lcmp 47 rfl C X0 at_46 ?_
    by_cases hb4 : v1.toInt < v3.toInt
    · skip
      refine g_il_le_f 50 rfl C X0 at_47 hb4 ?_
      refine g_iconst 51 rfl C X0 (1 : Int32) at_50 rfl ?_
      refine g_goto 55 C X0 at_51 (by decide) (by decide) ?_
      refine g_istore 57 rfl C X0 (1 : Int32) rfl #[.val (.long p0), .second, .val (.int p1), .val (.int p2), .val (.int p3), .val (.int p4), .val (.long v1), .second, .val (.long v3), .second, .val (.int (1 : Int32))] at_55 rfl ?_
      refine g_lload 59 rfl C X0 at_57 rfl ?_
      refine g_iloadN 60 rfl C X0 at_59 rfl ?_
      refine g_iloadN 61 rfl C X0 at_60 rfl ?_
      refine g_callS 64 rfl C X0 (argsL := [(.long v3), (.int p1), (.int p2)]) (hw _ (List.mem_of_getElem? (i := 0) rfl)) (hw _ (List.mem_of_getElem? (i := 1) rfl)) (hw _ (List.mem_of_getElem? (i := 3) rfl)) (hw _ (List.mem_of_getElem? (i := 2) rfl)) e0 (rm1 l Z a0 hw [] v3 p1 p2 h0 n0 Z0) (lenOf pd_29959018 rfl) (by decide) (by decide) (by decide) (by decide) rfl (W := 0) (by decide) (by decide) at_61 rfl fun r5 T6 Lc7 X8 hQ9 => ?_
      obtain ⟨r10, rfl, hs11, Nq12, eh13⟩ := hQ9
      have N14 := Fr.app N0 Nq12
      show Goes _ _ _ _ _ _ 64 _ [(.int r10)]
      refine g_iload 66 rfl C X8 at_64 rfl ?_
      by_cases hb15 : r10.toInt = (1 : Int32).toInt
      · skip
        refine g_icmp_ne_f 69 rfl C X8 at_66 hb15 ?_
        refine g_iconst 70 rfl C X8 (1 : Int32) at_69 rfl ?_
        refine g_goto 74 C X8 at_70 (by decide) (by decide) ?_
        exact g_retN C X8 (z' := (1 : Int32)) rfl (Or.inl rfl) at_74 eh13 (by decide) (by decide) rfl ⟨rfl, N14⟩
      · skip
        refine g_icmp_ne_t 73 C X8 at_66 (by decide) (by decide) hb15 ?_
        refine g_iconst 74 rfl C X8 (0 : Int32) at_73 rfl ?_
        exfalso
        have fr16 := rng32 p4
        have fc17 : (1 : Int32).toInt = 1 := rfl
        have fo18 : (p4 &&& (1 : Int32)).toInt = p4.toInt % 2 := c_mask p4 (1 : Int32) 1 (by decide) (by decide)
        have fr19 := rng64 v3
        have fr20 := rng64 v1
        have fr21 := rng32 p1
        have fo22 := c_i2l p1
        have fo23 := c_ladd ((p1).toInt64) ((p1).toInt64)
        have fr24 := rng64 (((p1).toInt64) + ((p1).toInt64))
        have fo25 := c_ladd (((p1).toInt64) + ((p1).toInt64)) ((p1).toInt64)
        have fr26 := rng64 ((((p1).toInt64) + ((p1).toInt64)) + ((p1).toInt64))
        have fo27 := c_ladd ((((p1).toInt64) + ((p1).toInt64)) + ((p1).toInt64)) ((p1).toInt64)
        have fr28 := rng64 (((((p1).toInt64) + ((p1).toInt64)) + ((p1).toInt64)) + ((p1).toInt64))
        have fr29 := rng32 p2
        have fo30 := c_i2l p2
        have fo31 := c_ladd (((((p1).toInt64) + ((p1).toInt64)) + ((p1).toInt64)) + ((p1).toInt64)) ((p2).toInt64)
        have fr32 := rng64 ((((((p1).toInt64) + ((p1).toInt64)) + ((p1).toInt64)) + ((p1).toInt64)) + ((p2).toInt64))
        have fo33 := c_ladd ((((((p1).toInt64) + ((p1).toInt64)) + ((p1).toInt64)) + ((p1).toInt64)) + ((p2).toInt64)) ((p2).toInt64)
        have fr34 := rng64 (((((((p1).toInt64) + ((p1).toInt64)) + ((p1).toInt64)) + ((p1).toInt64)) + ((p2).toInt64)) + ((p2).toInt64))
        have fe35 : (((((((p1).toInt64) + ((p1).toInt64)) + ((p1).toInt64)) + ((p1).toInt64)) + ((p2).toInt64)) + ((p2).toInt64)).toInt = v1.toInt := congrArg Int64.toInt hv1
        have fr36 := rng32 p3
        have fc37 : (4 : Int32).toInt = 4 := rfl
        have fo38 := c_irem p3 (4 : Int32) 4 rfl
        have fr39 := rng32 (p3 % (4 : Int32))
        have fo40 := c_i2l (p3 % (4 : Int32))
        have fo41 := c_ladd v1 (((p3 % (4 : Int32))).toInt64)
        have fr42 := rng64 (v1 + (((p3 % (4 : Int32))).toInt64))
        have fe43 : (v1 + (((p3 % (4 : Int32))).toInt64)).toInt = v3.toInt := congrArg Int64.toInt hv3
        have fr44 := rng32 r10
        omega
    · skip
      refine g_il_le_t 54 C X0 at_47 (by decide) (by decide) hb4 ?_
      refine g_iconst 55 rfl C X0 (0 : Int32) at_54 rfl ?_
      refine g_istore 57 rfl C X0 (0 : Int32) rfl #[.val (.long p0), .second, .val (.int p1), .val (.int p2), .val (.int p3), .val (.int p4), .val (.long v1), .second, .val (.long v3), .second, .val (.int (0 : Int32))] at_55 rfl ?_
      refine g_lload 59 rfl C X0 at_57 rfl ?_
      refine g_iloadN 60 rfl C X0 at_59 rfl ?_
      refine g_iloadN 61 rfl C X0 at_60 rfl ?_
      refine g_callS 64 rfl C X0 (argsL := [(.long v3), (.int p1), (.int p2)]) (hw _ (List.mem_of_getElem? (i := 0) rfl)) (hw _ (List.mem_of_getElem? (i := 1) rfl)) (hw _ (List.mem_of_getElem? (i := 3) rfl)) (hw _ (List.mem_of_getElem? (i := 2) rfl)) e0 (rm1 l Z a0 hw [] v3 p1 p2 h0 n0 Z0) (lenOf pd_29959018 rfl) (by decide) (by decide) (by decide) (by decide) rfl (W := 0) (by decide) (by decide) at_61 rfl fun r45 T46 Lc47 X48 hQ49 => ?_
      obtain ⟨r50, rfl, hs51, Nq52, eh53⟩ := hQ49
      have N54 := Fr.app N0 Nq52
      show Goes _ _ _ _ _ _ 64 _ [(.int r50)]
      refine g_iload 66 rfl C X48 at_64 rfl ?_
      by_cases hb55 : r50.toInt = (0 : Int32).toInt
      · skip
        refine g_icmp_ne_f 69 rfl C X48 at_66 hb55 ?_
        refine g_iconst 70 rfl C X48 (1 : Int32) at_69 rfl ?_
        refine g_goto 74 C X48 at_70 (by decide) (by decide) ?_
        exact g_retN C X48 (z' := (1 : Int32)) rfl (Or.inl rfl) at_74 eh53 (by decide) (by decide) rfl ⟨rfl, N54⟩
      · skip
        refine g_icmp_ne_t 73 C X48 at_66 (by decide) (by decide) hb55 ?_
        refine g_iconst 74 rfl C X48 (0 : Int32) at_73 rfl ?_
        exfalso
        have fr56 := rng32 p4
        have fc57 : (1 : Int32).toInt = 1 := rfl
        have fo58 : (p4 &&& (1 : Int32)).toInt = p4.toInt % 2 := c_mask p4 (1 : Int32) 1 (by decide) (by decide)
        have fr59 := rng64 v3
        have fr60 := rng64 v1
        have fr61 := rng32 p1
        have fo62 := c_i2l p1
        have fo63 := c_ladd ((p1).toInt64) ((p1).toInt64)
        have fr64 := rng64 (((p1).toInt64) + ((p1).toInt64))
        have fo65 := c_ladd (((p1).toInt64) + ((p1).toInt64)) ((p1).toInt64)
        have fr66 := rng64 ((((p1).toInt64) + ((p1).toInt64)) + ((p1).toInt64))
        have fo67 := c_ladd ((((p1).toInt64) + ((p1).toInt64)) + ((p1).toInt64)) ((p1).toInt64)
        have fr68 := rng64 (((((p1).toInt64) + ((p1).toInt64)) + ((p1).toInt64)) + ((p1).toInt64))
        have fr69 := rng32 p2
        have fo70 := c_i2l p2
        have fo71 := c_ladd (((((p1).toInt64) + ((p1).toInt64)) + ((p1).toInt64)) + ((p1).toInt64)) ((p2).toInt64)
        have fr72 := rng64 ((((((p1).toInt64) + ((p1).toInt64)) + ((p1).toInt64)) + ((p1).toInt64)) + ((p2).toInt64))
        have fo73 := c_ladd ((((((p1).toInt64) + ((p1).toInt64)) + ((p1).toInt64)) + ((p1).toInt64)) + ((p2).toInt64)) ((p2).toInt64)
        have fr74 := rng64 (((((((p1).toInt64) + ((p1).toInt64)) + ((p1).toInt64)) + ((p1).toInt64)) + ((p2).toInt64)) + ((p2).toInt64))
        have fe75 : (((((((p1).toInt64) + ((p1).toInt64)) + ((p1).toInt64)) + ((p1).toInt64)) + ((p2).toInt64)) + ((p2).toInt64)).toInt = v1.toInt := congrArg Int64.toInt hv1
        have fr76 := rng32 p3
        have fc77 : (4 : Int32).toInt = 4 := rfl
        have fo78 := c_irem p3 (4 : Int32) 4 rfl
        have fr79 := rng32 (p3 % (4 : Int32))
        have fo80 := c_i2l (p3 % (4 : Int32))
        have fo81 := c_ladd v1 (((p3 % (4 : Int32))).toInt64)
        have fr82 := rng64 (v1 + (((p3 % (4 : Int32))).toInt64))
        have fe83 : (v1 + (((p3 % (4 : Int32))).toInt64)).toInt = v3.toInt := congrArg Int64.toInt hv3
        have fr84 := rng32 r50
        have fc85 : (0 : Int32).toInt = 0 := rfl
        omega
  · skip
    refine g_if_eq_f 26 rfl C X0 at_23 hb2 ?_
    refine g_lloadN 27 rfl C X0 at_26 rfl ?_
    refine g_lstore 29 rfl C X0 p0 rfl #[.val (.long p0), .second, .val (.int p1), .val (.int p2), .val (.int p3), .val (.int p4), .val (.long v1), .second, .val (.long p0), .second, .unset] at_27 rfl ?_
    refine g_goto 42 C X0 at_29 (by decide) (by decide) ?_
    refine g_lload 44 rfl C X0 at_42 rfl ?_
    refine g_lload 46 rfl C X0 at_44 rfl ?_
    refine g_lcmp 47 rfl C X0 at_46 ?_
    by_cases hb86 : v1.toInt < p0.toInt
    · skip
      refine g_il_le_f 50 rfl C X0 at_47 hb86 ?_
      refine g_iconst 51 rfl C X0 (1 : Int32) at_50 rfl ?_
      refine g_goto 55 C X0 at_51 (by decide) (by decide) ?_
      refine g_istore 57 rfl C X0 (1 : Int32) rfl #[.val (.long p0), .second, .val (.int p1), .val (.int p2), .val (.int p3), .val (.int p4), .val (.long v1), .second, .val (.long p0), .second, .val (.int (1 : Int32))] at_55 rfl ?_
      refine g_lload 59 rfl C X0 at_57 rfl ?_
      refine g_iloadN 60 rfl C X0 at_59 rfl ?_
      refine g_iloadN 61 rfl C X0 at_60 rfl ?_
      refine g_callS 64 rfl C X0 (argsL := [(.long p0), (.int p1), (.int p2)]) (hw _ (List.mem_of_getElem? (i := 0) rfl)) (hw _ (List.mem_of_getElem? (i := 1) rfl)) (hw _ (List.mem_of_getElem? (i := 3) rfl)) (hw _ (List.mem_of_getElem? (i := 2) rfl)) e0 (rm1 l Z a0 hw [] p0 p1 p2 h0 n0 Z0) (lenOf pd_29959018 rfl) (by decide) (by decide) (by decide) (by decide) rfl (W := 0) (by decide) (by decide) at_61 rfl fun r87 T88 Lc89 X90 hQ91 => ?_
      obtain ⟨r92, rfl, hs93, Nq94, eh95⟩ := hQ91
      have N96 := Fr.app N0 Nq94
      show Goes _ _ _ _ _ _ 64 _ [(.int r92)]
      refine g_iload 66 rfl C X90 at_64 rfl ?_
      by_cases hb97 : r92.toInt = (1 : Int32).toInt
      · skip
        refine g_icmp_ne_f 69 rfl C X90 at_66 hb97 ?_
        refine g_iconst 70 rfl C X90 (1 : Int32) at_69 rfl ?_
        refine g_goto 74 C X90 at_70 (by decide) (by decide) ?_
        exact g_retN C X90 (z' := (1 : Int32)) rfl (Or.inl rfl) at_74 eh95 (by decide) (by decide) rfl ⟨rfl, N96⟩
      · skip
        refine g_icmp_ne_t 73 C X90 at_66 (by decide) (by decide) hb97 ?_
        refine g_iconst 74 rfl C X90 (0 : Int32) at_73 rfl ?_
        exfalso
        have fr98 := rng32 p4
        have fc99 : (1 : Int32).toInt = 1 := rfl
        have fo100 : (p4 &&& (1 : Int32)).toInt = p4.toInt % 2 := c_mask p4 (1 : Int32) 1 (by decide) (by decide)
        have fr101 := rng64 p0
        have fr102 := rng64 v1
        have fr103 := rng32 p1
        have fo104 := c_i2l p1
        have fo105 := c_ladd ((p1).toInt64) ((p1).toInt64)
        have fr106 := rng64 (((p1).toInt64) + ((p1).toInt64))
        have fo107 := c_ladd (((p1).toInt64) + ((p1).toInt64)) ((p1).toInt64)
        have fr108 := rng64 ((((p1).toInt64) + ((p1).toInt64)) + ((p1).toInt64))
        have fo109 := c_ladd ((((p1).toInt64) + ((p1).toInt64)) + ((p1).toInt64)) ((p1).toInt64)
        have fr110 := rng64 (((((p1).toInt64) + ((p1).toInt64)) + ((p1).toInt64)) + ((p1).toInt64))
        have fr111 := rng32 p2
        have fo112 := c_i2l p2
        have fo113 := c_ladd (((((p1).toInt64) + ((p1).toInt64)) + ((p1).toInt64)) + ((p1).toInt64)) ((p2).toInt64)
        have fr114 := rng64 ((((((p1).toInt64) + ((p1).toInt64)) + ((p1).toInt64)) + ((p1).toInt64)) + ((p2).toInt64))
        have fo115 := c_ladd ((((((p1).toInt64) + ((p1).toInt64)) + ((p1).toInt64)) + ((p1).toInt64)) + ((p2).toInt64)) ((p2).toInt64)
        have fr116 := rng64 (((((((p1).toInt64) + ((p1).toInt64)) + ((p1).toInt64)) + ((p1).toInt64)) + ((p2).toInt64)) + ((p2).toInt64))
        have fe117 : (((((((p1).toInt64) + ((p1).toInt64)) + ((p1).toInt64)) + ((p1).toInt64)) + ((p2).toInt64)) + ((p2).toInt64)).toInt = v1.toInt := congrArg Int64.toInt hv1
        have fr118 := rng32 r92
        omega
    · skip
      refine g_il_le_t 54 C X0 at_47 (by decide) (by decide) hb86 ?_
      refine g_iconst 55 rfl C X0 (0 : Int32) at_54 rfl ?_
      refine g_istore 57 rfl C X0 (0 : Int32) rfl #[.val (.long p0), .second, .val (.int p1), .val (.int p2), .val (.int p3), .val (.int p4), .val (.long v1), .second, .val (.long p0), .second, .val (.int (0 : Int32))] at_55 rfl ?_
      refine g_lload 59 rfl C X0 at_57 rfl ?_
      refine g_iloadN 60 rfl C X0 at_59 rfl ?_
      refine g_iloadN 61 rfl C X0 at_60 rfl ?_
      refine g_callS 64 rfl C X0 (argsL := [(.long p0), (.int p1), (.int p2)]) (hw _ (List.mem_of_getElem? (i := 0) rfl)) (hw _ (List.mem_of_getElem? (i := 1) rfl)) (hw _ (List.mem_of_getElem? (i := 3) rfl)) (hw _ (List.mem_of_getElem? (i := 2) rfl)) e0 (rm1 l Z a0 hw [] p0 p1 p2 h0 n0 Z0) (lenOf pd_29959018 rfl) (by decide) (by decide) (by decide) (by decide) rfl (W := 0) (by decide) (by decide) at_61 rfl fun r119 T120 Lc121 X122 hQ123 => ?_
      obtain ⟨r124, rfl, hs125, Nq126, eh127⟩ := hQ123
      have N128 := Fr.app N0 Nq126
      show Goes _ _ _ _ _ _ 64 _ [(.int r124)]
      refine g_iload 66 rfl C X122 at_64 rfl ?_
      by_cases hb129 : r124.toInt = (0 : Int32).toInt
      · skip
        refine g_icmp_ne_f 69 rfl C X122 at_66 hb129 ?_
        refine g_iconst 70 rfl C X122 (1 : Int32) at_69 rfl ?_
        refine g_goto 74 C X122 at_70 (by decide) (by decide) ?_
        exact g_retN C X122 (z' := (1 : Int32)) rfl (Or.inl rfl) at_74 eh127 (by decide) (by decide) rfl ⟨rfl, N128⟩
      · skip
        refine g_icmp_ne_t 73 C X122 at_66 (by decide) (by decide) hb129 ?_
        refine g_iconst 74 rfl C X122 (0 : Int32) at_73 rfl ?_
        exfalso
        have fr130 := rng32 p4
        have fc131 : (1 : Int32).toInt = 1 := rfl
        have fo132 : (p4 &&& (1 : Int32)).toInt = p4.toInt % 2 := c_mask p4 (1 : Int32) 1 (by decide) (by decide)
        have fr133 := rng64 p0
        have fr134 := rng64 v1
        have fr135 := rng32 p1
        have fo136 := c_i2l p1
        have fo137 := c_ladd ((p1).toInt64) ((p1).toInt64)
        have fr138 := rng64 (((p1).toInt64) + ((p1).toInt64))
        have fo139 := c_ladd (((p1).toInt64) + ((p1).toInt64)) ((p1).toInt64)
        have fr140 := rng64 ((((p1).toInt64) + ((p1).toInt64)) + ((p1).toInt64))
        have fo141 := c_ladd ((((p1).toInt64) + ((p1).toInt64)) + ((p1).toInt64)) ((p1).toInt64)
        have fr142 := rng64 (((((p1).toInt64) + ((p1).toInt64)) + ((p1).toInt64)) + ((p1).toInt64))
        have fr143 := rng32 p2
        have fo144 := c_i2l p2
        have fo145 := c_ladd (((((p1).toInt64) + ((p1).toInt64)) + ((p1).toInt64)) + ((p1).toInt64)) ((p2).toInt64)
        have fr146 := rng64 ((((((p1).toInt64) + ((p1).toInt64)) + ((p1).toInt64)) + ((p1).toInt64)) + ((p2).toInt64))
        have fo147 := c_ladd ((((((p1).toInt64) + ((p1).toInt64)) + ((p1).toInt64)) + ((p1).toInt64)) + ((p2).toInt64)) ((p2).toInt64)
        have fr148 := rng64 (((((((p1).toInt64) + ((p1).toInt64)) + ((p1).toInt64)) + ((p1).toInt64)) + ((p2).toInt64)) + ((p2).toInt64))
        have fe149 : (((((((p1).toInt64) + ((p1).toInt64)) + ((p1).toInt64)) + ((p1).toInt64)) + ((p2).toInt64)) + ((p2).toInt64)).toInt = v1.toInt := congrArg Int64.toInt hv1
        have fr150 := rng32 r124
        have fc151 : (0 : Int32).toInt = 0 := rfl
        omega
set_option maxRecDepth 65536 in
set_option maxHeartbeats 40000000 in
theorem comes_1 {Post : Tables → Env → Array Value → State → Outcome → State → Prop} (hpost : ∀ tb e args s v u, (limb_1_1.after args s (.returned v) u = true ∧ limb_1_2.after args s (.returned v) u = true ∧ True) → FrameEnd s (.returned v) u (Jvm.fieldLocs frame_1_writes args s ++ Jvm.arrayLocs frame_1_arrays args s ++ Jvm.staticLocs frame_1_statics s) 0 0 → Post tb e args s (.returned v) u) :
    ArmFor flags0 classFile x code maxLocals ret World_1 tables_1 room_1 Calls_1 rest_1 Pre_1 Post := by
  intro l hfl _ _ p e ha hc hk s m args below hf hA hF happ hP
  obtain ⟨hcalls, hrest, hpre⟩ := hP
  obtain ⟨-, -, -, hnamed, -, -, -, hat⟩ := (Spec.applies_iff hf).mp happ
  obtain ⟨hg, hn⟩ := and_e (Cond.before_iff.mp (show (Jvm.Cond.and given_1 narrow_1).before args s = true from hpre))
  obtain ⟨g1, g2⟩ := and_e hg
  obtain ⟨g3, g4⟩ := and_e g2
  obtain ⟨g5, g6⟩ := and_e g4
  obtain ⟨g7, g8⟩ := and_e g6
  obtain ⟨g9, g10⟩ := and_e g8
  obtain ⟨w0, w1, w2, w3, w4, rfl⟩ : ∃ w0 w1 w2 w3 w4 : Value, args = #[w0, w1, w2, w3, w4] := by
    have hs : args.size = 5 := by simpa [Cond.value, given_1] using g1
    obtain ⟨L⟩ := args
    match L, hs with
    | [w0, w1, w2, w3, w4], _ => exact ⟨w0, w1, w2, w3, w4, rfl⟩
  have hw := fun d (hd : d ∈ tables_1) => atoms_spec (ws := Jvm.Cond.code x code maxLocals ret :: tables_1) hat d (List.mem_cons_of_mem _ hd)
  obtain ⟨i0, ei0⟩ := isL_v g3
  obtain rfl : w0 = (.long i0) := Option.some.inj ei0
  obtain ⟨i1, ei1⟩ := is_v g5
  obtain rfl : w1 = (.int i1) := Option.some.inj ei1
  obtain ⟨i2, ei2⟩ := is_v g7
  obtain rfl : w2 = (.int i2) := Option.some.inj ei2
  obtain ⟨i3, ei3⟩ := is_v g9
  obtain rfl : w3 = (.int i3) := Option.some.inj ei3
  obtain ⟨i4, ei4⟩ := is_v g10
  obtain rfl : w4 = (.int i4) := Option.some.inj ei4
  obtain ⟨n, o, h1, h2, h3, _, L, rfl, ⟨rfl, N⟩, hq⟩ := rm0 l s _ hw tables_1 i0 i1 i2 i3 i4 s.heap s.heap.size (Nat.le_refl _) p e ha hc hk s m _ below hf ((Spec.applies_iff_loose hf).mp happ).1 ⟨rfl, State.Warmed39.refl s, rfl⟩ trivial
  refine ⟨n, _, h1, h2, h3, hpost _ _ _ _ _ _ ⟨Cond.after_iff.mpr rfl, Cond.after_iff.mpr (eq_i res_at (Term.int_eval (1)) rfl), trivial⟩ ⟨hq.1, hq.2.1, (hq.2.2.sift fun y hy => Or.inr (N y hy)).mono (by decide) (by decide)⟩⟩
theorem main_1_1 : Claimed_1_1 := comes_1 fun _ _ _ _ _ _ h hF => ⟨h.1, hF⟩
theorem main_1_2 : Claimed_1_2 := comes_1 fun _ _ _ _ _ _ h hF => ⟨h.2.1, hF⟩
end Jvm.Pilot.@@N@@
namespace Jvm.Pilot.@@N@@
open Jvm Jvm.ClassFile Sem Op Lib Jvm.Free Jvm.Stand Jvm.Pilot.@@N@@.Jvm.D
/-! MADE BY PROGRAM (witnessworld.py) out of the Statement's table words and the real class files: 9 classes; the members and pool entries that the words name. The judged class is class 1, her method 1. -/
namespace start1
open Jvm.ClassFile
def u (s : String) : CpInfo := .utf8 (stringToUtf16 s)
/-- a pool by its gaps: so many unusable entries, then the entry; so many at the end -/
def gap : Nat → List CpInfo → List CpInfo
  | 0, r => r
  | n + 1, r => .unusable :: gap n r
def poolList (es : List (Nat × CpInfo)) (last : Nat) : List CpInfo := es.foldr (fun e r => gap e.1 (e.2 :: r)) (gap last [])
def pool (es : List (Nat × CpInfo)) (last : Nat) : Array CpInfo := ⟨poolList es last⟩
def fileOf (pool : Array CpInfo) (this : Nat) (attrs : Array Attribute := #[]) (ms : Array MethodInfo := #[]) (fl : Nat := 33) (sup : Nat := 0) (ifs : Array Nat := #[]) (fds : Array FieldInfo := #[]) : ClassFile where
  minorVersion := 0
  majorVersion := 65
  constantPool := pool
  accessFlags := fl
  thisClass := this
  superClass := sup
  interfaces := ifs
  fields := fds
  methods := ms
  attributes := attrs
def plain (name : String) (sup : Option ClassId) : Class where
  name := name
  kind := .ordinary
  loader := none
  accessFlags := 33
  super := sup
  interfaces := #[]
  cf := none
  fields := #[]
  methods := #[]
  instanceTypes := #[]
  staticTypes := #[]
  resolved := #[]
  callSites := []
  init := .initialized
  statics := none
  mirror := none

def pool0 : Array CpInfo := pool [(5, u "<init>"), (0, u "()V"), (1, .class_ 10), (1, u "java/lang/Object")] 113

def k0m0 : Method := { name := "<init>", desc := "()V", sig := { parameters := [], returnType := none }, accessFlags := 1, code := none }
/-- java/lang/Object -/
def k0 : Class := { plain "java/lang/Object" none with
  accessFlags := 33
  interfaces := #[]
  cf := some (fileOf pool0 8 #[] #[{ accessFlags := 1, nameIndex := 5, descriptorIndex := 6, attributes := #[] }] 33 0 #[] #[])
  fields := #[]
  methods := #[k0m0]
  instanceTypes := #[]
  staticTypes := #[]
  resolved := Array.replicate 124 none
  statics := none }

def pool1 : Array CpInfo := pool [(2, .class_ 4), (1, u "java/lang/Object"), (0, u "<init>"), (0, u "()V"), (0, .methodref 8 9), (0, .class_ 10), (0, .nameAndType 11 12), (0, u "com/example/otsing/otsing/algorithm/BackwardScan"), (0, u "overBudget"), (0, u "(JII)Z"), (0, .class_ 14), (0, u "com/example/otsing/otsing/algorithm/BackwardScanOverBudgetPinLaw"), (2, u "law"), (0, u "(JIIII)Z")] 3

def k1m0 : Method := { name := "<init>", desc := "()V", sig := { parameters := [], returnType := none }, accessFlags := 2, code := none }
def k1c1 : Code := { maxStack := 4, maxLocals := 11, code := code, exceptionTable := #[], attributes := #[] }
def k1m1 : Method := { name := "law", desc := "(JIIII)Z", sig := { parameters := [.long, .int, .int, .int, .int], returnType := some .boolean }, accessFlags := 9, code := some k1c1 }
/-- com/example/otsing/otsing/algorithm/BackwardScanOverBudgetPinLaw -/
def k1 : Class := { plain "com/example/otsing/otsing/algorithm/BackwardScanOverBudgetPinLaw" (some 0) with
  accessFlags := 49
  interfaces := #[]
  cf := some (fileOf pool1 13 #[] #[{ accessFlags := 2, nameIndex := 5, descriptorIndex := 6, attributes := #[] }, { accessFlags := 9, nameIndex := 17, descriptorIndex := 18, attributes := #[] }] 49 2 #[] #[])
  fields := #[]
  methods := #[k1m0, k1m1]
  instanceTypes := #[]
  staticTypes := #[]
  resolved := Array.replicate 22 none
  statics := none }

def pool2 : Array CpInfo := pool [(2, .class_ 4), (1, u "java/lang/Object"), (0, u "<init>"), (0, u "()V"), (8, .long 4), (1, .long 2), (4, .class_ 24), (1, u "com/example/otsing/otsing/algorithm/BackwardScan$Compiled"), (34, .class_ 61), (1, u "com/example/otsing/otsing/algorithm/BackwardScan"), (27, u "overBudget"), (0, u "(JII)Z")] 9

def k2m0 : Method := { name := "<init>", desc := "()V", sig := { parameters := [], returnType := none }, accessFlags := 2, code := none }
def k2c1 : Code := { maxStack := 8, maxLocals := 4, code := prog_17_method_6_code, exceptionTable := #[], attributes := #[] }
def k2m1 : Method := { name := "overBudget", desc := "(JII)Z", sig := { parameters := [.long, .int, .int], returnType := some .boolean }, accessFlags := 8, code := some k2c1 }
/-- com/example/otsing/otsing/algorithm/BackwardScan -/
def k2 : Class := { plain "com/example/otsing/otsing/algorithm/BackwardScan" (some 0) with
  accessFlags := 48
  interfaces := #[]
  cf := some (fileOf pool2 59 #[.nestMembers #[22]] #[{ accessFlags := 2, nameIndex := 5, descriptorIndex := 6, attributes := #[] }, { accessFlags := 8, nameIndex := 89, descriptorIndex := 90, attributes := #[] }] 48 2 #[] #[])
  fields := #[]
  methods := #[k2m0, k2m1]
  instanceTypes := #[]
  staticTypes := #[]
  resolved := Array.replicate 100 none
  statics := none }

def pool3 : Array CpInfo := pool [(1, u "java/lang/Cloneable"), (0, .class_ 1), (0, u "java/lang/Object"), (0, .class_ 3)] 3

/-- java/lang/Cloneable -/
def k3 : Class := { plain "java/lang/Cloneable" (some 0) with
  accessFlags := 1537
  interfaces := #[]
  cf := some (fileOf pool3 2 #[] #[] 1537 4 #[] #[])
  fields := #[]
  methods := #[]
  instanceTypes := #[]
  staticTypes := #[]
  resolved := Array.replicate 8 none
  statics := none }

def pool4 : Array CpInfo := pool [(1, u "java/io/Serializable"), (0, .class_ 1), (0, u "java/lang/Object"), (0, .class_ 3)] 3

/-- java/io/Serializable -/
def k4 : Class := { plain "java/io/Serializable" (some 0) with
  accessFlags := 1537
  interfaces := #[]
  cf := some (fileOf pool4 2 #[] #[] 1537 4 #[] #[])
  fields := #[]
  methods := #[]
  instanceTypes := #[]
  staticTypes := #[]
  resolved := Array.replicate 8 none
  statics := none }

/-- the primitive byte -/
def k5 : Class := { plain "byte" none with kind := .primitive 'B', accessFlags := 0x411 }
/-- [B -/
def k6 : Class := { plain "[B" (some 0) with kind := .array 5 .byte, interfaces := #[3, 4], accessFlags := 1041 }

/-- the primitive int -/
def k7 : Class := { plain "int" none with kind := .primitive 'I', accessFlags := 0x411 }
/-- [I -/
def k8 : Class := { plain "[I" (some 0) with kind := .array 7 .int, interfaces := #[3, 4], accessFlags := 1041 }

def heap : Heap := #[]
def classes : Array Class := #[k0, k1, k2, k3, k4, k5, k6, k7, k8]
def interned : List (Array UInt16 × Addr) := []
def slotsUsed : Nat := 0
def theMethod : MethodId := ⟨1, 1⟩
def args0 : Array Value := #[.long 5, .int 7, .int 3, .int 2, .int 1]
def aboutOver (below : List Frame) : State where
  vm := { classes := classes, interned := interned.toArray }
  heap := heap
  slotsUsed := slotsUsed
  threads := #[{ frames := .invoking theMethod args0 :: below }]
def below0 : List Frame := [.native { method := ⟨0, 0⟩, args := #[] }]
def about1 : State := aboutOver below0
def p0 : Program := .bare "" "" ""
def e0 : Env := launch0.env 0 0 0
theorem w_frames : about1.frames = Frame.invoking theMethod args0 :: below0 := rfl
set_option maxRecDepth 65536 in
theorem w_args : argsFit about1.vm theMethod args0 = true := by decide +kernel
set_option maxRecDepth 65536 in
theorem w_heap : heapFits about1 = true := by decide +kernel
set_option maxRecDepth 65536 in
theorem w_runnable : about1.curStatus? = some .runnable := by decide +kernel
set_option maxRecDepth 65536 in
theorem w_alone : about1.alone = true := by decide +kernel
set_option maxRecDepth 65536 in
theorem w_named : about1.methodNamed? x = some theMethod := by decide +kernel
set_option maxRecDepth 65536 in
theorem w_hears : about1.hears theMethod below0 = true := by decide +kernel
set_option maxRecDepth 65536 in
theorem w_ripe : about1.ripe theMethod args0 below0 = true := by decide +kernel
theorem w_running : about1.status = .running := rfl
set_option maxRecDepth 65536 in
theorem w_room : about1.hasRoom e0.platform room_1 = true :=
  launch0.hasRoom_least _ room_1 (by decide +kernel) (by decide +kernel) (by decide +kernel) (by decide +kernel) (by decide +kernel) (by decide +kernel)
theorem allAtoms_all (ts : List Jvm.Cond) (a : Array Jvm.Value) (st : Jvm.State) : (allAtoms ts).before a st = ts.all (fun c => c.before a st) := by
  induction ts with
  | nil => rfl
  | cons c t ih =>
    show (Jvm.Cond.and c (allAtoms t)).before a st = _
    rw [Jvm.Cond.before_and, ih, List.all_cons]
def words1 : List Jvm.Cond := Jvm.Cond.code x code maxLocals ret :: tables_1
/-- a 'code' word, met by the world's own term for the bytes: nothing is compared byte by byte -/
theorem code_word {y : MethodName} {bytes : ByteArray} {mx : Nat} {rt : Option FieldType} {a : Array Value} {s : State} {m : MethodId} {meth : Method} {c : Code} (h1 : s.methodNamed? y = some m) (h2 : s.vm.method? m = some meth) (h3 : meth.code = some c) (h4 : c.code = bytes)
    (h5 : (c.maxLocals == mx && c.exceptionTable.isEmpty && decide (c.maxStack ≤ mostOperands) && decide (meth.sig.returnType = rt) && !meth.locks && decide (parseMethodDescriptor y.desc = some meth.sig)) = true) : (Jvm.Cond.code y bytes mx rt).before a s = true := by
  simp only [Bool.and_eq_true, beq_iff_eq, Bool.not_eq_true', decide_eq_true_eq] at h5
  obtain ⟨⟨⟨⟨⟨g1, g2⟩, g3⟩, g4⟩, g5⟩, g6⟩ := h5
  simp [Cond.before, Cond.holds, Cond.value, h1, h2, h3, h4, g1, g2, g3, g4, g5, g6]
def isCode : Jvm.Cond → Bool
  | .code _ _ _ _ => true
  | _ => false
theorem all_split {L : List Jvm.Cond} {P : Jvm.Cond → Bool} (h1 : L.all (fun c => isCode c || P c) = true) (h2 : ∀ c ∈ L.filter isCode, P c = true) : L.all P = true := by
  refine List.all_eq_true.mpr fun c hc => ?_
  have h := List.all_eq_true.mp h1 c hc
  rcases Bool.eq_false_or_eq_true (isCode c) with hi | hi
  · exact h2 c (List.mem_filter.mpr ⟨hc, hi⟩)
  · simpa [hi] using h
set_option maxRecDepth 65536 in
theorem w_c0 : (Jvm.Cond.code x code maxLocals ret).before args0 about1 = true := code_word (m := ⟨1, 1⟩) (meth := k1m1) (c := k1c1) (by decide +kernel) rfl rfl rfl (by decide +kernel)
set_option maxRecDepth 65536 in
theorem w_c1 : (Jvm.Cond.code ({ cls := "com/example/otsing/otsing/algorithm/BackwardScan", name := "overBudget", desc := "(JII)Z" } : Jvm.MethodName) prog_17_method_6_code (4 : Nat) (Option.some Jvm.ClassFile.FieldType.boolean)).before args0 about1 = true := code_word (m := ⟨2, 1⟩) (meth := k2m1) (c := k2c1) (by decide +kernel) rfl rfl rfl (by decide +kernel)
def codes1 : List Jvm.Cond := [Jvm.Cond.code x code maxLocals ret, Jvm.Cond.code ({ cls := "com/example/otsing/otsing/algorithm/BackwardScan", name := "overBudget", desc := "(JII)Z" } : Jvm.MethodName) prog_17_method_6_code (4 : Nat) (Option.some Jvm.ClassFile.FieldType.boolean)]
set_option maxRecDepth 65536 in
theorem codes_eq : words1.filter isCode = codes1 := rfl
theorem w_codes : ∀ c ∈ words1.filter isCode, c.before args0 about1 = true := by
  rw [codes_eq]
  intro c hc
  simp only [codes1, List.mem_cons, List.not_mem_nil, or_false] at hc
  rcases hc with rfl | rfl
  · exact w_c0
  · exact w_c1
set_option maxRecDepth 65536 in
theorem w_t1 : words1.all (fun c => isCode c || c.before args0 about1) = true := by decide +kernel
theorem w_tables : (allAtoms (Jvm.Cond.code x code maxLocals ret :: tables_1)).before args0 about1 = true := by
  rw [allAtoms_all]
  show words1.all (fun c => c.before args0 about1) = true
  refine all_split ?_ w_codes
  rw [w_t1]
set_option maxRecDepth 65536 in
theorem w_case : (Jvm.Cond.and given_1 narrow_1).before args0 about1 = true := by decide +kernel
theorem w_applies : (headSpec (Jvm.Cond.code x code maxLocals ret :: tables_1) room_1).applies x e0.platform about1 = true :=
  (Spec.applies_iff w_frames).mpr ⟨w_running, w_runnable, w_alone, w_named, w_hears, w_ripe, w_room, w_tables⟩
theorem atStart : AtStart classFile x code maxLocals ret World_1 tables_1 room_1 Calls_1 rest_1 Pre_1 launch0 p0 e0 about1 theMethod args0 below0 :=
  ⟨lists_1, trivial, launch0.admits_env _ _ _, launch0.least_env, fairChoices_fair.cas, fairChoices_fair.clock, w_frames, w_args, w_heap, w_applies, trivial, trivial, w_case⟩
end start1
theorem witness_1 : WitnessClaimed_1 := ⟨start1.p0, start1.e0, start1.about1, start1.theMethod, start1.args0, start1.below0, start1.atStart⟩
end Jvm.Pilot.@@N@@
