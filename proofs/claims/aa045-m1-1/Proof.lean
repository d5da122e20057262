import JvmDerived
import JvmDerived.Pilot.@@N@@Statement
import JvmDerived.Pilot.@@N@@Code
set_option linter.unusedVariables false
set_option linter.unusedSimpArgs false
namespace Jvm.RoadKit
open Sem ClassFile Op Lib Jvm.Stand Jvm.Free Jvm.LawKit
section New
variable {p : Program} {l : Launch} {e : Env} {R : Room} {s : State} {m : MethodId} {args : Array Value} {below : List Frame} {meth : Method} {c : Code} {T : State} {locs : List Loc} {cells slots : Nat}
theorem retI (X : Stand p l e R s m args below meth c T locs cells slots) (hx : p.tables.exec = Jvm.exec) {pc : Nat} {Ls : Array Slot} {z : Int32} {rest : List Value} (hret : meth.sig.returnType = some .int) (hd : decode c.code pc = .ok (.ireturn, 1)) {fs : List Frame}
    (hl : ∀ (f : JFrame) (acts : List Action), f.method = m → f.locked = none → f.entered = [] → (doReturn e (T.setTop f) acts (some (.int z))).1 = T.setFrames fs) : Steps p.tables e below (T.setTop (mkF m pc Ls (.int z :: rest))) (T.setFrames fs) := by
  have hm' : T.vm.method? m = some meth := X.method'
  have hn : narrow .int (.int z) = .int z := rfl
  show Steps p.tables e below (T.setTop { method := m, pc := pc, locals := Ls, stack := _ :: rest, locked := none }) _
  jvm_step X.here [X.here.top, hx, hd, hm', hret, hn]
  first | (intro acts; rw [hl _ acts rfl rfl rfl]) | rw [hl _ _ rfl rfl rfl]
  exact Steps.refl _
end New
end Jvm.RoadKit
namespace Jvm.Pilot.@@N@@
open Jvm Jvm.ClassFile Sem Op Lib Jvm.Free Jvm.Stand Jvm.LawKit Jvm.RoadKit Bundle Jvm.Pilot.@@N@@.Jvm.D
-- OWN CORE: a calculus of runs over the library's Stand (lawnew's family)
abbrev OCtx := Program × Launch × Env × State × MethodId × Array Value × List Frame × Method × Code
def OCtx.p (C : OCtx) : Program := C.1
def OCtx.l (C : OCtx) : Launch := C.2.1
def OCtx.e (C : OCtx) : Env := C.2.2.1
def OCtx.s (C : OCtx) : State := C.2.2.2.1
def OCtx.m (C : OCtx) : MethodId := C.2.2.2.2.1
def OCtx.args (C : OCtx) : Array Value := C.2.2.2.2.2.1
def OCtx.below (C : OCtx) : List Frame := C.2.2.2.2.2.2.1
def OCtx.meth (C : OCtx) : Method := C.2.2.2.2.2.2.2.1
def OCtx.c (C : OCtx) : Code := C.2.2.2.2.2.2.2.2
-- a body: its class, bytes, locals, return type, name, room
abbrev OInfo := String × ByteArray × Nat × Option FieldType × String × Room
abbrev OInfo.own (I : OInfo) : String := I.1
abbrev OInfo.bytes (I : OInfo) : ByteArray := I.2.1
abbrev OInfo.ml (I : OInfo) : Nat := I.2.2.1
abbrev OInfo.ret (I : OInfo) : Option FieldType := I.2.2.2.1
abbrev OInfo.mn (I : OInfo) : String := I.2.2.2.2.1
abbrev OInfo.R (I : OInfo) : Room := I.2.2.2.2.2
-- where a run stands
def oK (C : OCtx) (s0 : State) (Z : State) (n0 : Nat) (I : OInfo) (T : State) (locs : List Loc) (cs sl : Nat) (h : Heap) : Prop :=
  Stand C.p C.l C.e I.R s0 C.m C.args C.below C.meth C.c T locs cs sl ∧ C.p.tables.exec = Jvm.exec ∧ Z.Warmed39 s0.vm ∧ s0.vm.findClass I.own = some C.m.cls ∧ C.c.code = I.bytes ∧ C.c.maxLocals = I.ml ∧
  C.meth.sig.returnType = I.ret ∧ C.meth.name = I.mn ∧ C.meth.locks = false ∧ T.heap = h ∧ Fr n0 locs ∧ Old Z n0 h
theorem o_fresh {a b : Addr} {h : Heap} (q : a < h.size) (g : b = h.size) : a ≠ b := fun e => by subst e; rw [g] at q; exact Nat.lt_irrefl _ q
theorem o_fresh' {a b : Addr} {n : Nat} (q : a < n) (g : n ≤ b) : a ≠ b := fun e => by subst e; exact Nat.lt_irrefl _ (Nat.lt_of_lt_of_le q g)
theorem o_le {Z : State} {n0 : Nat} {h : Heap} (O : Old Z n0 h) : n0 ≤ h.size := O.1 ▸ O.2.1
-- what a run from there comes to
def oRun (C : OCtx) (Z : State) (n0 : Nat) (I : OInfo) (Q : Option Value → Heap → Prop) (h : Heap) (cs sl : Nat) (g : JFrame) : Prop :=
  ∀ T locs, oK C C.s Z n0 I T locs cs sl h → ∃ t o, Steps C.p.tables C.e C.below (T.setTop g) t ∧ t.status = .running ∧ Ended t C.below o ∧ (∃ v L, o = .returned v ∧ (Fr n0 L ∧ Old Z n0 t.heap ∧ Q v t.heap) ∧ FrameEnd C.s o t L I.R.cells I.R.slots)
-- a body's contract
def oCon (l : Launch) (Z : State) (n0 : Nat) (y : MethodName) (I : OInfo) (as' : Array Value) (h0 : Heap) (Q : Option Value → Heap → Prop) : Prop :=
  Old Z n0 h0 → ∀ ws, MetFree l y (head1 (Jvm.Cond.code y I.bytes I.ml I.ret :: ws) I.R) (fun a U => a = as' ∧ Z.Warmed39 U.vm ∧ U.heap = h0) (fun _ _ _ _ _ => True)
    (fun _ U o U' => ∃ v L, o = .returned v ∧ (Fr n0 L ∧ Old Z n0 U'.heap ∧ Q v U'.heap) ∧ FrameEnd U o U' L I.R.cells I.R.slots)
theorem oCon.mk {l : Launch} {Z : State} {n0 : Nat} {y : MethodName} {I : OInfo} {as' : Array Value} {h0 : Heap} {Q : Option Value → Heap → Prop} (hp : plainFor y = true) (hy1 : y.cls = I.own) (hy2 : y.name = I.mn) {Ls : Array Slot} (ef : ∀ m, entryFrame m as' I.ml = mkF m 0 Ls [])
    (body : ∀ C : OCtx, C.l = l → oRun C Z n0 I Q h0 0 0 (mkF C.m 0 Ls [])) : oCon l Z n0 y I as' h0 Q := by
  intro hn ws
  refine MetFree.of_bodySF hp hisR ?_
  intro p e s m args below meth c s₁ Bd hml0 hP hK
  obtain ⟨rfl, hZ, hh⟩ := hP
  have hown : s.vm.findClass I.own = some m.cls := by rw [← hy1]; exact findClass_of_methodNamed Bd.named
  have hnm : meth.name = I.mn := by rw [← hy2]; exact (name_of_methodNamed Bd.named Bd.method).1
  have e0 : s₁.heap = h0 := by rw [← hh, Bd.state]; rfl
  have X0 : Stand p l e I.R s m args below meth c s₁ [] 0 0 := Stand.of_body Bd
  have r := body (p, l, e, s, m, args, below, meth, c) rfl s₁ [] ⟨X0, Bd.exec, hZ, hown, Bd.bytes, hml0, Bd.returns, hnm, Bd.notSynchronized, e0, Fr.nil n0, hn⟩
  obtain ⟨t, o, h1, h2, h3, h4⟩ := r
  refine ⟨t, o, castTop (ef m) h1, h2, h3, h4⟩
theorem oCon.mono {l : Launch} {Z : State} {n0 : Nat} {y : MethodName} {I : OInfo} {as' : Array Value} {h0 : Heap} {Q Q' : Option Value → Heap → Prop} (K : oCon l Z n0 y I as' h0 Q) (q : ∀ v h, Q v h → Q' v h) : oCon l Z n0 y I as' h0 Q' := by
  intro hn ws p e ha hc hk s m args below hf happ hP hK
  obtain ⟨n, o, h1, h2, h3, v, L, h4, ⟨h5, h6, h7⟩, h8⟩ := K hn ws p e ha hc hk s m args below hf happ hP hK
  exact ⟨n, o, h1, h2, h3, v, L, h4, ⟨h5, h6, q _ _ h7⟩, h8⟩
section OwnCore
variable {C : OCtx} {Z : State} {n0 : Nat} {I : OInfo} {Q : Option Value → Heap → Prop} {h : Heap} {cs sl pc pc' : Nat} {L : Array Slot} {S : List Value} {x y : Int32}
theorem oStep {g g' : JFrame} (st : ∀ {s0 : State} T locs, oK C s0 Z n0 I T locs cs sl h → ∀ t, Steps C.p.tables C.e C.below (T.setTop g') t → Steps C.p.tables C.e C.below (T.setTop g) t) (r : oRun C Z n0 I Q h cs sl g') : oRun C Z n0 I Q h cs sl g := by
  intro T locs K
  obtain ⟨t, o, h1, h2⟩ := r T locs K
  exact ⟨t, o, st T locs K t h1, h2⟩
theorem oMove {g g' : JFrame} (st : ∀ {s0 : State} T locs, oK C s0 Z n0 I T locs cs sl h → ∃ T' locs', oK C s0 Z n0 I T' locs' cs sl h ∧ ∀ t, Steps C.p.tables C.e C.below (T'.setTop g') t → Steps C.p.tables C.e C.below (T.setTop g) t) (r : oRun C Z n0 I Q h cs sl g') : oRun C Z n0 I Q h cs sl g := by
  intro T locs K
  obtain ⟨T', locs', K', st'⟩ := st T locs K
  obtain ⟨t, o, h1, h2⟩ := r T' locs' K'
  exact ⟨t, o, st' t h1, h2⟩
theorem s_aloadN {k : Fin 4} {v : Value} (hd : decode I.bytes pc = .ok (.aload_n k, 1)) (hq : pc + 1 = pc') (hl : L[k.val]? = some (.val v)) (hv : v.isRef = true) (r : oRun C Z n0 I Q h cs sl (mkF C.m pc' L (v :: S))) : oRun C Z n0 I Q h cs sl (mkF C.m pc L S) := by
  subst hq; exact oStep (fun T locs K t kt => XS.aloadN K.1.here K.2.1 rfl (hb K.2.2.2.2.1 hd) hl hv kt) r
theorem s_aload {k : Nat} {v : Value} (hd : decode I.bytes pc = .ok (.aload k, 2)) (hq : pc + 2 = pc') (hl : L[k]? = some (.val v)) (hv : v.isRef = true) (r : oRun C Z n0 I Q h cs sl (mkF C.m pc' L (v :: S))) : oRun C Z n0 I Q h cs sl (mkF C.m pc L S) := by
  subst hq; exact oStep (fun T locs K t kt => XS.aload K.1.here K.2.1 rfl (hb K.2.2.2.2.1 hd) hl hv kt) r
theorem s_iloadN {k : Fin 4} (hd : decode I.bytes pc = .ok (.iload_n k, 1)) (hq : pc + 1 = pc') (hl : L[k.val]? = some (.val (.int x))) (r : oRun C Z n0 I Q h cs sl (mkF C.m pc' L (.int x :: S))) : oRun C Z n0 I Q h cs sl (mkF C.m pc L S) := by
  subst hq; exact oStep (fun T locs K t kt => XS.iloadN K.1.here K.2.1 rfl (hb K.2.2.2.2.1 hd) hl kt) r
theorem s_iload {k : Nat} (hd : decode I.bytes pc = .ok (.iload k, 2)) (hq : pc + 2 = pc') (hl : L[k]? = some (.val (.int x))) (r : oRun C Z n0 I Q h cs sl (mkF C.m pc' L (.int x :: S))) : oRun C Z n0 I Q h cs sl (mkF C.m pc L S) := by
  subst hq; exact oStep (fun T locs K t kt => XS.iload K.1.here K.2.1 rfl (hb K.2.2.2.2.1 hd) hl kt) r
theorem s_iconst {i : Int} (hd : decode I.bytes pc = .ok (.iconst i, 1)) (hq : pc + 1 = pc') (hx : Int32.ofInt i = x) (r : oRun C Z n0 I Q h cs sl (mkF C.m pc' L (.int x :: S))) : oRun C Z n0 I Q h cs sl (mkF C.m pc L S) := by
  subst hq hx; exact oStep (fun T locs K t kt => XS.iconst K.1.here K.2.1 rfl (hb K.2.2.2.2.1 hd) kt) r
theorem s_bipush {i : Int} (hd : decode I.bytes pc = .ok (.bipush i, 2)) (hq : pc + 2 = pc') (hx : (Int8.ofInt i).toInt32 = x) (r : oRun C Z n0 I Q h cs sl (mkF C.m pc' L (.int x :: S))) : oRun C Z n0 I Q h cs sl (mkF C.m pc L S) := by
  subst hq hx; exact oStep (fun T locs K t kt => XS.bipush K.1.here K.2.1 rfl (hb K.2.2.2.2.1 hd) kt) r
theorem s_sipush {i : Int} (hd : decode I.bytes pc = .ok (.sipush i, 3)) (hq : pc + 3 = pc') (hx : (Int16.ofInt i).toInt32 = x) (r : oRun C Z n0 I Q h cs sl (mkF C.m pc' L (.int x :: S))) : oRun C Z n0 I Q h cs sl (mkF C.m pc L S) := by
  subst hq hx; exact oStep (fun T locs K t kt => XS.sipush K.1.here K.2.1 rfl (hb K.2.2.2.2.1 hd) kt) r
theorem s_null (hd : decode I.bytes pc = .ok (.aconst_null, 1)) (hq : pc + 1 = pc') (r : oRun C Z n0 I Q h cs sl (mkF C.m pc' L (.null :: S))) : oRun C Z n0 I Q h cs sl (mkF C.m pc L S) := by
  subst hq; exact oStep (fun T locs K t kt => XS.aconstNull K.1.here K.2.1 rfl (hb K.2.2.2.2.1 hd) kt) r
theorem s_iadd (hd : decode I.bytes pc = .ok (.iadd, 1)) (hq : pc + 1 = pc') (r : oRun C Z n0 I Q h cs sl (mkF C.m pc' L (.int (x + y) :: S))) : oRun C Z n0 I Q h cs sl (mkF C.m pc L (.int y :: .int x :: S)) := by
  subst hq; exact oStep (fun T locs K t kt => XS.iadd K.1.here K.2.1 rfl (hb K.2.2.2.2.1 hd) rfl kt) r
theorem s_isub (hd : decode I.bytes pc = .ok (.isub, 1)) (hq : pc + 1 = pc') (r : oRun C Z n0 I Q h cs sl (mkF C.m pc' L (.int (x - y) :: S))) : oRun C Z n0 I Q h cs sl (mkF C.m pc L (.int y :: .int x :: S)) := by
  subst hq; exact oStep (fun T locs K t kt => XS.isub K.1.here K.2.1 rfl (hb K.2.2.2.2.1 hd) rfl kt) r
theorem s_imul (hd : decode I.bytes pc = .ok (.imul, 1)) (hq : pc + 1 = pc') (r : oRun C Z n0 I Q h cs sl (mkF C.m pc' L (.int (x * y) :: S))) : oRun C Z n0 I Q h cs sl (mkF C.m pc L (.int y :: .int x :: S)) := by
  subst hq; exact oStep (fun T locs K t kt => XS.imul K.1.here K.2.1 rfl (hb K.2.2.2.2.1 hd) rfl kt) r
theorem s_idiv (hd : decode I.bytes pc = .ok (.idiv, 1)) (hq : pc + 1 = pc') (hy : y ≠ 0) (r : oRun C Z n0 I Q h cs sl (mkF C.m pc' L (.int (x / y) :: S))) : oRun C Z n0 I Q h cs sl (mkF C.m pc L (.int y :: .int x :: S)) := by
  subst hq; exact oStep (fun T locs K t kt => XS.idiv K.1.here K.2.1 rfl (hb K.2.2.2.2.1 hd) rfl hy kt) r
theorem o_rem (x y : Int32) : x - (x / y) * y = x % y := irem_eq_mod x y
theorem s_irem (hd : decode I.bytes pc = .ok (.irem, 1)) (hq : pc + 1 = pc') (hy : y ≠ 0) (r : oRun C Z n0 I Q h cs sl (mkF C.m pc' L (.int (x % y) :: S))) : oRun C Z n0 I Q h cs sl (mkF C.m pc L (.int y :: .int x :: S)) := by
  subst hq; rw [← o_rem] at r; exact oStep (fun T locs K t kt => XS.irem K.1.here K.2.1 rfl (hb K.2.2.2.2.1 hd) rfl hy kt) r
theorem s_ineg (hd : decode I.bytes pc = .ok (.ineg, 1)) (hq : pc + 1 = pc') (r : oRun C Z n0 I Q h cs sl (mkF C.m pc' L (.int (-x) :: S))) : oRun C Z n0 I Q h cs sl (mkF C.m pc L (.int x :: S)) := by
  subst hq; exact oStep (fun T locs K t kt => XS.ineg K.1.here K.2.1 rfl (hb K.2.2.2.2.1 hd) rfl kt) r
theorem s_iand (hd : decode I.bytes pc = .ok (.iand, 1)) (hq : pc + 1 = pc') (r : oRun C Z n0 I Q h cs sl (mkF C.m pc' L (.int (x &&& y) :: S))) : oRun C Z n0 I Q h cs sl (mkF C.m pc L (.int y :: .int x :: S)) := by
  subst hq; exact oStep (fun T locs K t kt => XS.iand K.1.here K.2.1 rfl (hb K.2.2.2.2.1 hd) rfl kt) r
theorem s_ior (hd : decode I.bytes pc = .ok (.ior, 1)) (hq : pc + 1 = pc') (r : oRun C Z n0 I Q h cs sl (mkF C.m pc' L (.int (x ||| y) :: S))) : oRun C Z n0 I Q h cs sl (mkF C.m pc L (.int y :: .int x :: S)) := by
  subst hq; exact oStep (fun T locs K t kt => XT.ior K.1.here K.2.1 rfl (hb K.2.2.2.2.1 hd) rfl kt) r
theorem s_ixor (hd : decode I.bytes pc = .ok (.ixor, 1)) (hq : pc + 1 = pc') (r : oRun C Z n0 I Q h cs sl (mkF C.m pc' L (.int (x ^^^ y) :: S))) : oRun C Z n0 I Q h cs sl (mkF C.m pc L (.int y :: .int x :: S)) := by
  subst hq; exact oStep (fun T locs K t kt => XT.ixor K.1.here K.2.1 rfl (hb K.2.2.2.2.1 hd) rfl kt) r
theorem s_ishl (hd : decode I.bytes pc = .ok (.ishl, 1)) (hq : pc + 1 = pc') (r : oRun C Z n0 I Q h cs sl (mkF C.m pc' L (.int (x <<< (y &&& 31)) :: S))) : oRun C Z n0 I Q h cs sl (mkF C.m pc L (.int y :: .int x :: S)) := by
  subst hq; exact oStep (fun T locs K t kt => XT.ishl K.1.here K.2.1 rfl (hb K.2.2.2.2.1 hd) rfl kt) r
theorem s_ishr (hd : decode I.bytes pc = .ok (.ishr, 1)) (hq : pc + 1 = pc') (r : oRun C Z n0 I Q h cs sl (mkF C.m pc' L (.int (x >>> (y &&& 31)) :: S))) : oRun C Z n0 I Q h cs sl (mkF C.m pc L (.int y :: .int x :: S)) := by
  subst hq; exact oStep (fun T locs K t kt => XT.ishr K.1.here K.2.1 rfl (hb K.2.2.2.2.1 hd) rfl kt) r
theorem s_iushr (hd : decode I.bytes pc = .ok (.iushr, 1)) (hq : pc + 1 = pc') (r : oRun C Z n0 I Q h cs sl (mkF C.m pc' L (.int (XT.ushr x y) :: S))) : oRun C Z n0 I Q h cs sl (mkF C.m pc L (.int y :: .int x :: S)) := by
  subst hq; exact oStep (fun T locs K t kt => XT.iushr K.1.here K.2.1 rfl (hb K.2.2.2.2.1 hd) rfl kt) r
theorem s_i2c (hd : decode I.bytes pc = .ok (.i2c, 1)) (hq : pc + 1 = pc') (r : oRun C Z n0 I Q h cs sl (mkF C.m pc' L (.int (x.toUInt32.toUInt16.toUInt32.toInt32) :: S))) : oRun C Z n0 I Q h cs sl (mkF C.m pc L (.int x :: S)) := by
  subst hq; exact oStep (fun T locs K t kt => XT.i2c K.1.here K.2.1 rfl (hb K.2.2.2.2.1 hd) rfl kt) r
theorem s_i2b (hd : decode I.bytes pc = .ok (.i2b, 1)) (hq : pc + 1 = pc') (r : oRun C Z n0 I Q h cs sl (mkF C.m pc' L (.int (x.toInt8.toInt32) :: S))) : oRun C Z n0 I Q h cs sl (mkF C.m pc L (.int x :: S)) := by
  subst hq; exact oStep (fun T locs K t kt => XT.i2b K.1.here K.2.1 rfl (hb K.2.2.2.2.1 hd) rfl kt) r
theorem s_dup {v : Value} (hd : decode I.bytes pc = .ok (.dup, 1)) (hq : pc + 1 = pc') (hc : v.category = 1) (r : oRun C Z n0 I Q h cs sl (mkF C.m pc' L (v :: v :: S))) : oRun C Z n0 I Q h cs sl (mkF C.m pc L (v :: S)) := by
  subst hq; exact oStep (fun T locs K t kt => XS.dup K.1.here K.2.1 rfl (hb K.2.2.2.2.1 hd) rfl hc kt) r
theorem s_pop {v : Value} (hd : decode I.bytes pc = .ok (.pop, 1)) (hq : pc + 1 = pc') (hc : v.category = 1) (r : oRun C Z n0 I Q h cs sl (mkF C.m pc' L S)) : oRun C Z n0 I Q h cs sl (mkF C.m pc L (v :: S)) := by
  subst hq; exact oStep (fun T locs K t kt => XT.pop K.1.here K.2.1 rfl (hb K.2.2.2.2.1 hd) rfl hc kt) r
theorem s_istoreN {k : Fin 4} {kn : Nat} {L : List Slot} (hk : k.val = kn) (hd : decode I.bytes pc = .ok (.istore_n k, 1)) (hq : pc + 1 = pc') (hl : storeLocals L.toArray kn (.int x) = some (L.set kn (.val (.int x))).toArray) (r : oRun C Z n0 I Q h cs sl (mkF C.m pc' (L.set kn (.val (.int x))).toArray S)) : oRun C Z n0 I Q h cs sl (mkF C.m pc L.toArray (.int x :: S)) := by
  subst hq hk; exact oStep (fun T locs K t kt => XS.istoreN K.1.here K.2.1 rfl (hb K.2.2.2.2.1 hd) rfl hl kt) r
theorem s_istore {k : Nat} {L : List Slot} (hd : decode I.bytes pc = .ok (.istore k, 2)) (hq : pc + 2 = pc') (hl : storeLocals L.toArray k (.int x) = some (L.set k (.val (.int x))).toArray) (r : oRun C Z n0 I Q h cs sl (mkF C.m pc' (L.set k (.val (.int x))).toArray S)) : oRun C Z n0 I Q h cs sl (mkF C.m pc L.toArray (.int x :: S)) := by
  subst hq; exact oStep (fun T locs K t kt => XS.istore K.1.here K.2.1 rfl (hb K.2.2.2.2.1 hd) rfl hl kt) r
theorem s_astoreN {k : Fin 4} {kn : Nat} {v : Value} {L : List Slot} (hk : k.val = kn) (hd : decode I.bytes pc = .ok (.astore_n k, 1)) (hq : pc + 1 = pc') (hv : v.isRef = true) (hl : storeLocals L.toArray kn v = some (L.set kn (.val v)).toArray) (r : oRun C Z n0 I Q h cs sl (mkF C.m pc' (L.set kn (.val v)).toArray S)) : oRun C Z n0 I Q h cs sl (mkF C.m pc L.toArray (v :: S)) := by
  subst hq hk; exact oStep (fun T locs K t kt => XS.astoreN K.1.here K.2.1 rfl (hb K.2.2.2.2.1 hd) rfl hv hl kt) r
theorem s_astore {k : Nat} {v : Value} {L : List Slot} (hd : decode I.bytes pc = .ok (.astore k, 2)) (hq : pc + 2 = pc') (hv : v.isRef = true) (hl : storeLocals L.toArray k v = some (L.set k (.val v)).toArray) (r : oRun C Z n0 I Q h cs sl (mkF C.m pc' (L.set k (.val v)).toArray S)) : oRun C Z n0 I Q h cs sl (mkF C.m pc L.toArray (v :: S)) := by
  subst hq; exact oStep (fun T locs K t kt => XS.astore K.1.here K.2.1 rfl (hb K.2.2.2.2.1 hd) rfl hv hl kt) r
theorem s_iinc {k : Nat} {i : Int} {L : List Slot} (hd : decode I.bytes pc = .ok (.iinc k i, 3)) (hq : pc + 3 = pc') (hi : Int32.ofInt i = y) (hl0 : L.toArray[k]? = some (.val (.int x))) (hl : storeLocals L.toArray k (.int (x + y)) = some (L.set k (.val (.int (x + y)))).toArray) (r : oRun C Z n0 I Q h cs sl (mkF C.m pc' (L.set k (.val (.int (x + y)))).toArray S)) : oRun C Z n0 I Q h cs sl (mkF C.m pc L.toArray S) := by
  subst hq hi; exact oStep (fun T locs K t kt => XS.iinc K.1.here K.2.1 rfl (hb K.2.2.2.2.1 hd) hl0 hl kt) r
theorem o_st {L : List Slot} {k : Nat} {s : Slot} {v : Value} (hk : L[k]? = some s) (hs : One s) (hv : v.category = 1) : storeLocals L.toArray k v = some (L.set k (.val v)).toArray := by
  have hlt : k < L.length := (List.getElem?_eq_some_iff.mp hk).1
  have hka : L.toArray[k]? = some s := by simpa using hk
  have e : storeSelf L.toArray k v = some (L.set k (.val v)).toArray := by simp [storeSelf, setAt, hv, hlt]
  rcases hs with rfl | ⟨w, rfl, hw⟩
  · simp only [storeLocals, hka, Option.bind_eq_bind, Option.bind_some]; exact e
  · simp only [storeLocals, hka, Option.bind_eq_bind, Option.bind_some, hw]; exact e
theorem s_goto {o : Int} (hd : decode I.bytes pc = .ok (.goto o, 3)) (ho : 0 ≤ (pc : Int) + o) (hq : ((pc : Int) + o).toNat = pc') (r : oRun C Z n0 I Q h cs sl (mkF C.m pc' L S)) : oRun C Z n0 I Q h cs sl (mkF C.m pc L S) :=
  oStep (fun T locs K t kt => XS.goto K.1.here K.2.1 rfl (pc0 := pc) rfl (hb K.2.2.2.2.1 hd) ho hq kt) r
theorem s_if {cd : ClassFile.Cond} {o : Int} {pc'' : Nat} (hd : decode I.bytes pc = .ok (.ifCond cd o, 3)) (hq : pc + 3 = pc') (ho : 0 ≤ (pc : Int) + o) (hq' : ((pc : Int) + o).toNat = pc'')
    (rt : if_icmp.holds cd x 0 = true → oRun C Z n0 I Q h cs sl (mkF C.m pc'' L S)) (rf : if_icmp.holds cd x 0 = false → oRun C Z n0 I Q h cs sl (mkF C.m pc' L S)) : oRun C Z n0 I Q h cs sl (mkF C.m pc L (.int x :: S)) := by
  subst hq
  cases hh : if_icmp.holds cd x 0
  · exact oStep (fun T locs K t kt => XS.ifNo K.1.here K.2.1 rfl (hb K.2.2.2.2.1 hd) rfl ((if0 _ _).trans hh) kt) (rf hh)
  · exact oStep (fun T locs K t kt => XS.ifYes K.1.here K.2.1 rfl (pc0 := pc) rfl (hb K.2.2.2.2.1 hd) rfl ((if0 _ _).trans hh) ho hq' kt) (rt hh)
theorem s_icmp {cd : ClassFile.Cond} {o : Int} {pc'' : Nat} (hd : decode I.bytes pc = .ok (.if_icmp cd o, 3)) (hq : pc + 3 = pc') (ho : 0 ≤ (pc : Int) + o) (hq' : ((pc : Int) + o).toNat = pc'')
    (rt : if_icmp.holds cd x y = true → oRun C Z n0 I Q h cs sl (mkF C.m pc'' L S)) (rf : if_icmp.holds cd x y = false → oRun C Z n0 I Q h cs sl (mkF C.m pc' L S)) : oRun C Z n0 I Q h cs sl (mkF C.m pc L (.int y :: .int x :: S)) := by
  subst hq
  cases hh : if_icmp.holds cd x y
  · exact oStep (fun T locs K t kt => XS.icmpNo K.1.here K.2.1 rfl (hb K.2.2.2.2.1 hd) rfl hh kt) (rf hh)
  · exact oStep (fun T locs K t kt => XS.icmpYes K.1.here K.2.1 rfl (pc0 := pc) rfl (hb K.2.2.2.2.1 hd) rfl hh ho hq' kt) (rt hh)
theorem b_eq (h : if_icmp.holds .eq x y = true) : x = y := by simpa [if_icmp.holds] using h
theorem b_eqF (h : if_icmp.holds .eq x y = false) : ¬ x = y := by simpa [if_icmp.holds] using h
theorem b_ne (h : if_icmp.holds .ne x y = true) : ¬ x = y := by simpa [if_icmp.holds] using h
theorem b_neF (h : if_icmp.holds .ne x y = false) : x = y := by simpa [if_icmp.holds] using h
theorem b_lt (h : if_icmp.holds .lt x y = true) : x < y := by simpa [if_icmp.holds] using h
theorem b_ltF (h : if_icmp.holds .lt x y = false) : ¬ x < y := by simpa [if_icmp.holds] using h
theorem b_ge (h : if_icmp.holds .ge x y = true) : ¬ x < y := by simpa [if_icmp.holds, Int32.not_lt] using h
theorem b_geF (h : if_icmp.holds .ge x y = false) : x < y := by simpa [if_icmp.holds, Int32.not_le] using h
theorem b_gt (h : if_icmp.holds .gt x y = true) : y < x := by simpa [if_icmp.holds] using h
theorem b_gtF (h : if_icmp.holds .gt x y = false) : ¬ y < x := by simpa [if_icmp.holds] using h
theorem b_le (h : if_icmp.holds .le x y = true) : ¬ y < x := by simpa [if_icmp.holds, Int32.not_lt] using h
theorem b_leF (h : if_icmp.holds .le x y = false) : y < x := by simpa [if_icmp.holds, Int32.not_le] using h
-- the heap's steps
theorem s_old {g : JFrame} (r : Old Z n0 h → oRun C Z n0 I Q h cs sl g) : oRun C Z n0 I Q h cs sl g := fun T locs K => r K.2.2.2.2.2.2.2.2.2.2.2 T locs K
theorem s_getF {a0 : Array Value} {R0 O n d host : String} {index : Nat} {a : Addr} {v : Value} (F : Fld Z h a O n d v) (w : (Jvm.Cond.fieldLink I.own index R0 n d).before a0 Z = true ∨ (Jvm.Cond.fieldLinkNest I.own index R0 n d host).before a0 Z = true) (via : Via Z R0 O n d) (hd : decode I.bytes pc = .ok (.getfield index, 3)) (hq : pc + 3 = pc')
    (r : oRun C Z n0 I Q h cs sl (mkF C.m pc' L (v :: S))) : oRun C Z n0 I Q h cs sl (mkF C.m pc L (.ref a :: S)) := by
  subst hq
  refine oMove (fun T locs K => ?_) r
  obtain ⟨X, k1, k2, k3, k4, k5, k6, k7, k8, k9, k10, k11⟩ := K
  obtain ⟨T', X', e', st⟩ := getF X k1 k2 k3 w via k9 F (g := mkF C.m pc L (.ref a :: S)) rfl rfl (hb k4 hd)
  exact ⟨T', locs, ⟨X', k1, k2, k3, k4, k5, k6, k7, k8, e', k10, k11⟩, st⟩
theorem s_putF {a0 : Array Value} {R0 O n d host C' : String} {index kk : Nat} {ty : FieldType} {a : Addr} {v old : Value} (F : Fld Z h a O n d old) (E : Exa Z h a C') (ha : n0 ≤ a) (w : (Jvm.Cond.fieldLink I.own index R0 n d).before a0 Z = true ∨ (Jvm.Cond.fieldLinkNest I.own index R0 n d host).before a0 Z = true) (via : Via Z R0 O n d)
    (Lw : (Jvm.Cond.lays C' O n d).before a0 Z = true ∨ ((Jvm.Cond.laysFinal C' O n d).before a0 Z = true ∧ I.own = O ∧ I.mn = "<init>")) (wi : (Jvm.Cond.instantiable C' kk).before a0 Z = true)
    (hty : parseFieldDescriptor d = some ty) (hn : narrow ty v = v) (hf : fits ty v = true) (hd : decode I.bytes pc = .ok (.putfield index, 3)) (hq : pc + 3 = pc')
    (r : ∀ h', Wr h h' a (Jvm.RoadKit.slotOf Z O n d) v → oRun C Z n0 I Q h' cs sl (mkF C.m pc' L S)) : oRun C Z n0 I Q h cs sl (mkF C.m pc L (v :: .ref a :: S)) := by
  subst hq
  intro T locs K
  obtain ⟨X, k1, k2, k3, k4, k5, k6, k7, k8, k9, k10, k11⟩ := K
  obtain ⟨T', h', X', e', W, st⟩ := putF X k1 k2 k3 w via k9 F E (Lw.imp id fun q => ⟨q.1, q.2.1, k7.trans q.2.2⟩) wi hty hn hf (g := mkF C.m pc L (v :: .ref a :: S)) rfl rfl (hb k4 hd)
  obtain ⟨t, o, h1, h2⟩ := r h' W T' _ ⟨X', k1, k2, k3, k4, k5, k6, k7, k8, e', Fr.snoc X' k10 ha, k11.wr W ha⟩
  exact ⟨t, o, st t h1, h2⟩
theorem s_getS {a0 : Array Value} {R0 O n d : String} {index : Nat} {v : Value} (F : Sta Z Z.heap O n d v) (w : (Jvm.Cond.fieldLink I.own index R0 n d).before a0 Z = true) (via : Via Z R0 O n d) (hd : decode I.bytes pc = .ok (.getstatic index, 3)) (hq : pc + 3 = pc')
    (r : oRun C Z n0 I Q h cs sl (mkF C.m pc' L (v :: S))) : oRun C Z n0 I Q h cs sl (mkF C.m pc L S) := by
  subst hq
  refine oMove (fun T locs K => ?_) r
  obtain ⟨X, k1, k2, k3, k4, k5, k6, k7, k8, k9, k10, k11⟩ := K
  obtain ⟨T', X', e', st⟩ := getS (host := "") X k1 k2 k3 w via k9 (F.ext k11.2) (g := mkF C.m pc L S) rfl (hb k4 hd)
  exact ⟨T', locs, ⟨X', k1, k2, k3, k4, k5, k6, k7, k8, e', k10, k11⟩, st⟩
theorem s_new {a0 : Array Value} {C' : String} {index n : Nat} (w : (Jvm.Cond.classLink I.own index C').before a0 Z = true) (wi : (Jvm.Cond.instantiable C' n).before a0 Z = true) (wz : (Jvm.Cond.initialized C').before a0 Z = true) (hd : decode I.bytes pc = .ok (.new index, 3)) (hq : pc + 3 = pc') (hc : cs + 1 ≤ I.R.cells) (hl : sl + n ≤ I.R.slots)
    (r : ∀ h' a, a = h.size → n0 ≤ a → Ext h h' → Exa Z h' a C' → (∀ {O nm d : String} {ty : FieldType}, Laid Z a0 C' O nm d → parseFieldDescriptor d = some ty → Fld Z h' a O nm d (defaultValue ty)) → oRun C Z n0 I Q h' (cs + 1) (sl + n) (mkF C.m pc' L (.ref a :: S))) : oRun C Z n0 I Q h cs sl (mkF C.m pc L S) := by
  subst hq
  intro T locs K
  obtain ⟨X, k1, k2, k3, k4, k5, k6, k7, k8, k9, k10, k11⟩ := K
  obtain ⟨T', h', X', e', E, A, D, -, st⟩ := newO X k1 k2 k3 w wi wz k9 (g := mkF C.m pc L S) rfl (hb k4 hd) hc hl
  obtain ⟨t, o, h1, h2⟩ := r h' _ rfl (o_le k11) E A D T' _ ⟨X', k1, k2, k3, k4, k5, k6, k7, k8, e', k10, k11.ext E⟩
  exact ⟨t, o, st t h1, h2⟩
theorem s_newA {a0 : Array Value} {aty : ArrayType} {n : Int32} (cap : Nat) (w : (Jvm.Cond.arrayClass (newarray.typeOf aty)).before a0 Z = true) (hd : decode I.bytes pc = .ok (.newarray aty, 2)) (hq : pc + 2 = pc') (hn : ¬ n < 0) (hcap : n.toNatClampNeg ≤ cap) (hb' : cap * 8 ≤ 536870912) (hc : cs + 1 ≤ I.R.cells) (hl : sl + cap ≤ I.R.slots)
    (r : ∀ h' a k, a = h.size → n0 ≤ a → Ext h h' → Arv Z h' a k (newarray.typeOf aty) n [] (defaultValue (newarray.typeOf aty)) → oRun C Z n0 I Q h' (cs + 1) (sl + cap) (mkF C.m pc' L (.ref a :: S))) : oRun C Z n0 I Q h cs sl (mkF C.m pc L (.int n :: S)) := by
  subst hq
  intro T locs K
  obtain ⟨X, k1, k2, k3, k4, k5, k6, k7, k8, k9, k10, k11⟩ := K
  obtain ⟨T', h', kA, X', e', E, A, st⟩ := newP X k1 k2 w k9 (g := mkF C.m pc L (.int n :: S)) rfl (hb k4 hd) rfl hn hcap hb' hc hl
  obtain ⟨t, o, h1, h2⟩ := r h' _ kA rfl (o_le k11) E (Arv.new A hn) T' _ ⟨X', k1, k2, k3, k4, k5, k6, k7, k8, e', k10, k11.ext E⟩
  exact ⟨t, o, st t h1, h2⟩
theorem s_alen {a : Addr} {k : ClassId} {ty : FieldType} {n : Int32} {vs : List Value} {dv : Value} (A : Arv Z h a k ty n vs dv) (hd : decode I.bytes pc = .ok (.arraylength, 1)) (hq : pc + 1 = pc') (r : oRun C Z n0 I Q h cs sl (mkF C.m pc' L (.int n :: S))) : oRun C Z n0 I Q h cs sl (mkF C.m pc L (.ref a :: S)) := by
  subst hq
  refine oStep (fun T locs K t kt => ?_) r
  obtain ⟨X, k1, k2, k3, k4, k5, k6, k7, k8, k9, k10, k11⟩ := K
  obtain ⟨c, A1, A2, A3, A4, -⟩ := A
  refine X.arraylength k1 (by rw [k9]; exact A1.1) (State.isArrayOf_alike k2.alike A1.2.1) (g := mkF C.m pc L (.ref a :: S)) rfl rfl (hb k4 hd) _ ?_
  rw [len_of A3 A4]; exact kt
theorem o_at {a : Addr} {k : ClassId} {ty : FieldType} {n j : Int32} {vs : List Value} {dv v : Value} (A : Arv Z h a k ty n vs dv) (j0 : ¬ j < 0) (j1 : j < n) (hv : vs.getD j.toNatClampNeg dv = v) : ∃ c, Arr Z h a c ty ∧ ¬ (j < 0 ∨ c.slots.size ≤ j.toNatClampNeg) ∧ c.slots[j.toNatClampNeg]? = some v := by
  obtain ⟨c, A1, A2, A3, A4, A5, A6⟩ := A
  have q := inb_of A3 ⟨j0, j1⟩
  exact ⟨c, A1, q, A5.at q hv⟩
theorem s_iaload {a : Addr} {k : ClassId} {n j : Int32} {vs : List Value} {dv v : Value} (A : Arv Z h a k .int n vs dv) (j0 : ¬ j < 0) (j1 : j < n) (hv : vs.getD j.toNatClampNeg dv = v) (hd : decode I.bytes pc = .ok (.iaload, 1)) (hq : pc + 1 = pc') (r : oRun C Z n0 I Q h cs sl (mkF C.m pc' L (v :: S))) : oRun C Z n0 I Q h cs sl (mkF C.m pc L (.int j :: .ref a :: S)) := by
  subst hq
  refine oStep (fun T locs K t kt => ?_) r
  obtain ⟨X, k1, k2, k3, k4, k5, k6, k7, k8, k9, k10, k11⟩ := K
  obtain ⟨c, A1, q, A2⟩ := o_at A j0 j1 hv
  exact X.iaload k1 (by rw [k9]; exact A1.1) (State.isArrayOf_alike k2.alike A1.2.1) A1.2.2 q A2 (g := mkF C.m pc L (.int j :: .ref a :: S)) rfl rfl (hb k4 hd) _ kt
theorem s_caload {a : Addr} {k : ClassId} {n j : Int32} {vs : List Value} {dv v : Value} (A : Arv Z h a k .char n vs dv) (j0 : ¬ j < 0) (j1 : j < n) (hv : vs.getD j.toNatClampNeg dv = v) (hd : decode I.bytes pc = .ok (.caload, 1)) (hq : pc + 1 = pc') (r : oRun C Z n0 I Q h cs sl (mkF C.m pc' L (v :: S))) : oRun C Z n0 I Q h cs sl (mkF C.m pc L (.int j :: .ref a :: S)) := by
  subst hq
  refine oStep (fun T locs K t kt => ?_) r
  obtain ⟨X, k1, k2, k3, k4, k5, k6, k7, k8, k9, k10, k11⟩ := K
  obtain ⟨c, A1, q, A2⟩ := o_at A j0 j1 hv
  exact X.caload k1 (by rw [k9]; exact A1.1) (State.isArrayOf_alike k2.alike A1.2.1) A1.2.2 q A2 (g := mkF C.m pc L (.int j :: .ref a :: S)) rfl rfl (hb k4 hd) _ kt
theorem s_baload {a : Addr} {k : ClassId} {n j : Int32} {vs : List Value} {dv v : Value} (A : Arv Z h a k .byte n vs dv) (j0 : ¬ j < 0) (j1 : j < n) (hv : vs.getD j.toNatClampNeg dv = v) (hd : decode I.bytes pc = .ok (.baload, 1)) (hq : pc + 1 = pc') (r : oRun C Z n0 I Q h cs sl (mkF C.m pc' L (v :: S))) : oRun C Z n0 I Q h cs sl (mkF C.m pc L (.int j :: .ref a :: S)) := by
  subst hq
  refine oStep (fun T locs K t kt => ?_) r
  obtain ⟨X, k1, k2, k3, k4, k5, k6, k7, k8, k9, k10, k11⟩ := K
  obtain ⟨c, A1, q, A2⟩ := o_at A j0 j1 hv
  exact X.baloadBytes k1 (by rw [k9]; exact A1.1) (State.isArrayOf_alike k2.alike A1.2.1) A1.2.2 q A2 (g := mkF C.m pc L (.int j :: .ref a :: S)) rfl rfl (hb k4 hd) _ kt
theorem s_aaload {a : Addr} {cl : Cell} {ty : FieldType} {j : Int32} {v : Value} (A : Arr Z h a cl ty) (ht : ty.isReference = true) (q : ¬ (j < 0 ∨ cl.slots.size ≤ j.toNatClampNeg)) (hv : cl.slots[j.toNatClampNeg]? = some v) (hd : decode I.bytes pc = .ok (.aaload, 1)) (hq : pc + 1 = pc') (r : oRun C Z n0 I Q h cs sl (mkF C.m pc' L (v :: S))) : oRun C Z n0 I Q h cs sl (mkF C.m pc L (.int j :: .ref a :: S)) := by
  subst hq
  refine oStep (fun T locs K t kt => ?_) r
  obtain ⟨X, k1, k2, k3, k4, k5, k6, k7, k8, k9, k10, k11⟩ := K
  exact X.aaload k1 (by rw [k9]; exact A.1) (State.isArrayOf_alike k2.alike A.2.1) ht A.2.2 q hv (g := mkF C.m pc L (.int j :: .ref a :: S)) rfl rfl (hb k4 hd) _ kt
theorem o_padTo {a : Addr} {k : ClassId} {ty : FieldType} {n : Int32} {vs : List Value} {dv : Value} (A : Arv Z h a k ty n vs dv) (N : Nat) : Arv Z h a k ty n (vs ++ List.replicate N dv) dv := A.pad (pad_rep vs dv N)
theorem s_iastore {a : Addr} {k : ClassId} {n j : Int32} {vs : List Value} {dv : Value} (A : Arv Z h a k .int n vs dv) (ha : n0 ≤ a) (j0 : ¬ j < 0) (j1 : j < n) (i : Nat) (hi : j.toNatClampNeg = i) (hl : i < vs.length) (hd : decode I.bytes pc = .ok (.iastore, 1)) (hq : pc + 1 = pc')
    (r : ∀ h', Wr h h' a i (.int x) → Arv Z h' a k .int n (vs.set i (.int x)) dv → oRun C Z n0 I Q h' cs sl (mkF C.m pc' L S)) : oRun C Z n0 I Q h cs sl (mkF C.m pc L (.int x :: .int j :: .ref a :: S)) := by
  subst hq
  intro T locs K
  obtain ⟨X, k1, k2, k3, k4, k5, k6, k7, k8, k9, k10, k11⟩ := K
  obtain ⟨c, A1, A2, A3, A4, A5, A6⟩ := A
  obtain ⟨T', h', X', e', W, st⟩ := stI X k1 k2 k9 A1 (inb_of A3 ⟨j0, j1⟩) (g := mkF C.m pc L (.int x :: .int j :: .ref a :: S)) rfl rfl (hb k4 hd)
  obtain ⟨t, o, h1, h2⟩ := r h' (hi ▸ W) (Arv.set A1 A2 A3 A4 A5 A6 rfl W i hi hl) T' _ ⟨X', k1, k2, k3, k4, k5, k6, k7, k8, e', Fr.snoc X' k10 ha, k11.wr W ha⟩
  exact ⟨t, o, st t h1, h2⟩
theorem s_castore {a : Addr} {k : ClassId} {n j : Int32} {vs : List Value} {dv : Value} (A : Arv Z h a k .char n vs dv) (ha : n0 ≤ a) (j0 : ¬ j < 0) (j1 : j < n) (i : Nat) (hi : j.toNatClampNeg = i) (hl : i < vs.length) (hd : decode I.bytes pc = .ok (.castore, 1)) (hq : pc + 1 = pc')
    (r : ∀ h', Wr h h' a i (.int (nar .char x)) → Arv Z h' a k .char n (vs.set i (.int (nar .char x))) dv → oRun C Z n0 I Q h' cs sl (mkF C.m pc' L S)) : oRun C Z n0 I Q h cs sl (mkF C.m pc L (.int x :: .int j :: .ref a :: S)) := by
  subst hq
  intro T locs K
  obtain ⟨X, k1, k2, k3, k4, k5, k6, k7, k8, k9, k10, k11⟩ := K
  obtain ⟨c, A1, A2, A3, A4, A5, A6⟩ := A
  obtain ⟨T', h', X', e', W, st⟩ := stC X k1 k2 k9 A1 (inb_of A3 ⟨j0, j1⟩) (g := mkF C.m pc L (.int x :: .int j :: .ref a :: S)) rfl rfl (hb k4 hd)
  obtain ⟨t, o, h1, h2⟩ := r h' (hi ▸ W) (Arv.set A1 A2 A3 A4 A5 A6 (fits_nar_char _) W i hi hl) T' _ ⟨X', k1, k2, k3, k4, k5, k6, k7, k8, e', Fr.snoc X' k10 ha, k11.wr W ha⟩
  exact ⟨t, o, st t h1, h2⟩
theorem s_bastore {a : Addr} {k : ClassId} {n j : Int32} {vs : List Value} {dv : Value} (A : Arv Z h a k .byte n vs dv) (ha : n0 ≤ a) (j0 : ¬ j < 0) (j1 : j < n) (i : Nat) (hi : j.toNatClampNeg = i) (hl : i < vs.length) (hd : decode I.bytes pc = .ok (.bastore, 1)) (hq : pc + 1 = pc')
    (r : ∀ h', Wr h h' a i (.int (nar .byte x)) → Arv Z h' a k .byte n (vs.set i (.int (nar .byte x))) dv → oRun C Z n0 I Q h' cs sl (mkF C.m pc' L S)) : oRun C Z n0 I Q h cs sl (mkF C.m pc L (.int x :: .int j :: .ref a :: S)) := by
  subst hq
  intro T locs K
  obtain ⟨X, k1, k2, k3, k4, k5, k6, k7, k8, k9, k10, k11⟩ := K
  obtain ⟨c, A1, A2, A3, A4, A5, A6⟩ := A
  obtain ⟨T', h', X', e', W, st⟩ := stB X k1 k2 k9 A1 (inb_of A3 ⟨j0, j1⟩) (g := mkF C.m pc L (.int x :: .int j :: .ref a :: S)) rfl rfl (hb k4 hd)
  obtain ⟨t, o, h1, h2⟩ := r h' (hi ▸ W) (Arv.set A1 A2 A3 A4 A5 A6 (fits_nar_byte _) W i hi hl) T' _ ⟨X', k1, k2, k3, k4, k5, k6, k7, k8, e', Fr.snoc X' k10 ha, k11.wr W ha⟩
  exact ⟨t, o, st t h1, h2⟩
theorem s_copy {a0 : Array Value} {index : Nat} {a b : Addr} {k k' : ClassId} {ty : FieldType} {z z' sp dp nn : Int32} {vs vd : List Value} {dv dd : Value} (A : Arv Z h a k ty z vs dv) (B : Arv Z h b k' ty z' vd dd) (hty : refKind ty = false) (hgb : n0 ≤ b)
    (w1 : (Jvm.Cond.methodLink I.own index Jvm.Stand.acN).before a0 Z = true) (w2 : (Jvm.Cond.native Jvm.Stand.acN).before a0 Z = true) (w3 : (Jvm.Cond.static Jvm.Stand.acN).before a0 Z = true) (w4 : (Jvm.Cond.initialized "java/lang/System").before a0 Z = true)
    (h1 : ¬ sp < 0) (h2 : ¬ dp < 0) (h3 : ¬ nn < 0) (h4 : sp.toNatClampNeg + nn.toNatClampNeg ≤ z.toNatClampNeg) (h5 : dp.toNatClampNeg + nn.toNatClampNeg ≤ z'.toNatClampNeg) (hl : dp.toNatClampNeg + nn.toNatClampNeg ≤ vd.length)
    (hsz : L.size = I.ml) (hd : decode I.bytes pc = .ok (.invokestatic index, 3)) (hq : pc + 3 = pc') (hf : 1 ≤ I.R.frames) (hlo : (S.map fun v => v.category).sum + (nativeFrameWords "java/lang/System" "arraycopy" 5 + 11) ≤ I.R.locals)
    (r : ∀ h', Keep h h' [b] → Arv Z h' b k' ty z' (vd.take dp.toNatClampNeg ++ ((List.range nn.toNatClampNeg).map fun i => vs.getD (sp.toNatClampNeg + i) dv) ++ vd.drop (dp.toNatClampNeg + nn.toNatClampNeg)) dd → oRun C Z n0 I Q h' cs sl (mkF C.m pc' L S)) :
    oRun C Z n0 I Q h cs sl (mkF C.m pc L (.int nn :: .int dp :: .ref b :: .int sp :: .ref a :: S)) := by
  subst hq
  intro T locs K
  obtain ⟨X, k1, k2, k3, k4, k5, k6, k7, k8, k9, k10, k11⟩ := K
  obtain ⟨T', h', L', X', e', N', K', A', st⟩ := cpA X k1 k2 k3 w1 w2 w3 w4 k9 A B (Or.inl ⟨rfl, hty⟩) h1 h2 h3 h4 h5 rfl hl k10 hgb (g := mkF C.m pc L (.int nn :: .int dp :: .ref b :: .int sp :: .ref a :: S)) rfl (hsz.trans k5.symm) rfl (hb k4 hd) hf (W := (S.map fun v => v.category).sum) (by show 2 * 0 + _ ≤ _; simp) hlo
  obtain ⟨t, o, q1, q2⟩ := r h' K' A' T' _ ⟨X', k1, k2, k3, k4, k5, k6, k7, k8, e', N', k11.keep K' (allS hgb all0)⟩
  exact ⟨t, o, st t q1, q2⟩
theorem s_initO {a0 : Array Value} {idx : Nat} {a : Addr} (w1 : (Jvm.Cond.methodLink I.own idx Lib.objectInit).before a0 Z = true) (w2 : (Jvm.Cond.instanceMethod Lib.objectInit).before a0 Z = true) (w3 : (Jvm.Cond.code Lib.objectInit ⟨#[0xb1]⟩ 1 none).before a0 Z = true) (hsz : L.size = I.ml) (hd : decode I.bytes pc = .ok (.invokespecial idx, 3)) (hq : pc + 3 = pc') (hf : 1 ≤ I.R.frames) (hlo : (S.map fun v => v.category).sum + 12 ≤ I.R.locals)
    (r : oRun C Z n0 I Q h cs sl (mkF C.m pc' L S)) : oRun C Z n0 I Q h cs sl (mkF C.m pc L (.ref a :: S)) := by
  subst hq
  refine oMove (fun T locs K => ?_) r
  obtain ⟨X, k1, k2, k3, k4, k5, k6, k7, k8, k9, k10, k11⟩ := K
  obtain ⟨T', X', e', st⟩ := initO X k1 k2 k3 w1 w2 w3 k9 (g := mkF C.m pc L (.ref a :: S)) rfl (hsz.trans k5.symm) rfl (hb k4 hd) hf (W := (S.map fun v => v.category).sum) (by show 2 * 0 + _ ≤ _; simp) hlo
  exact ⟨T', locs, ⟨X', k1, k2, k3, k4, k5, k6, k7, k8, e', k10, k11⟩, st⟩
theorem s_ldcI {a0 : Array Value} {idx : Nat} (w : (Jvm.Cond.constant I.own idx x).before a0 Z = true) (hd : decode I.bytes pc = .ok (.ldc idx, 2)) (hq : pc + 2 = pc') (r : oRun C Z n0 I Q h cs sl (mkF C.m pc' L (.int x :: S))) : oRun C Z n0 I Q h cs sl (mkF C.m pc L S) := by
  subst hq
  refine oStep (fun T locs K t kt => ?_) r
  obtain ⟨X, k1, k2, k3, k4, k5, k6, k7, k8, k9, k10, k11⟩ := K
  exact X.ldcInt k1 k3 (mvT k2 w) (g := mkF C.m pc L S) rfl (hb k4 hd) _ kt
theorem s_acmpNe {o : Int} {pc'' : Nat} {v w : Value} (hv : v.isRef = true) (hw : w.isRef = true) (hd : decode I.bytes pc = .ok (.if_acmp .ne o, 3)) (hq : pc + 3 = pc') (ho : 0 ≤ (pc : Int) + o) (hq' : ((pc : Int) + o).toNat = pc'')
    (rt : ¬ v = w → oRun C Z n0 I Q h cs sl (mkF C.m pc'' L S)) (rf : v = w → oRun C Z n0 I Q h cs sl (mkF C.m pc' L S)) : oRun C Z n0 I Q h cs sl (mkF C.m pc L (w :: v :: S)) := by
  subst hq
  by_cases hh : v = w
  · exact oStep (fun T locs K t kt => XT.acmpNo K.1.here K.2.1 rfl (hb K.2.2.2.2.1 hd) rfl hv hw (by simp [XT.acmp, hh]) kt) (rf hh)
  · exact oStep (fun T locs K t kt => XT.acmpYes K.1.here K.2.1 rfl (pc0 := pc) rfl (hb K.2.2.2.2.1 hd) rfl hv hw (by simp [XT.acmp, hh]) ho hq' kt) (rt hh)
theorem s_acmpEq {o : Int} {pc'' : Nat} {v w : Value} (hv : v.isRef = true) (hw : w.isRef = true) (hd : decode I.bytes pc = .ok (.if_acmp .eq o, 3)) (hq : pc + 3 = pc') (ho : 0 ≤ (pc : Int) + o) (hq' : ((pc : Int) + o).toNat = pc'')
    (rt : v = w → oRun C Z n0 I Q h cs sl (mkF C.m pc'' L S)) (rf : ¬ v = w → oRun C Z n0 I Q h cs sl (mkF C.m pc' L S)) : oRun C Z n0 I Q h cs sl (mkF C.m pc L (w :: v :: S)) := by
  subst hq
  by_cases hh : v = w
  · exact oStep (fun T locs K t kt => XT.acmpYes K.1.here K.2.1 rfl (pc0 := pc) rfl (hb K.2.2.2.2.1 hd) rfl hv hw (by simp [XT.acmp, hh]) ho hq' kt) (rt hh)
  · exact oStep (fun T locs K t kt => XT.acmpNo K.1.here K.2.1 rfl (hb K.2.2.2.2.1 hd) rfl hv hw (by simp [XT.acmp, hh]) kt) (rf hh)
theorem s_nnY {o : Int} {b : Addr} (hd : decode I.bytes pc = .ok (.ifnonnull o, 3)) (ho : 0 ≤ (pc : Int) + o) (hq' : ((pc : Int) + o).toNat = pc') (r : oRun C Z n0 I Q h cs sl (mkF C.m pc' L S)) : oRun C Z n0 I Q h cs sl (mkF C.m pc L (.ref b :: S)) :=
  oStep (fun T locs K t kt => XT.ifnonnullYes K.1.here K.2.1 rfl (pc0 := pc) rfl (hb K.2.2.2.2.1 hd) rfl ho hq' kt) r
theorem s_nnN {o : Int} (hd : decode I.bytes pc = .ok (.ifnonnull o, 3)) (hq : pc + 3 = pc') (r : oRun C Z n0 I Q h cs sl (mkF C.m pc' L S)) : oRun C Z n0 I Q h cs sl (mkF C.m pc L (.null :: S)) := by
  subst hq; exact oStep (fun T locs K t kt => XT.ifnonnullNo K.1.here K.2.1 rfl (hb K.2.2.2.2.1 hd) rfl kt) r
theorem s_nuY {o : Int} (hd : decode I.bytes pc = .ok (.ifnull o, 3)) (ho : 0 ≤ (pc : Int) + o) (hq' : ((pc : Int) + o).toNat = pc') (r : oRun C Z n0 I Q h cs sl (mkF C.m pc' L S)) : oRun C Z n0 I Q h cs sl (mkF C.m pc L (.null :: S)) :=
  oStep (fun T locs K t kt => XS.ifnullYes K.1.here K.2.1 rfl (pc0 := pc) rfl (hb K.2.2.2.2.1 hd) rfl ho hq' kt) r
theorem s_nuN {o : Int} {b : Addr} (hd : decode I.bytes pc = .ok (.ifnull o, 3)) (hq : pc + 3 = pc') (r : oRun C Z n0 I Q h cs sl (mkF C.m pc' L S)) : oRun C Z n0 I Q h cs sl (mkF C.m pc L (.ref b :: S)) := by
  subst hq; exact oStep (fun T locs K t kt => XS.ifnullNo K.1.here K.2.1 rfl (hb K.2.2.2.2.1 hd) rfl kt) r
theorem s_castY {a0 : Array Value} {Kn : String} {index : Nat} {a : Addr} (F : Ins Z h a Kn true) (w : (Jvm.Cond.classLink I.own index Kn).before a0 Z = true) (hd : decode I.bytes pc = .ok (.checkcast index, 3)) (hq : pc + 3 = pc')
    (r : oRun C Z n0 I Q h cs sl (mkF C.m pc' L (.ref a :: S))) : oRun C Z n0 I Q h cs sl (mkF C.m pc L (.ref a :: S)) := by
  subst hq
  refine oMove (fun T locs K => ?_) r
  obtain ⟨X, k1, k2, k3, k4, k5, k6, k7, k8, k9, k10, k11⟩ := K
  obtain ⟨T', X', e', st⟩ := castY X k1 k2 k3 w k9 F (g := mkF C.m pc L (.ref a :: S)) rfl rfl (hb k4 hd)
  exact ⟨T', locs, ⟨X', k1, k2, k3, k4, k5, k6, k7, k8, e', k10, k11⟩, st⟩
theorem s_instY {a0 : Array Value} {Kn : String} {index : Nat} {a : Addr} (F : Ins Z h a Kn true) (w : (Jvm.Cond.classLink I.own index Kn).before a0 Z = true) (hd : decode I.bytes pc = .ok (.instanceof index, 3)) (hq : pc + 3 = pc')
    (r : oRun C Z n0 I Q h cs sl (mkF C.m pc' L (.int 1 :: S))) : oRun C Z n0 I Q h cs sl (mkF C.m pc L (.ref a :: S)) := by
  subst hq
  refine oMove (fun T locs K => ?_) r
  obtain ⟨X, k1, k2, k3, k4, k5, k6, k7, k8, k9, k10, k11⟩ := K
  obtain ⟨T', X', e', st⟩ := instY X k1 k2 k3 w k9 F (g := mkF C.m pc L (.ref a :: S)) rfl rfl (hb k4 hd)
  exact ⟨T', locs, ⟨X', k1, k2, k3, k4, k5, k6, k7, k8, e', k10, k11⟩, st⟩
theorem s_instNo {a0 : Array Value} {Kn Cn : String} {index : Nat} {a : Addr} (E : Exa Z h a Cn) (F : ∃ c t, Z.vm.findClass Cn = some c ∧ Z.vm.findClass Kn = some t ∧ Z.vm.assignable c t = false) (w : (Jvm.Cond.classLink I.own index Kn).before a0 Z = true) (hd : decode I.bytes pc = .ok (.instanceof index, 3)) (hq : pc + 3 = pc')
    (r : oRun C Z n0 I Q h cs sl (mkF C.m pc' L (.int 0 :: S))) : oRun C Z n0 I Q h cs sl (mkF C.m pc L (.ref a :: S)) := by
  subst hq
  refine oMove (fun T locs K => ?_) r
  obtain ⟨X, k1, k2, k3, k4, k5, k6, k7, k8, k9, k10, k11⟩ := K
  obtain ⟨T', X', e', st⟩ := instNo X k1 k2 k3 w k9 E F (g := mkF C.m pc L (.ref a :: S)) rfl rfl (hb k4 hd)
  exact ⟨T', locs, ⟨X', k1, k2, k3, k4, k5, k6, k7, k8, e', k10, k11⟩, st⟩
theorem s_instNull {index : Nat} (hd : decode I.bytes pc = .ok (.instanceof index, 3)) (hq : pc + 3 = pc')
    (r : oRun C Z n0 I Q h cs sl (mkF C.m pc' L (.int 0 :: S))) : oRun C Z n0 I Q h cs sl (mkF C.m pc L (.null :: S)) := by
  subst hq
  refine oStep (fun T locs K t kt => ?_) r
  exact K.1.instanceofNull K.2.1 (g := mkF C.m pc L (.null :: S)) rfl rfl (hb K.2.2.2.2.1 hd) _ kt
-- a value left by a callee
def oPush : Option Value → List Value → List Value
  | none, S => S
  | some v, S => v :: S
theorem o_push (v : Option Value) (S : List Value) : v.toList ++ S = oPush v S := by cases v <;> rfl
theorem o_zero (S : List Value) (W : Nat) (q : (S.map fun v => v.category).sum ≤ W) (m : MethodId) (pc : Nat) (L : Array Slot) (S' : List Value) : 2 * (mkF m pc L S').monitorRoom + (S.map fun v => v.category).sum ≤ W := by show 2 * 0 + _ ≤ _; simpa using q
theorem s_callS {a0 : Array Value} {index : Nat} {yn : MethodName} {J : OInfo} {as' : Array Value} {Q' : Option Value → Heap → Prop} {argsL : List Value} (M : oCon C.l Z n0 yn J as' h Q') (ha : argsL.toArray = as')
    (w1 : (Jvm.Cond.methodLink I.own index yn).before a0 Z = true) (w2 : (Jvm.Cond.static yn).before a0 Z = true) (w3 : (Jvm.Cond.initialized yn.cls).before a0 Z = true) (w4 : (Jvm.Cond.code yn J.bytes J.ml J.ret).before a0 Z = true) (hy : yn.cls ≠ "java/lang/invoke/MethodHandle" ∧ yn.cls ≠ "java/lang/invoke/VarHandle")
    (hlen : ∀ sig, parseMethodDescriptor yn.desc = some sig → argsL.length = sig.parameters.length) (hsz : L.size = I.ml) (hd : decode I.bytes pc = .ok (.invokestatic index, 3)) (hq : pc + 3 = pc') (hf : J.R.frames + 1 ≤ I.R.frames) (hlo : (S.map fun v => v.category).sum + (J.ml + 11) + J.R.locals ≤ I.R.locals) (hc : cs + J.R.cells ≤ I.R.cells) (hs : sl + J.R.slots ≤ I.R.slots)
    (r : ∀ v h', Q' v h' → oRun C Z n0 I Q h' (cs + J.R.cells) (sl + J.R.slots) (mkF C.m pc' L (oPush v S))) : oRun C Z n0 I Q h cs sl (mkF C.m pc L (argsL.reverse ++ S)) := by
  subst hq ha
  intro T locs K
  obtain ⟨X, k1, k2, k3, k4, k5, k6, k7, k8, k9, k10, k11⟩ := K
  obtain ⟨v, _, ⟨T', L', c', s'⟩, -, X', ⟨Lc, ⟨q1, q2, q3⟩, l', y', z'⟩, st⟩ := Jvm.LawKit.callS X k1 (y := yn) k3 (mvT k2 w1) (mvT k2 w2) (mvT k2 w3) (mvT k2 w4) hy (backOf (W := (S.map fun v => v.category).sum) (Q := fun v h' L => Fr n0 L ∧ Old Z n0 h' ∧ Q' v h') (M k11 []) k2 w4 w3 hf hlo) (g := mkF C.m pc L (argsL.reverse ++ S)) rfl (hsz.trans k5.symm) (argsL := argsL) (rest := S) hlen rfl (o_zero _ _ (Nat.le_refl _) _ _ _ _) (hb k4 hd) (fun _ _ => ⟨rfl, k9, hc, hs⟩)
  dsimp only [Pt.U, Pt.locs, Pt.cells, Pt.slots] at X' l' y' z' st q2 q3
  subst l' y' z'
  obtain ⟨t, o, h1, h2⟩ := r v _ q3 T' _ ⟨X', k1, k2, k3, k4, k5, k6, k7, k8, rfl, Fr.app k10 q1, q2⟩
  rw [← o_push] at h1
  exact ⟨t, o, st t h1, h2⟩
theorem s_callI {a0 : Array Value} {index : Nat} {yn : MethodName} {J : OInfo} {as' : Array Value} {Q' : Option Value → Heap → Prop} {argsL : List Value} {a : Addr} (M : oCon C.l Z n0 yn J as' h Q') (ha : (.ref a :: argsL).toArray = as') (hr : J.ret = none) (hn : yn.name = "<init>")
    (w1 : (Jvm.Cond.methodLink I.own index yn).before a0 Z = true) (w2 : (Jvm.Cond.instanceMethod yn).before a0 Z = true) (w3 : (Jvm.Cond.initialized yn.cls).before a0 Z = true) (w4 : (Jvm.Cond.code yn J.bytes J.ml J.ret).before a0 Z = true) (hy : yn.cls ≠ "java/lang/invoke/MethodHandle" ∧ yn.cls ≠ "java/lang/invoke/VarHandle")
    (hlen : ∀ sig, parseMethodDescriptor yn.desc = some sig → argsL.length = sig.parameters.length) (hsz : L.size = I.ml) (hd : decode I.bytes pc = .ok (.invokespecial index, 3)) (hq : pc + 3 = pc') (hf : J.R.frames + 1 ≤ I.R.frames) (hlo : (S.map fun v => v.category).sum + (J.ml + 11) + J.R.locals ≤ I.R.locals) (hc : cs + J.R.cells ≤ I.R.cells) (hs : sl + J.R.slots ≤ I.R.slots)
    (r : ∀ v h', Q' v h' → oRun C Z n0 I Q h' (cs + J.R.cells) (sl + J.R.slots) (mkF C.m pc' L (oPush v S))) : oRun C Z n0 I Q h cs sl (mkF C.m pc L (argsL.reverse ++ .ref a :: S)) := by
  subst hq ha
  intro T locs K
  obtain ⟨X, k1, k2, k3, k4, k5, k6, k7, k8, k9, k10, k11⟩ := K
  obtain ⟨v, _, ⟨T', L', c', s'⟩, -, X', ⟨Lc, ⟨q1, q2, q3⟩, l', y', z'⟩, st⟩ := X.specialBack k1 (y := yn) hn k3 (mvT k2 w1) (mvT k2 w2) (bytes := J.bytes) (maxL := J.ml) (by rw [hr] at w4; exact mvT k2 w4) hy (backOf (W := (S.map fun v => v.category).sum) (Q := fun v h' L => Fr n0 L ∧ Old Z n0 h' ∧ Q' v h') (M k11 []) k2 w4 w3 hf hlo) (g := mkF C.m pc L (argsL.reverse ++ .ref a :: S)) rfl (hsz.trans k5.symm) (Steps.refl _) (argsL := argsL) (rest := S) hlen rfl (o_zero _ _ (Nat.le_refl _) _ _ _ _) (hb k4 hd) (fun _ _ => ⟨rfl, k9, hc, hs⟩)
  dsimp only [Pt.U, Pt.locs, Pt.cells, Pt.slots] at X' l' y' z' st q2 q3
  subst l' y' z'
  obtain ⟨t, o, h1, h2⟩ := r v _ q3 T' _ ⟨X', k1, k2, k3, k4, k5, k6, k7, k8, rfl, Fr.app k10 q1, q2⟩
  rw [← o_push] at h1
  exact ⟨t, o, st.trans h1, h2⟩
theorem s_callV {a0 : Array Value} {index : Nat} {Cn : String} {yn zn : MethodName} {J : OInfo} {as' : Array Value} {Q' : Option Value → Heap → Prop} {argsL : List Value} {a : Addr} (M : oCon C.l Z n0 zn J as' h Q') (ha : (.ref a :: argsL).toArray = as') (E : Exa Z h a Cn)
    (w1 : (Jvm.Cond.methodLink I.own index yn).before a0 Z = true) (w2 : (Jvm.Cond.declares yn).before a0 Z = true) (w5 : (Jvm.Cond.selects Cn yn zn).before a0 Z = true) (w6 : (Jvm.Cond.instanceMethod zn).before a0 Z = true) (nf : ∀ s' : State, Z.Warmed39 s'.vm → NotFace s' yn) (w3 : (Jvm.Cond.initialized zn.cls).before a0 Z = true) (w4 : (Jvm.Cond.code zn J.bytes J.ml J.ret).before a0 Z = true) (hy : yn.cls ≠ "java/lang/invoke/MethodHandle" ∧ yn.cls ≠ "java/lang/invoke/VarHandle")
    (hlen : ∀ sig, parseMethodDescriptor yn.desc = some sig → argsL.length = sig.parameters.length) (hsz : L.size = I.ml) (hd : decode I.bytes pc = .ok (.invokevirtual index, 3)) (hq : pc + 3 = pc') (hf : J.R.frames + 1 ≤ I.R.frames) (hlo : (S.map fun v => v.category).sum + (J.ml + 11) + J.R.locals ≤ I.R.locals) (hc : cs + J.R.cells ≤ I.R.cells) (hs : sl + J.R.slots ≤ I.R.slots)
    (r : ∀ v h', Q' v h' → oRun C Z n0 I Q h' (cs + J.R.cells) (sl + J.R.slots) (mkF C.m pc' L (oPush v S))) : oRun C Z n0 I Q h cs sl (mkF C.m pc L (argsL.reverse ++ .ref a :: S)) := by
  subst hq ha
  intro T locs K
  obtain ⟨X, k1, k2, k3, k4, k5, k6, k7, k8, k9, k10, k11⟩ := K
  obtain ⟨cq, kq, qa, qb, qc⟩ := isOf (T := T) k2 k9 E
  obtain ⟨v, _, ⟨T', L', c', s'⟩, -, X', ⟨Lc, ⟨q1, q2, q3⟩, l', y', z'⟩, st⟩ := X.virtualBack k1 (y := yn) (z := zn) k3 (mvT k2 w1) (mvT k2 w2) (nf _ k2) (mvT k2 w5) (mvT k2 w6) hy (backOf (W := (S.map fun v => v.category).sum) (Q := fun v h' L => Fr n0 L ∧ Old Z n0 h' ∧ Q' v h') (M k11 []) k2 w4 w3 hf hlo) qa qc (g := mkF C.m pc L (argsL.reverse ++ .ref a :: S)) rfl (hsz.trans k5.symm) (Steps.refl _) (argsL := argsL) (rest := S) hlen rfl (o_zero _ _ (Nat.le_refl _) _ _ _ _) (hb k4 hd) (fun _ _ => ⟨rfl, k9, hc, hs⟩)
  dsimp only [Pt.U, Pt.locs, Pt.cells, Pt.slots] at X' l' y' z' st q2 q3
  subst l' y' z'
  obtain ⟨t, o, h1, h2⟩ := r v _ q3 T' _ ⟨X', k1, k2, k3, k4, k5, k6, k7, k8, rfl, Fr.app k10 q1, q2⟩
  rw [← o_push] at h1
  exact ⟨t, o, st.trans h1, h2⟩
theorem o_nf {a0 : Array Value} {Cn : String} {yn zn : MethodName} (w5 : (Jvm.Cond.selects Cn yn zn).before a0 Z = true) (q : yn = zn) : ∀ s' : State, Z.Warmed39 s'.vm → NotFace s' yn := by
  subst q; exact fun s' hz => notFace_of_selects (args := #[]) (mvT hz w5)
theorem o_len {d : String} {ps : List FieldType} {r : Option FieldType} (hd : parseMethodDescriptor d = some ⟨ps, r⟩) {n : Nat} (hl : n = ps.length) : ∀ sig, parseMethodDescriptor d = some sig → n = sig.parameters.length := fun sig h => by
  cases hd.symm.trans h; exact hl
theorem s_callS0 {a0 : Array Value} {index : Nat} {yn : MethodName} {J : OInfo} {Q' : Option Value → Heap → Prop} (M : oCon C.l Z n0 yn J #[] h Q') (w1 : (Jvm.Cond.methodLink I.own index yn).before a0 Z = true) (w2 : (Jvm.Cond.static yn).before a0 Z = true) (w3 : (Jvm.Cond.initialized yn.cls).before a0 Z = true) (w4 : (Jvm.Cond.code yn J.bytes J.ml J.ret).before a0 Z = true) (hy : yn.cls ≠ "java/lang/invoke/MethodHandle" ∧ yn.cls ≠ "java/lang/invoke/VarHandle")
    (hlen : ∀ sig, parseMethodDescriptor yn.desc = some sig → 0 = sig.parameters.length) (hsz : L.size = I.ml) (hd : decode I.bytes pc = .ok (.invokestatic index, 3)) (hq : pc + 3 = pc') (hf : J.R.frames + 1 ≤ I.R.frames) (hlo : (S.map fun v => v.category).sum + (J.ml + 11) + J.R.locals ≤ I.R.locals) (hc : cs + J.R.cells ≤ I.R.cells) (hs : sl + J.R.slots ≤ I.R.slots)
    (r : ∀ v h', Q' v h' → oRun C Z n0 I Q h' (cs + J.R.cells) (sl + J.R.slots) (mkF C.m pc' L (oPush v S))) : oRun C Z n0 I Q h cs sl (mkF C.m pc L (S)) := s_callS (argsL := []) M rfl w1 w2 w3 w4 hy hlen hsz hd hq hf hlo hc hs r
theorem s_callI0 {a0 : Array Value} {index : Nat} {yn : MethodName} {J : OInfo} {Q' : Option Value → Heap → Prop} {a : Addr} (M : oCon C.l Z n0 yn J #[.ref a] h Q') (hr : J.ret = none) (hn : yn.name = "<init>") (w1 : (Jvm.Cond.methodLink I.own index yn).before a0 Z = true) (w2 : (Jvm.Cond.instanceMethod yn).before a0 Z = true) (w3 : (Jvm.Cond.initialized yn.cls).before a0 Z = true) (w4 : (Jvm.Cond.code yn J.bytes J.ml J.ret).before a0 Z = true) (hy : yn.cls ≠ "java/lang/invoke/MethodHandle" ∧ yn.cls ≠ "java/lang/invoke/VarHandle")
    (hlen : ∀ sig, parseMethodDescriptor yn.desc = some sig → 0 = sig.parameters.length) (hsz : L.size = I.ml) (hd : decode I.bytes pc = .ok (.invokespecial index, 3)) (hq : pc + 3 = pc') (hf : J.R.frames + 1 ≤ I.R.frames) (hlo : (S.map fun v => v.category).sum + (J.ml + 11) + J.R.locals ≤ I.R.locals) (hc : cs + J.R.cells ≤ I.R.cells) (hs : sl + J.R.slots ≤ I.R.slots)
    (r : ∀ v h', Q' v h' → oRun C Z n0 I Q h' (cs + J.R.cells) (sl + J.R.slots) (mkF C.m pc' L (oPush v S))) : oRun C Z n0 I Q h cs sl (mkF C.m pc L (.ref a :: S)) := s_callI (argsL := []) M rfl hr hn w1 w2 w3 w4 hy hlen hsz hd hq hf hlo hc hs r
theorem s_callV0 {a0 : Array Value} {index : Nat} {Cn : String} {yn zn : MethodName} {J : OInfo} {Q' : Option Value → Heap → Prop} {a : Addr} (M : oCon C.l Z n0 zn J #[.ref a] h Q') (E : Exa Z h a Cn) (w1 : (Jvm.Cond.methodLink I.own index yn).before a0 Z = true) (w2 : (Jvm.Cond.declares yn).before a0 Z = true) (w5 : (Jvm.Cond.selects Cn yn zn).before a0 Z = true) (w6 : (Jvm.Cond.instanceMethod zn).before a0 Z = true) (nf : ∀ s' : State, Z.Warmed39 s'.vm → NotFace s' yn) (w3 : (Jvm.Cond.initialized zn.cls).before a0 Z = true) (w4 : (Jvm.Cond.code zn J.bytes J.ml J.ret).before a0 Z = true) (hy : yn.cls ≠ "java/lang/invoke/MethodHandle" ∧ yn.cls ≠ "java/lang/invoke/VarHandle")
    (hlen : ∀ sig, parseMethodDescriptor yn.desc = some sig → 0 = sig.parameters.length) (hsz : L.size = I.ml) (hd : decode I.bytes pc = .ok (.invokevirtual index, 3)) (hq : pc + 3 = pc') (hf : J.R.frames + 1 ≤ I.R.frames) (hlo : (S.map fun v => v.category).sum + (J.ml + 11) + J.R.locals ≤ I.R.locals) (hc : cs + J.R.cells ≤ I.R.cells) (hs : sl + J.R.slots ≤ I.R.slots)
    (r : ∀ v h', Q' v h' → oRun C Z n0 I Q h' (cs + J.R.cells) (sl + J.R.slots) (mkF C.m pc' L (oPush v S))) : oRun C Z n0 I Q h cs sl (mkF C.m pc L (.ref a :: S)) := s_callV (argsL := []) M rfl E w1 w2 w5 w6 nf w3 w4 hy hlen hsz hd hq hf hlo hc hs r
theorem s_callS1 {a0 : Array Value} {index : Nat} {yn : MethodName} {J : OInfo} {Q' : Option Value → Heap → Prop} {v0 : Value} (M : oCon C.l Z n0 yn J #[v0] h Q') (w1 : (Jvm.Cond.methodLink I.own index yn).before a0 Z = true) (w2 : (Jvm.Cond.static yn).before a0 Z = true) (w3 : (Jvm.Cond.initialized yn.cls).before a0 Z = true) (w4 : (Jvm.Cond.code yn J.bytes J.ml J.ret).before a0 Z = true) (hy : yn.cls ≠ "java/lang/invoke/MethodHandle" ∧ yn.cls ≠ "java/lang/invoke/VarHandle")
    (hlen : ∀ sig, parseMethodDescriptor yn.desc = some sig → 1 = sig.parameters.length) (hsz : L.size = I.ml) (hd : decode I.bytes pc = .ok (.invokestatic index, 3)) (hq : pc + 3 = pc') (hf : J.R.frames + 1 ≤ I.R.frames) (hlo : (S.map fun v => v.category).sum + (J.ml + 11) + J.R.locals ≤ I.R.locals) (hc : cs + J.R.cells ≤ I.R.cells) (hs : sl + J.R.slots ≤ I.R.slots)
    (r : ∀ v h', Q' v h' → oRun C Z n0 I Q h' (cs + J.R.cells) (sl + J.R.slots) (mkF C.m pc' L (oPush v S))) : oRun C Z n0 I Q h cs sl (mkF C.m pc L (v0 :: S)) := s_callS (argsL := [v0]) M rfl w1 w2 w3 w4 hy hlen hsz hd hq hf hlo hc hs r
theorem s_callI1 {a0 : Array Value} {index : Nat} {yn : MethodName} {J : OInfo} {Q' : Option Value → Heap → Prop} {a : Addr} {v0 : Value} (M : oCon C.l Z n0 yn J #[.ref a, v0] h Q') (hr : J.ret = none) (hn : yn.name = "<init>") (w1 : (Jvm.Cond.methodLink I.own index yn).before a0 Z = true) (w2 : (Jvm.Cond.instanceMethod yn).before a0 Z = true) (w3 : (Jvm.Cond.initialized yn.cls).before a0 Z = true) (w4 : (Jvm.Cond.code yn J.bytes J.ml J.ret).before a0 Z = true) (hy : yn.cls ≠ "java/lang/invoke/MethodHandle" ∧ yn.cls ≠ "java/lang/invoke/VarHandle")
    (hlen : ∀ sig, parseMethodDescriptor yn.desc = some sig → 1 = sig.parameters.length) (hsz : L.size = I.ml) (hd : decode I.bytes pc = .ok (.invokespecial index, 3)) (hq : pc + 3 = pc') (hf : J.R.frames + 1 ≤ I.R.frames) (hlo : (S.map fun v => v.category).sum + (J.ml + 11) + J.R.locals ≤ I.R.locals) (hc : cs + J.R.cells ≤ I.R.cells) (hs : sl + J.R.slots ≤ I.R.slots)
    (r : ∀ v h', Q' v h' → oRun C Z n0 I Q h' (cs + J.R.cells) (sl + J.R.slots) (mkF C.m pc' L (oPush v S))) : oRun C Z n0 I Q h cs sl (mkF C.m pc L (v0 :: .ref a :: S)) := s_callI (argsL := [v0]) M rfl hr hn w1 w2 w3 w4 hy hlen hsz hd hq hf hlo hc hs r
theorem s_callV1 {a0 : Array Value} {index : Nat} {Cn : String} {yn zn : MethodName} {J : OInfo} {Q' : Option Value → Heap → Prop} {a : Addr} {v0 : Value} (M : oCon C.l Z n0 zn J #[.ref a, v0] h Q') (E : Exa Z h a Cn) (w1 : (Jvm.Cond.methodLink I.own index yn).before a0 Z = true) (w2 : (Jvm.Cond.declares yn).before a0 Z = true) (w5 : (Jvm.Cond.selects Cn yn zn).before a0 Z = true) (w6 : (Jvm.Cond.instanceMethod zn).before a0 Z = true) (nf : ∀ s' : State, Z.Warmed39 s'.vm → NotFace s' yn) (w3 : (Jvm.Cond.initialized zn.cls).before a0 Z = true) (w4 : (Jvm.Cond.code zn J.bytes J.ml J.ret).before a0 Z = true) (hy : yn.cls ≠ "java/lang/invoke/MethodHandle" ∧ yn.cls ≠ "java/lang/invoke/VarHandle")
    (hlen : ∀ sig, parseMethodDescriptor yn.desc = some sig → 1 = sig.parameters.length) (hsz : L.size = I.ml) (hd : decode I.bytes pc = .ok (.invokevirtual index, 3)) (hq : pc + 3 = pc') (hf : J.R.frames + 1 ≤ I.R.frames) (hlo : (S.map fun v => v.category).sum + (J.ml + 11) + J.R.locals ≤ I.R.locals) (hc : cs + J.R.cells ≤ I.R.cells) (hs : sl + J.R.slots ≤ I.R.slots)
    (r : ∀ v h', Q' v h' → oRun C Z n0 I Q h' (cs + J.R.cells) (sl + J.R.slots) (mkF C.m pc' L (oPush v S))) : oRun C Z n0 I Q h cs sl (mkF C.m pc L (v0 :: .ref a :: S)) := s_callV (argsL := [v0]) M rfl E w1 w2 w5 w6 nf w3 w4 hy hlen hsz hd hq hf hlo hc hs r
theorem s_callS2 {a0 : Array Value} {index : Nat} {yn : MethodName} {J : OInfo} {Q' : Option Value → Heap → Prop} {v0 v1 : Value} (M : oCon C.l Z n0 yn J #[v0, v1] h Q') (w1 : (Jvm.Cond.methodLink I.own index yn).before a0 Z = true) (w2 : (Jvm.Cond.static yn).before a0 Z = true) (w3 : (Jvm.Cond.initialized yn.cls).before a0 Z = true) (w4 : (Jvm.Cond.code yn J.bytes J.ml J.ret).before a0 Z = true) (hy : yn.cls ≠ "java/lang/invoke/MethodHandle" ∧ yn.cls ≠ "java/lang/invoke/VarHandle")
    (hlen : ∀ sig, parseMethodDescriptor yn.desc = some sig → 2 = sig.parameters.length) (hsz : L.size = I.ml) (hd : decode I.bytes pc = .ok (.invokestatic index, 3)) (hq : pc + 3 = pc') (hf : J.R.frames + 1 ≤ I.R.frames) (hlo : (S.map fun v => v.category).sum + (J.ml + 11) + J.R.locals ≤ I.R.locals) (hc : cs + J.R.cells ≤ I.R.cells) (hs : sl + J.R.slots ≤ I.R.slots)
    (r : ∀ v h', Q' v h' → oRun C Z n0 I Q h' (cs + J.R.cells) (sl + J.R.slots) (mkF C.m pc' L (oPush v S))) : oRun C Z n0 I Q h cs sl (mkF C.m pc L (v1 :: v0 :: S)) := s_callS (argsL := [v0, v1]) M rfl w1 w2 w3 w4 hy hlen hsz hd hq hf hlo hc hs r
theorem s_callI2 {a0 : Array Value} {index : Nat} {yn : MethodName} {J : OInfo} {Q' : Option Value → Heap → Prop} {a : Addr} {v0 v1 : Value} (M : oCon C.l Z n0 yn J #[.ref a, v0, v1] h Q') (hr : J.ret = none) (hn : yn.name = "<init>") (w1 : (Jvm.Cond.methodLink I.own index yn).before a0 Z = true) (w2 : (Jvm.Cond.instanceMethod yn).before a0 Z = true) (w3 : (Jvm.Cond.initialized yn.cls).before a0 Z = true) (w4 : (Jvm.Cond.code yn J.bytes J.ml J.ret).before a0 Z = true) (hy : yn.cls ≠ "java/lang/invoke/MethodHandle" ∧ yn.cls ≠ "java/lang/invoke/VarHandle")
    (hlen : ∀ sig, parseMethodDescriptor yn.desc = some sig → 2 = sig.parameters.length) (hsz : L.size = I.ml) (hd : decode I.bytes pc = .ok (.invokespecial index, 3)) (hq : pc + 3 = pc') (hf : J.R.frames + 1 ≤ I.R.frames) (hlo : (S.map fun v => v.category).sum + (J.ml + 11) + J.R.locals ≤ I.R.locals) (hc : cs + J.R.cells ≤ I.R.cells) (hs : sl + J.R.slots ≤ I.R.slots)
    (r : ∀ v h', Q' v h' → oRun C Z n0 I Q h' (cs + J.R.cells) (sl + J.R.slots) (mkF C.m pc' L (oPush v S))) : oRun C Z n0 I Q h cs sl (mkF C.m pc L (v1 :: v0 :: .ref a :: S)) := s_callI (argsL := [v0, v1]) M rfl hr hn w1 w2 w3 w4 hy hlen hsz hd hq hf hlo hc hs r
theorem s_callV2 {a0 : Array Value} {index : Nat} {Cn : String} {yn zn : MethodName} {J : OInfo} {Q' : Option Value → Heap → Prop} {a : Addr} {v0 v1 : Value} (M : oCon C.l Z n0 zn J #[.ref a, v0, v1] h Q') (E : Exa Z h a Cn) (w1 : (Jvm.Cond.methodLink I.own index yn).before a0 Z = true) (w2 : (Jvm.Cond.declares yn).before a0 Z = true) (w5 : (Jvm.Cond.selects Cn yn zn).before a0 Z = true) (w6 : (Jvm.Cond.instanceMethod zn).before a0 Z = true) (nf : ∀ s' : State, Z.Warmed39 s'.vm → NotFace s' yn) (w3 : (Jvm.Cond.initialized zn.cls).before a0 Z = true) (w4 : (Jvm.Cond.code zn J.bytes J.ml J.ret).before a0 Z = true) (hy : yn.cls ≠ "java/lang/invoke/MethodHandle" ∧ yn.cls ≠ "java/lang/invoke/VarHandle")
    (hlen : ∀ sig, parseMethodDescriptor yn.desc = some sig → 2 = sig.parameters.length) (hsz : L.size = I.ml) (hd : decode I.bytes pc = .ok (.invokevirtual index, 3)) (hq : pc + 3 = pc') (hf : J.R.frames + 1 ≤ I.R.frames) (hlo : (S.map fun v => v.category).sum + (J.ml + 11) + J.R.locals ≤ I.R.locals) (hc : cs + J.R.cells ≤ I.R.cells) (hs : sl + J.R.slots ≤ I.R.slots)
    (r : ∀ v h', Q' v h' → oRun C Z n0 I Q h' (cs + J.R.cells) (sl + J.R.slots) (mkF C.m pc' L (oPush v S))) : oRun C Z n0 I Q h cs sl (mkF C.m pc L (v1 :: v0 :: .ref a :: S)) := s_callV (argsL := [v0, v1]) M rfl E w1 w2 w5 w6 nf w3 w4 hy hlen hsz hd hq hf hlo hc hs r
theorem s_callS3 {a0 : Array Value} {index : Nat} {yn : MethodName} {J : OInfo} {Q' : Option Value → Heap → Prop} {v0 v1 v2 : Value} (M : oCon C.l Z n0 yn J #[v0, v1, v2] h Q') (w1 : (Jvm.Cond.methodLink I.own index yn).before a0 Z = true) (w2 : (Jvm.Cond.static yn).before a0 Z = true) (w3 : (Jvm.Cond.initialized yn.cls).before a0 Z = true) (w4 : (Jvm.Cond.code yn J.bytes J.ml J.ret).before a0 Z = true) (hy : yn.cls ≠ "java/lang/invoke/MethodHandle" ∧ yn.cls ≠ "java/lang/invoke/VarHandle")
    (hlen : ∀ sig, parseMethodDescriptor yn.desc = some sig → 3 = sig.parameters.length) (hsz : L.size = I.ml) (hd : decode I.bytes pc = .ok (.invokestatic index, 3)) (hq : pc + 3 = pc') (hf : J.R.frames + 1 ≤ I.R.frames) (hlo : (S.map fun v => v.category).sum + (J.ml + 11) + J.R.locals ≤ I.R.locals) (hc : cs + J.R.cells ≤ I.R.cells) (hs : sl + J.R.slots ≤ I.R.slots)
    (r : ∀ v h', Q' v h' → oRun C Z n0 I Q h' (cs + J.R.cells) (sl + J.R.slots) (mkF C.m pc' L (oPush v S))) : oRun C Z n0 I Q h cs sl (mkF C.m pc L (v2 :: v1 :: v0 :: S)) := s_callS (argsL := [v0, v1, v2]) M rfl w1 w2 w3 w4 hy hlen hsz hd hq hf hlo hc hs r
theorem s_callI3 {a0 : Array Value} {index : Nat} {yn : MethodName} {J : OInfo} {Q' : Option Value → Heap → Prop} {a : Addr} {v0 v1 v2 : Value} (M : oCon C.l Z n0 yn J #[.ref a, v0, v1, v2] h Q') (hr : J.ret = none) (hn : yn.name = "<init>") (w1 : (Jvm.Cond.methodLink I.own index yn).before a0 Z = true) (w2 : (Jvm.Cond.instanceMethod yn).before a0 Z = true) (w3 : (Jvm.Cond.initialized yn.cls).before a0 Z = true) (w4 : (Jvm.Cond.code yn J.bytes J.ml J.ret).before a0 Z = true) (hy : yn.cls ≠ "java/lang/invoke/MethodHandle" ∧ yn.cls ≠ "java/lang/invoke/VarHandle")
    (hlen : ∀ sig, parseMethodDescriptor yn.desc = some sig → 3 = sig.parameters.length) (hsz : L.size = I.ml) (hd : decode I.bytes pc = .ok (.invokespecial index, 3)) (hq : pc + 3 = pc') (hf : J.R.frames + 1 ≤ I.R.frames) (hlo : (S.map fun v => v.category).sum + (J.ml + 11) + J.R.locals ≤ I.R.locals) (hc : cs + J.R.cells ≤ I.R.cells) (hs : sl + J.R.slots ≤ I.R.slots)
    (r : ∀ v h', Q' v h' → oRun C Z n0 I Q h' (cs + J.R.cells) (sl + J.R.slots) (mkF C.m pc' L (oPush v S))) : oRun C Z n0 I Q h cs sl (mkF C.m pc L (v2 :: v1 :: v0 :: .ref a :: S)) := s_callI (argsL := [v0, v1, v2]) M rfl hr hn w1 w2 w3 w4 hy hlen hsz hd hq hf hlo hc hs r
theorem s_callV3 {a0 : Array Value} {index : Nat} {Cn : String} {yn zn : MethodName} {J : OInfo} {Q' : Option Value → Heap → Prop} {a : Addr} {v0 v1 v2 : Value} (M : oCon C.l Z n0 zn J #[.ref a, v0, v1, v2] h Q') (E : Exa Z h a Cn) (w1 : (Jvm.Cond.methodLink I.own index yn).before a0 Z = true) (w2 : (Jvm.Cond.declares yn).before a0 Z = true) (w5 : (Jvm.Cond.selects Cn yn zn).before a0 Z = true) (w6 : (Jvm.Cond.instanceMethod zn).before a0 Z = true) (nf : ∀ s' : State, Z.Warmed39 s'.vm → NotFace s' yn) (w3 : (Jvm.Cond.initialized zn.cls).before a0 Z = true) (w4 : (Jvm.Cond.code zn J.bytes J.ml J.ret).before a0 Z = true) (hy : yn.cls ≠ "java/lang/invoke/MethodHandle" ∧ yn.cls ≠ "java/lang/invoke/VarHandle")
    (hlen : ∀ sig, parseMethodDescriptor yn.desc = some sig → 3 = sig.parameters.length) (hsz : L.size = I.ml) (hd : decode I.bytes pc = .ok (.invokevirtual index, 3)) (hq : pc + 3 = pc') (hf : J.R.frames + 1 ≤ I.R.frames) (hlo : (S.map fun v => v.category).sum + (J.ml + 11) + J.R.locals ≤ I.R.locals) (hc : cs + J.R.cells ≤ I.R.cells) (hs : sl + J.R.slots ≤ I.R.slots)
    (r : ∀ v h', Q' v h' → oRun C Z n0 I Q h' (cs + J.R.cells) (sl + J.R.slots) (mkF C.m pc' L (oPush v S))) : oRun C Z n0 I Q h cs sl (mkF C.m pc L (v2 :: v1 :: v0 :: .ref a :: S)) := s_callV (argsL := [v0, v1, v2]) M rfl E w1 w2 w5 w6 nf w3 w4 hy hlen hsz hd hq hf hlo hc hs r
theorem s_callS4 {a0 : Array Value} {index : Nat} {yn : MethodName} {J : OInfo} {Q' : Option Value → Heap → Prop} {v0 v1 v2 v3 : Value} (M : oCon C.l Z n0 yn J #[v0, v1, v2, v3] h Q') (w1 : (Jvm.Cond.methodLink I.own index yn).before a0 Z = true) (w2 : (Jvm.Cond.static yn).before a0 Z = true) (w3 : (Jvm.Cond.initialized yn.cls).before a0 Z = true) (w4 : (Jvm.Cond.code yn J.bytes J.ml J.ret).before a0 Z = true) (hy : yn.cls ≠ "java/lang/invoke/MethodHandle" ∧ yn.cls ≠ "java/lang/invoke/VarHandle")
    (hlen : ∀ sig, parseMethodDescriptor yn.desc = some sig → 4 = sig.parameters.length) (hsz : L.size = I.ml) (hd : decode I.bytes pc = .ok (.invokestatic index, 3)) (hq : pc + 3 = pc') (hf : J.R.frames + 1 ≤ I.R.frames) (hlo : (S.map fun v => v.category).sum + (J.ml + 11) + J.R.locals ≤ I.R.locals) (hc : cs + J.R.cells ≤ I.R.cells) (hs : sl + J.R.slots ≤ I.R.slots)
    (r : ∀ v h', Q' v h' → oRun C Z n0 I Q h' (cs + J.R.cells) (sl + J.R.slots) (mkF C.m pc' L (oPush v S))) : oRun C Z n0 I Q h cs sl (mkF C.m pc L (v3 :: v2 :: v1 :: v0 :: S)) := s_callS (argsL := [v0, v1, v2, v3]) M rfl w1 w2 w3 w4 hy hlen hsz hd hq hf hlo hc hs r
theorem s_callI4 {a0 : Array Value} {index : Nat} {yn : MethodName} {J : OInfo} {Q' : Option Value → Heap → Prop} {a : Addr} {v0 v1 v2 v3 : Value} (M : oCon C.l Z n0 yn J #[.ref a, v0, v1, v2, v3] h Q') (hr : J.ret = none) (hn : yn.name = "<init>") (w1 : (Jvm.Cond.methodLink I.own index yn).before a0 Z = true) (w2 : (Jvm.Cond.instanceMethod yn).before a0 Z = true) (w3 : (Jvm.Cond.initialized yn.cls).before a0 Z = true) (w4 : (Jvm.Cond.code yn J.bytes J.ml J.ret).before a0 Z = true) (hy : yn.cls ≠ "java/lang/invoke/MethodHandle" ∧ yn.cls ≠ "java/lang/invoke/VarHandle")
    (hlen : ∀ sig, parseMethodDescriptor yn.desc = some sig → 4 = sig.parameters.length) (hsz : L.size = I.ml) (hd : decode I.bytes pc = .ok (.invokespecial index, 3)) (hq : pc + 3 = pc') (hf : J.R.frames + 1 ≤ I.R.frames) (hlo : (S.map fun v => v.category).sum + (J.ml + 11) + J.R.locals ≤ I.R.locals) (hc : cs + J.R.cells ≤ I.R.cells) (hs : sl + J.R.slots ≤ I.R.slots)
    (r : ∀ v h', Q' v h' → oRun C Z n0 I Q h' (cs + J.R.cells) (sl + J.R.slots) (mkF C.m pc' L (oPush v S))) : oRun C Z n0 I Q h cs sl (mkF C.m pc L (v3 :: v2 :: v1 :: v0 :: .ref a :: S)) := s_callI (argsL := [v0, v1, v2, v3]) M rfl hr hn w1 w2 w3 w4 hy hlen hsz hd hq hf hlo hc hs r
theorem s_callV4 {a0 : Array Value} {index : Nat} {Cn : String} {yn zn : MethodName} {J : OInfo} {Q' : Option Value → Heap → Prop} {a : Addr} {v0 v1 v2 v3 : Value} (M : oCon C.l Z n0 zn J #[.ref a, v0, v1, v2, v3] h Q') (E : Exa Z h a Cn) (w1 : (Jvm.Cond.methodLink I.own index yn).before a0 Z = true) (w2 : (Jvm.Cond.declares yn).before a0 Z = true) (w5 : (Jvm.Cond.selects Cn yn zn).before a0 Z = true) (w6 : (Jvm.Cond.instanceMethod zn).before a0 Z = true) (nf : ∀ s' : State, Z.Warmed39 s'.vm → NotFace s' yn) (w3 : (Jvm.Cond.initialized zn.cls).before a0 Z = true) (w4 : (Jvm.Cond.code zn J.bytes J.ml J.ret).before a0 Z = true) (hy : yn.cls ≠ "java/lang/invoke/MethodHandle" ∧ yn.cls ≠ "java/lang/invoke/VarHandle")
    (hlen : ∀ sig, parseMethodDescriptor yn.desc = some sig → 4 = sig.parameters.length) (hsz : L.size = I.ml) (hd : decode I.bytes pc = .ok (.invokevirtual index, 3)) (hq : pc + 3 = pc') (hf : J.R.frames + 1 ≤ I.R.frames) (hlo : (S.map fun v => v.category).sum + (J.ml + 11) + J.R.locals ≤ I.R.locals) (hc : cs + J.R.cells ≤ I.R.cells) (hs : sl + J.R.slots ≤ I.R.slots)
    (r : ∀ v h', Q' v h' → oRun C Z n0 I Q h' (cs + J.R.cells) (sl + J.R.slots) (mkF C.m pc' L (oPush v S))) : oRun C Z n0 I Q h cs sl (mkF C.m pc L (v3 :: v2 :: v1 :: v0 :: .ref a :: S)) := s_callV (argsL := [v0, v1, v2, v3]) M rfl E w1 w2 w5 w6 nf w3 w4 hy hlen hsz hd hq hf hlo hc hs r
theorem s_callS5 {a0 : Array Value} {index : Nat} {yn : MethodName} {J : OInfo} {Q' : Option Value → Heap → Prop} {v0 v1 v2 v3 v4 : Value} (M : oCon C.l Z n0 yn J #[v0, v1, v2, v3, v4] h Q') (w1 : (Jvm.Cond.methodLink I.own index yn).before a0 Z = true) (w2 : (Jvm.Cond.static yn).before a0 Z = true) (w3 : (Jvm.Cond.initialized yn.cls).before a0 Z = true) (w4 : (Jvm.Cond.code yn J.bytes J.ml J.ret).before a0 Z = true) (hy : yn.cls ≠ "java/lang/invoke/MethodHandle" ∧ yn.cls ≠ "java/lang/invoke/VarHandle")
    (hlen : ∀ sig, parseMethodDescriptor yn.desc = some sig → 5 = sig.parameters.length) (hsz : L.size = I.ml) (hd : decode I.bytes pc = .ok (.invokestatic index, 3)) (hq : pc + 3 = pc') (hf : J.R.frames + 1 ≤ I.R.frames) (hlo : (S.map fun v => v.category).sum + (J.ml + 11) + J.R.locals ≤ I.R.locals) (hc : cs + J.R.cells ≤ I.R.cells) (hs : sl + J.R.slots ≤ I.R.slots)
    (r : ∀ v h', Q' v h' → oRun C Z n0 I Q h' (cs + J.R.cells) (sl + J.R.slots) (mkF C.m pc' L (oPush v S))) : oRun C Z n0 I Q h cs sl (mkF C.m pc L (v4 :: v3 :: v2 :: v1 :: v0 :: S)) := s_callS (argsL := [v0, v1, v2, v3, v4]) M rfl w1 w2 w3 w4 hy hlen hsz hd hq hf hlo hc hs r
theorem s_callI5 {a0 : Array Value} {index : Nat} {yn : MethodName} {J : OInfo} {Q' : Option Value → Heap → Prop} {a : Addr} {v0 v1 v2 v3 v4 : Value} (M : oCon C.l Z n0 yn J #[.ref a, v0, v1, v2, v3, v4] h Q') (hr : J.ret = none) (hn : yn.name = "<init>") (w1 : (Jvm.Cond.methodLink I.own index yn).before a0 Z = true) (w2 : (Jvm.Cond.instanceMethod yn).before a0 Z = true) (w3 : (Jvm.Cond.initialized yn.cls).before a0 Z = true) (w4 : (Jvm.Cond.code yn J.bytes J.ml J.ret).before a0 Z = true) (hy : yn.cls ≠ "java/lang/invoke/MethodHandle" ∧ yn.cls ≠ "java/lang/invoke/VarHandle")
    (hlen : ∀ sig, parseMethodDescriptor yn.desc = some sig → 5 = sig.parameters.length) (hsz : L.size = I.ml) (hd : decode I.bytes pc = .ok (.invokespecial index, 3)) (hq : pc + 3 = pc') (hf : J.R.frames + 1 ≤ I.R.frames) (hlo : (S.map fun v => v.category).sum + (J.ml + 11) + J.R.locals ≤ I.R.locals) (hc : cs + J.R.cells ≤ I.R.cells) (hs : sl + J.R.slots ≤ I.R.slots)
    (r : ∀ v h', Q' v h' → oRun C Z n0 I Q h' (cs + J.R.cells) (sl + J.R.slots) (mkF C.m pc' L (oPush v S))) : oRun C Z n0 I Q h cs sl (mkF C.m pc L (v4 :: v3 :: v2 :: v1 :: v0 :: .ref a :: S)) := s_callI (argsL := [v0, v1, v2, v3, v4]) M rfl hr hn w1 w2 w3 w4 hy hlen hsz hd hq hf hlo hc hs r
theorem s_callV5 {a0 : Array Value} {index : Nat} {Cn : String} {yn zn : MethodName} {J : OInfo} {Q' : Option Value → Heap → Prop} {a : Addr} {v0 v1 v2 v3 v4 : Value} (M : oCon C.l Z n0 zn J #[.ref a, v0, v1, v2, v3, v4] h Q') (E : Exa Z h a Cn) (w1 : (Jvm.Cond.methodLink I.own index yn).before a0 Z = true) (w2 : (Jvm.Cond.declares yn).before a0 Z = true) (w5 : (Jvm.Cond.selects Cn yn zn).before a0 Z = true) (w6 : (Jvm.Cond.instanceMethod zn).before a0 Z = true) (nf : ∀ s' : State, Z.Warmed39 s'.vm → NotFace s' yn) (w3 : (Jvm.Cond.initialized zn.cls).before a0 Z = true) (w4 : (Jvm.Cond.code zn J.bytes J.ml J.ret).before a0 Z = true) (hy : yn.cls ≠ "java/lang/invoke/MethodHandle" ∧ yn.cls ≠ "java/lang/invoke/VarHandle")
    (hlen : ∀ sig, parseMethodDescriptor yn.desc = some sig → 5 = sig.parameters.length) (hsz : L.size = I.ml) (hd : decode I.bytes pc = .ok (.invokevirtual index, 3)) (hq : pc + 3 = pc') (hf : J.R.frames + 1 ≤ I.R.frames) (hlo : (S.map fun v => v.category).sum + (J.ml + 11) + J.R.locals ≤ I.R.locals) (hc : cs + J.R.cells ≤ I.R.cells) (hs : sl + J.R.slots ≤ I.R.slots)
    (r : ∀ v h', Q' v h' → oRun C Z n0 I Q h' (cs + J.R.cells) (sl + J.R.slots) (mkF C.m pc' L (oPush v S))) : oRun C Z n0 I Q h cs sl (mkF C.m pc L (v4 :: v3 :: v2 :: v1 :: v0 :: .ref a :: S)) := s_callV (argsL := [v0, v1, v2, v3, v4]) M rfl E w1 w2 w5 w6 nf w3 w4 hy hlen hsz hd hq hf hlo hc hs r
theorem s_callS6 {a0 : Array Value} {index : Nat} {yn : MethodName} {J : OInfo} {Q' : Option Value → Heap → Prop} {v0 v1 v2 v3 v4 v5 : Value} (M : oCon C.l Z n0 yn J #[v0, v1, v2, v3, v4, v5] h Q') (w1 : (Jvm.Cond.methodLink I.own index yn).before a0 Z = true) (w2 : (Jvm.Cond.static yn).before a0 Z = true) (w3 : (Jvm.Cond.initialized yn.cls).before a0 Z = true) (w4 : (Jvm.Cond.code yn J.bytes J.ml J.ret).before a0 Z = true) (hy : yn.cls ≠ "java/lang/invoke/MethodHandle" ∧ yn.cls ≠ "java/lang/invoke/VarHandle")
    (hlen : ∀ sig, parseMethodDescriptor yn.desc = some sig → 6 = sig.parameters.length) (hsz : L.size = I.ml) (hd : decode I.bytes pc = .ok (.invokestatic index, 3)) (hq : pc + 3 = pc') (hf : J.R.frames + 1 ≤ I.R.frames) (hlo : (S.map fun v => v.category).sum + (J.ml + 11) + J.R.locals ≤ I.R.locals) (hc : cs + J.R.cells ≤ I.R.cells) (hs : sl + J.R.slots ≤ I.R.slots)
    (r : ∀ v h', Q' v h' → oRun C Z n0 I Q h' (cs + J.R.cells) (sl + J.R.slots) (mkF C.m pc' L (oPush v S))) : oRun C Z n0 I Q h cs sl (mkF C.m pc L (v5 :: v4 :: v3 :: v2 :: v1 :: v0 :: S)) := s_callS (argsL := [v0, v1, v2, v3, v4, v5]) M rfl w1 w2 w3 w4 hy hlen hsz hd hq hf hlo hc hs r
theorem s_callI6 {a0 : Array Value} {index : Nat} {yn : MethodName} {J : OInfo} {Q' : Option Value → Heap → Prop} {a : Addr} {v0 v1 v2 v3 v4 v5 : Value} (M : oCon C.l Z n0 yn J #[.ref a, v0, v1, v2, v3, v4, v5] h Q') (hr : J.ret = none) (hn : yn.name = "<init>") (w1 : (Jvm.Cond.methodLink I.own index yn).before a0 Z = true) (w2 : (Jvm.Cond.instanceMethod yn).before a0 Z = true) (w3 : (Jvm.Cond.initialized yn.cls).before a0 Z = true) (w4 : (Jvm.Cond.code yn J.bytes J.ml J.ret).before a0 Z = true) (hy : yn.cls ≠ "java/lang/invoke/MethodHandle" ∧ yn.cls ≠ "java/lang/invoke/VarHandle")
    (hlen : ∀ sig, parseMethodDescriptor yn.desc = some sig → 6 = sig.parameters.length) (hsz : L.size = I.ml) (hd : decode I.bytes pc = .ok (.invokespecial index, 3)) (hq : pc + 3 = pc') (hf : J.R.frames + 1 ≤ I.R.frames) (hlo : (S.map fun v => v.category).sum + (J.ml + 11) + J.R.locals ≤ I.R.locals) (hc : cs + J.R.cells ≤ I.R.cells) (hs : sl + J.R.slots ≤ I.R.slots)
    (r : ∀ v h', Q' v h' → oRun C Z n0 I Q h' (cs + J.R.cells) (sl + J.R.slots) (mkF C.m pc' L (oPush v S))) : oRun C Z n0 I Q h cs sl (mkF C.m pc L (v5 :: v4 :: v3 :: v2 :: v1 :: v0 :: .ref a :: S)) := s_callI (argsL := [v0, v1, v2, v3, v4, v5]) M rfl hr hn w1 w2 w3 w4 hy hlen hsz hd hq hf hlo hc hs r
theorem s_callV6 {a0 : Array Value} {index : Nat} {Cn : String} {yn zn : MethodName} {J : OInfo} {Q' : Option Value → Heap → Prop} {a : Addr} {v0 v1 v2 v3 v4 v5 : Value} (M : oCon C.l Z n0 zn J #[.ref a, v0, v1, v2, v3, v4, v5] h Q') (E : Exa Z h a Cn) (w1 : (Jvm.Cond.methodLink I.own index yn).before a0 Z = true) (w2 : (Jvm.Cond.declares yn).before a0 Z = true) (w5 : (Jvm.Cond.selects Cn yn zn).before a0 Z = true) (w6 : (Jvm.Cond.instanceMethod zn).before a0 Z = true) (nf : ∀ s' : State, Z.Warmed39 s'.vm → NotFace s' yn) (w3 : (Jvm.Cond.initialized zn.cls).before a0 Z = true) (w4 : (Jvm.Cond.code zn J.bytes J.ml J.ret).before a0 Z = true) (hy : yn.cls ≠ "java/lang/invoke/MethodHandle" ∧ yn.cls ≠ "java/lang/invoke/VarHandle")
    (hlen : ∀ sig, parseMethodDescriptor yn.desc = some sig → 6 = sig.parameters.length) (hsz : L.size = I.ml) (hd : decode I.bytes pc = .ok (.invokevirtual index, 3)) (hq : pc + 3 = pc') (hf : J.R.frames + 1 ≤ I.R.frames) (hlo : (S.map fun v => v.category).sum + (J.ml + 11) + J.R.locals ≤ I.R.locals) (hc : cs + J.R.cells ≤ I.R.cells) (hs : sl + J.R.slots ≤ I.R.slots)
    (r : ∀ v h', Q' v h' → oRun C Z n0 I Q h' (cs + J.R.cells) (sl + J.R.slots) (mkF C.m pc' L (oPush v S))) : oRun C Z n0 I Q h cs sl (mkF C.m pc L (v5 :: v4 :: v3 :: v2 :: v1 :: v0 :: .ref a :: S)) := s_callV (argsL := [v0, v1, v2, v3, v4, v5]) M rfl E w1 w2 w5 w6 nf w3 w4 hy hlen hsz hd hq hf hlo hc hs r
-- the ends
theorem s_end {v : Option Value} {g : JFrame} (hc : cs ≤ I.R.cells) (hs : sl ≤ I.R.slots) (hv : I.ret = none → v = none) (hQ : Q v h)
    (st : ∀ {s0 : State} T locs fs, oK C s0 Z n0 I T locs cs sl h → (∀ (f : JFrame) (acts : List Action), f.method = C.m → f.locked = none → f.entered = [] → (doReturn C.e (T.setTop f) acts v).1 = T.setFrames fs) → Steps C.p.tables C.e C.below (T.setTop g) (T.setFrames fs)) : oRun C Z n0 I Q h cs sl g := by
  intro T locs K
  have K0 := K
  obtain ⟨X, k1, k2, k3, k4, k5, k6, k7, k8, k9, k10, k11⟩ := K
  obtain ⟨fs, hr, hrun, hended, hW, hsame⟩ := X.leave (v := v) (fun q => hv (k6.symm.trans q)) k8
  refine ⟨_, _, st T locs fs K0 hr, hrun, hended, v, locs, rfl, ⟨k10, ?_, ?_⟩, ⟨_, rfl⟩, hW, hsame.mono hc hs⟩
  · show Old Z n0 T.heap; rw [k9]; exact k11
  · show Q v T.heap; rw [k9]; exact hQ
theorem s_ret (hr : I.ret = none) (hd : decode I.bytes pc = .ok (.return_, 1)) (hc : cs ≤ I.R.cells) (hs : sl ≤ I.R.slots) (hQ : Q none h) : oRun C Z n0 I Q h cs sl (mkF C.m pc L []) :=
  s_end hc hs (fun _ => rfl) hQ fun T locs fs K hl => K.1.returnOut K.2.1 (K.2.2.2.2.2.2.1.trans hr) (hb K.2.2.2.2.1 hd) hl
theorem s_iret (hr : I.ret = some .int) (hd : decode I.bytes pc = .ok (.ireturn, 1)) (hc : cs ≤ I.R.cells) (hs : sl ≤ I.R.slots) (hQ : Q (some (.int x)) h) : oRun C Z n0 I Q h cs sl (mkF C.m pc L (.int x :: S)) :=
  s_end hc hs (fun q => by rw [hr] at q; cases q) hQ fun T locs fs K hl => retI K.1 K.2.1 (K.2.2.2.2.2.2.1.trans hr) (hb K.2.2.2.2.1 hd) hl
theorem s_nret {t : FieldType} (hr : I.ret = some t) (ht : t = .boolean ∨ t = .byte ∨ t = .char ∨ t = .short) (hd : decode I.bytes pc = .ok (.ireturn, 1)) (hc : cs ≤ I.R.cells) (hs : sl ≤ I.R.slots) (hQ : Q (some (.int (nar t x))) h) : oRun C Z n0 I Q h cs sl (mkF C.m pc L (.int x :: S)) :=
  s_end hc hs (fun q => by rw [hr] at q; cases q) hQ fun T locs fs K hl => retN K.1 K.2.1 (K.2.2.2.2.2.2.1.trans hr) ht (hb K.2.2.2.2.1 hd) hl
theorem s_aret {t : FieldType} {v : Value} (hr : I.ret = some t) (ht : t.isReference = true) (hv : v.isRef = true) (hd : decode I.bytes pc = .ok (.areturn, 1)) (hc : cs ≤ I.R.cells) (hs : sl ≤ I.R.slots) (hQ : Q (some v) h) : oRun C Z n0 I Q h cs sl (mkF C.m pc L (v :: S)) :=
  s_end hc hs (fun q => by rw [hr] at q; cases q) hQ fun T locs fs K hl => by
    have X := K.1
    have hx := K.2.1
    have hd' := hb K.2.2.2.2.1 hd
    have hret := K.2.2.2.2.2.2.1.trans hr
    have hm' : T.vm.method? C.m = some C.meth := X.method'
    show Steps C.p.tables C.e C.below (T.setTop { method := C.m, pc := pc, locals := L, stack := v :: S, locked := none }) _
    jvm_step X.here [X.here.top, hx, hd', hm', hret, hv, ht]
    first | (intro acts; rw [hl _ acts rfl rfl rfl]) | rw [hl _ _ rfl rfl rfl]
    exact Steps.refl _
end OwnCore
-- OWN: Strings of Latin-1 chars
abbrev byt (c : Int32) : Int32 := c.toInt8.toInt32
def Ch (cs : List Int32) : Prop := ∀ c ∈ cs, ¬ c < 0 ∧ ¬ (255 : Int32) < c
theorem o_lt {x y : Int32} : x < y ↔ x.toInt < y.toInt := Int32.lt_iff_toInt_lt
theorem o_eq {x y : Int32} : x = y ↔ x.toInt = y.toInt := ⟨fun h => by rw [h], Int32.toInt_inj.mp⟩
theorem byt_byt (c : Int32) : nar .byte (byt c) = byt c := by show (c.toInt8.toInt32).toInt8.toInt32 = _; rw [Int8.toInt8_toInt32]
theorem c_byt {c : Int32} (h : ¬ c < 0 ∧ ¬ (255 : Int32) < c) : (byt c).toInt = if c.toInt < 128 then c.toInt else c.toInt - 256 := by
  have q := c_i2b c
  have h1 : ¬ c.toInt < (0 : Int32).toInt := fun z => h.1 (o_lt.mpr z)
  have h2 : ¬ (255 : Int32).toInt < c.toInt := fun z => h.2 (o_lt.mpr z)
  have e1 : (0 : Int32).toInt = 0 := rfl
  have e2 : (255 : Int32).toInt = 255 := rfl
  rw [e1] at h1; rw [e2] at h2
  show c.toInt8.toInt32.toInt = _
  split <;> omega
theorem byt_inj {c d : Int32} (hc : ¬ c < 0 ∧ ¬ (255 : Int32) < c) (hd : ¬ d < 0 ∧ ¬ (255 : Int32) < d) (h : byt c = byt d) : c = d := by
  have h' : (byt c).toInt = (byt d).toInt := by rw [h]
  rw [c_byt hc, c_byt hd] at h'
  have h1 : ¬ c.toInt < (0 : Int32).toInt := fun z => hc.1 (o_lt.mpr z)
  have h2 : ¬ (255 : Int32).toInt < c.toInt := fun z => hc.2 (o_lt.mpr z)
  have h3 : ¬ d.toInt < (0 : Int32).toInt := fun z => hd.1 (o_lt.mpr z)
  have h4 : ¬ (255 : Int32).toInt < d.toInt := fun z => hd.2 (o_lt.mpr z)
  have e1 : (0 : Int32).toInt = 0 := rfl
  have e2 : (255 : Int32).toInt = 255 := rfl
  rw [e1] at h1 h3; rw [e2] at h2 h4
  rw [o_eq]
  split at h' <;> split at h' <;> omega
theorem byt_and {c : Int32} (h : ¬ c < 0 ∧ ¬ (255 : Int32) < c) : (byt c) &&& (255 : Int32) = c := by
  rw [o_eq]
  have q := c_mask (byt c) 255 8 (by decide) (by decide)
  rw [q, c_byt h]
  have h1 : ¬ c.toInt < (0 : Int32).toInt := fun z => h.1 (o_lt.mpr z)
  have h2 : ¬ (255 : Int32).toInt < c.toInt := fun z => h.2 (o_lt.mpr z)
  have e1 : (0 : Int32).toInt = 0 := rfl
  have e2 : (255 : Int32).toInt = 255 := rfl
  rw [e1] at h1; rw [e2] at h2
  split <;> omega
theorem nn {i : Nat} (hi : i < 2147483648) : ¬ Int32.ofNat i < 0 := Int32.ofNat_not_neg (by omega)
theorem cl {i : Nat} (hi : i < 2147483648) : (Int32.ofNat i).toNatClampNeg = i := Jvm.Free.XT.n32 (by omega)
theorem lt' {a b : Nat} (hb : b < 2147483648) (h : a < b) : Int32.ofNat a < Int32.ofNat b := Jvm.Free.XT.lt32 (by omega) h
theorem nlt' {a b : Nat} (ha : a < 2147483648) (h : b ≤ a) : ¬ Int32.ofNat a < Int32.ofNat b := Jvm.Free.XT.nlt32 (by omega) h
theorem n_succ (i : Nat) : Int32.ofNat i + 1 = Int32.ofNat (i + 1) := Jvm.Free.XT.succ32 i
theorem n_inj {a b : Nat} (ha : a < 2147483648) (hb : b < 2147483648) (h : Int32.ofNat a = Int32.ofNat b) : a = b := by
  have := congrArg Int32.toNatClampNeg h; rwa [cl ha, cl hb] at this
def SV (Z : State) (h : Heap) (N : Nat) (a : Addr) (cs : List Int32) : Prop := ∃ b k, a < N ∧ b < N ∧ Exa Z h a "java/lang/String" ∧ Fld Z h a "java/lang/String" "coder" "B" (.int 0) ∧ Fld Z h a "java/lang/String" "value" "[B" (.ref b) ∧ Arv Z h b k .byte (Int32.ofNat cs.length) (cs.map fun c => Value.int (byt c)) (.int 0)
theorem SV.ext {Z : State} {h h' : Heap} {N : Nat} {a : Addr} {cs : List Int32} (F : SV Z h N a cs) (E : Ext h h') : SV Z h' N a cs := by
  obtain ⟨b, k, h1, h2, h3, h4, h5, h6⟩ := F; exact ⟨b, k, h1, h2, h3.ext E, h4.ext E, h5.ext E, h6.ext E⟩
theorem SV.keep {Z : State} {h h' : Heap} {N : Nat} {a : Addr} {cs : List Int32} {ws : List Addr} (F : SV Z h N a cs) (K : Keep h h' ws) (q : ∀ x ∈ ws, N ≤ x) : SV Z h' N a cs := by
  obtain ⟨b, k, h1, h2, h3, h4, h5, h6⟩ := F
  have na : a ∉ ws := fun z => absurd (q a z) (Nat.not_le.mpr h1)
  have nb : b ∉ ws := fun z => absurd (q b z) (Nat.not_le.mpr h2)
  exact ⟨b, k, h1, h2, h3.keep K, h4.keep K na, h5.keep K na, h6.keep K nb⟩
theorem SV.wr {Z : State} {h h' : Heap} {N : Nat} {a x : Addr} {cs : List Int32} {sl : Nat} {v : Value} (F : SV Z h N a cs) (W : Wr h h' x sl v) (q : N ≤ x) : SV Z h' N a cs := F.keep (Keep.of_wr W) (allS q all0)
theorem SV.mono {Z : State} {h : Heap} {N M : Nat} {a : Addr} {cs : List Int32} (F : SV Z h N a cs) (q : N ≤ M) : SV Z h M a cs := by
  obtain ⟨b, k, h1, h2, r⟩ := F; exact ⟨b, k, Nat.lt_of_lt_of_le h1 q, Nat.lt_of_lt_of_le h2 q, r⟩
theorem SV.exa {Z : State} {h : Heap} {N : Nat} {a : Addr} {cs : List Int32} (F : SV Z h N a cs) : Exa Z h a "java/lang/String" := by obtain ⟨b, k, h1, h2, h3, -⟩ := F; exact h3
theorem SV.lt {Z : State} {h : Heap} {N : Nat} {a : Addr} {cs : List Int32} (F : SV Z h N a cs) : a < N := by obtain ⟨b, k, h1, -⟩ := F; exact h1
theorem o_extKeep {h0 h1 h : Heap} {ws : List Addr} (E : Ext h0 h1) (K : Keep h1 h ws) (q : ∀ x ∈ ws, h0.size ≤ x) : Ext h0 h :=
  ⟨Nat.le_trans E.1 K.1, fun a c hc => K.2.1 a c (E.2 a c hc) fun z => absurd (Array.getElem?_eq_some_iff.mp hc).1 (Nat.not_lt.mpr (q a z))⟩
theorem o_ext {h0 h1 h2 : Heap} (E : Ext h0 h1) (E' : Ext h1 h2) : Ext h0 h2 := ⟨Nat.le_trans E.1 E'.1, fun a c hc => E'.2 a c (E.2 a c hc)⟩
theorem o_kext {h0 h1 h : Heap} {ws : List Addr} (E : Ext h0 h1) (K : Keep h1 h ws) : Keep h0 h ws := (((Keep.refl h0 ws).ext E).trans K fun x hx => Or.inl hx)
def bv (cs : List Int32) (j : Nat) : List Value := (cs.take j).map (fun c => Value.int (byt c)) ++ List.replicate (cs.length - j) (.int 0)
theorem bv_len (cs : List Int32) {j : Nat} (hj : j ≤ cs.length) : (bv cs j).length = cs.length := by simp [bv]; omega
theorem bv_set {cs : List Int32} {j : Nat} {c : Int32} (hc : cs[j]? = some c) : (bv cs j).set j (.int (byt c)) = bv cs (j + 1) := by
  obtain ⟨hj, -⟩ := List.getElem?_eq_some_iff.mp hc
  have e : List.replicate (cs.length - j) (Value.int 0) = .int 0 :: List.replicate (cs.length - (j + 1)) (.int 0) := by
    rw [show cs.length - j = (cs.length - (j + 1)) + 1 by omega, List.replicate_succ]
  have el : ((cs.take j).map fun c => Value.int (byt c)).length = j := by simp; omega
  unfold bv
  rw [e, List.set_append_right _ _ (by omega), el, Nat.sub_self, List.set_cons_zero, List.take_add_one, hc]
  simp
theorem bv_end (cs : List Int32) : bv cs cs.length = cs.map fun c => Value.int (byt c) := by simp [bv]
theorem cs_get {cs : List Int32} {j : Nat} {c : Int32} (hc : cs[j]? = some c) (d : Value) : (cs.map Value.int).getD j d = .int c := by
  rw [List.getD_eq_getElem?_getD, List.getElem?_map, hc]; rfl
theorem bs_get {cs : List Int32} {j : Nat} {c : Int32} (hc : cs[j]? = some c) (d : Value) : (cs.map fun c => Value.int (byt c)).getD j d = .int (byt c) := by
  rw [List.getD_eq_getElem?_getD, List.getElem?_map, hc]; rfl
theorem nar_ch {c : Int32} (h : ¬ c < 0 ∧ ¬ (255 : Int32) < c) : nar .char c = c := by
  rw [o_eq]; have q := c_i2c c
  have h1 : ¬ c.toInt < (0 : Int32).toInt := fun z => h.1 (o_lt.mpr z)
  have h2 : ¬ (255 : Int32).toInt < c.toInt := fun z => h.2 (o_lt.mpr z)
  have e1 : (0 : Int32).toInt = 0 := rfl
  have e2 : (255 : Int32).toInt = 255 := rfl
  rw [e1] at h1; rw [e2] at h2
  show c.toUInt32.toUInt16.toUInt32.toInt32.toInt = _; omega
theorem r_and (x : Int32) : ¬ (x &&& 255) < 0 ∧ ¬ (255 : Int32) < (x &&& 255) := by
  have h1 := c_and x 255 (by decide)
  have e2 : (255 : Int32).toInt = 255 := rfl
  have e1 : (0 : Int32).toInt = 0 := rfl
  rw [o_lt, o_lt, e1, e2]; rw [e2] at h1; omega
theorem r_nat {c : Int32} : (¬ c < 0 ∧ ¬ (255 : Int32) < c) ↔ c.toBitVec.toNat < 256 := by
  have e2 : (255 : Int32).toInt = 255 := rfl
  have e1 : (0 : Int32).toInt = 0 := rfl
  rw [o_lt, o_lt, e1, e2]
  have q : c.toInt = c.toBitVec.toInt := rfl
  rw [q, BitVec.toInt_eq_toNat_cond]
  have := c.toBitVec.isLt
  split <;> omega
theorem r_xor {x y : Int32} (hx : ¬ x < 0 ∧ ¬ (255 : Int32) < x) (hy : ¬ y < 0 ∧ ¬ (255 : Int32) < y) : ¬ (x ^^^ y) < 0 ∧ ¬ (255 : Int32) < (x ^^^ y) := by
  rw [r_nat] at *
  rw [Int32.toBitVec_xor, BitVec.toNat_xor]
  exact Nat.xor_lt_two_pow (n := 8) hx hy
theorem i2c_ch {c : Int32} (h : ¬ c < 0 ∧ ¬ (255 : Int32) < c) : c.toUInt32.toUInt16.toUInt32.toInt32 = c := nar_ch h
def OG (Z : State) (a0 : Array Value) : Prop := (∀ d ∈ tables_1, d.before a0 Z = true) ∧ (∃ cmp : Int32, Sta Z Z.heap "java/lang/String" "COMPACT_STRINGS" "Z" (.int cmp) ∧ ¬ cmp = 0) ∧ (∃ fm : Value, fm.isRef = true ∧ Sta Z Z.heap "jdk/internal/util/Preconditions" "SIOOBE_FORMATTER" "Ljava/util/function/BiFunction;" fm) ∧ Sta Z Z.heap "java/lang/StringUTF16" "$assertionsDisabled" "Z" (.int 1) ∧ Sta Z Z.heap "java/lang/StringUTF16" "HI_BYTE_SHIFT" "I" (.int 0) ∧ Sta Z Z.heap "java/lang/StringUTF16" "LO_BYTE_SHIFT" "I" (.int 8)
def C16 (cs : List Int32) : Prop := ∀ c ∈ cs, ¬ c < 0 ∧ ¬ (65535 : Int32) < c
def hi8 (c : Int32) : Int32 := c >>> ((8 : Int32) &&& 31)
theorem shr_zero (x : Int32) : x >>> ((0 : Int32) &&& 31) = x := by
  rw [o_eq]; have q := c_ishr x 0 0 (by decide); rw [q]; simp
theorem nar16 {c : Int32} (h : ¬ c < 0 ∧ ¬ (65535 : Int32) < c) : nar .char c = c := by
  rw [o_eq]; have q := c_i2c c
  have h1 : ¬ c.toInt < (0 : Int32).toInt := fun z => h.1 (o_lt.mpr z)
  have h2 : ¬ (65535 : Int32).toInt < c.toInt := fun z => h.2 (o_lt.mpr z)
  have e1 : (0 : Int32).toInt = 0 := rfl
  have e2 : (65535 : Int32).toInt = 65535 := rfl
  rw [e1] at h1; rw [e2] at h2
  show c.toUInt32.toUInt16.toUInt32.toInt32.toInt = _; omega
theorem i2c16 {c : Int32} (h : ¬ c < 0 ∧ ¬ (65535 : Int32) < c) : c.toUInt32.toUInt16.toUInt32.toInt32 = c := nar16 h
theorem r_and16 (x : Int32) : ¬ (x &&& 65535) < 0 ∧ ¬ (65535 : Int32) < (x &&& 65535) := by
  have h1 := c_and x 65535 (by decide)
  have e2 : (65535 : Int32).toInt = 65535 := rfl
  have e1 : (0 : Int32).toInt = 0 := rfl
  rw [o_lt, o_lt, e1, e2]; rw [e2] at h1; omega
def gc (x y : Int32) : Int32 := (((x &&& 255) <<< ((0 : Int32) &&& 31)) ||| ((y &&& 255) <<< ((8 : Int32) &&& 31))).toUInt32.toUInt16.toUInt32.toInt32
theorem gc_eq {c : Int32} (h : ¬ c < 0 ∧ ¬ (65535 : Int32) < c) : gc (byt c) (byt (hi8 c)) = c := by
  have h1 : ¬ c.toInt < (0 : Int32).toInt := fun z => h.1 (o_lt.mpr z)
  have h2 : ¬ (65535 : Int32).toInt < c.toInt := fun z => h.2 (o_lt.mpr z)
  have e1 : (0 : Int32).toInt = 0 := rfl
  have e2 : (65535 : Int32).toInt = 65535 := rfl
  rw [e1] at h1; rw [e2] at h2
  have p1 := (c_i2b c).1
  have p2 := c_mask (byt c) 255 8 (by decide) (by decide)
  have q0 : (hi8 c).toInt = c.toInt / (2 ^ 8 : Nat) := c_ishr c 8 8 (by decide)
  have q1 := (c_i2b (hi8 c)).1
  have q2 := c_mask (byt (hi8 c)) 255 8 (by decide) (by decide)
  have s0 : ((byt c &&& 255) <<< ((0 : Int32) &&& 31)).toInt = (byt c &&& 255).toInt := by
    have q := c_ishl (byt c &&& 255) 0 0 (by decide)
    have r1 := rng32 ((byt c &&& 255) <<< ((0 : Int32) &&& 31))
    have r2 := rng32 (byt c &&& 255)
    simp only [Nat.pow_zero] at q; omega
  have s1 := c_ishl (byt (hi8 c) &&& 255) 8 8 (by decide)
  have r3 := rng32 ((byt (hi8 c) &&& 255) <<< ((8 : Int32) &&& 31))
  have p1' : ((byt c).toInt - c.toInt) % 256 = 0 := p1
  have q1' : ((byt (hi8 c)).toInt - (hi8 c).toInt) % 256 = 0 := q1
  simp only [Nat.reducePow] at q0 p2 q2 s1
  have s1' : ((byt (hi8 c) &&& 255) <<< ((8 : Int32) &&& 31)).toInt % 256 = 0 := by omega
  have o := c_or' ((byt c &&& 255) <<< ((0 : Int32) &&& 31)) ((byt (hi8 c) &&& 255) <<< ((8 : Int32) &&& 31)) 8 (by decide) 256 rfl s1' (by omega) (by omega)
  have f := c_i2c (((byt c &&& 255) <<< ((0 : Int32) &&& 31)) ||| ((byt (hi8 c) &&& 255) <<< ((8 : Int32) &&& 31)))
  rw [o_eq]
  show (((byt c &&& 255) <<< ((0 : Int32) &&& 31)) ||| ((byt (hi8 c) &&& 255) <<< ((8 : Int32) &&& 31))).toUInt32.toUInt16.toUInt32.toInt32.toInt = c.toInt
  omega
def u2 : List Int32 → List Value
  | [] => []
  | c :: r => .int (byt c) :: .int (byt (hi8 c)) :: u2 r
theorem u2_len (cs : List Int32) : (u2 cs).length = 2 * cs.length := by induction cs with | nil => rfl | cons c r ih => simp only [u2, List.length_cons, ih]; omega
theorem u2_app (cs ds : List Int32) : u2 (cs ++ ds) = u2 cs ++ u2 ds := by induction cs with | nil => rfl | cons c r ih => simp only [List.cons_append, u2, ih]
def uv (cs : List Int32) (j : Nat) : List Value := u2 (cs.take j) ++ List.replicate (2 * (cs.length - j)) (.int 0)
theorem uv_len (cs : List Int32) {j : Nat} (hj : j ≤ cs.length) : (uv cs j).length = 2 * cs.length := by simp [uv, u2_len]; omega
theorem uv_set {cs : List Int32} {j : Nat} {c : Int32} (hc : cs[j]? = some c) : ((uv cs j).set (2 * j) (.int (byt c))).set (2 * j + 1) (.int (byt (hi8 c))) = uv cs (j + 1) := by
  obtain ⟨hj, -⟩ := List.getElem?_eq_some_iff.mp hc
  have e : List.replicate (2 * (cs.length - j)) (Value.int 0) = .int 0 :: .int 0 :: List.replicate (2 * (cs.length - (j + 1))) (.int 0) := by
    rw [show 2 * (cs.length - j) = 2 * (cs.length - (j + 1)) + 1 + 1 by omega, List.replicate_succ, List.replicate_succ]
  have el : (u2 (cs.take j)).length = 2 * j := by rw [u2_len]; simp; omega
  unfold uv
  rw [e, List.set_append_right _ _ (by omega), el, Nat.sub_self, List.set_cons_zero, List.set_append_right _ _ (by omega), el, show 2 * j + 1 - 2 * j = 0 + 1 by omega, List.set_cons_succ, List.set_cons_zero, List.take_add_one, hc, u2_app]
  simp [u2]
theorem u2_get {cs : List Int32} {c : Int32} (d : Value) : ∀ {j : Nat}, cs[j]? = some c → (u2 cs).getD (2 * j) d = .int (byt c) ∧ (u2 cs).getD (2 * j + 1) d = .int (byt (hi8 c)) := by
  induction cs with
  | nil => intro j h; simp at h
  | cons x r ih =>
    intro j h
    cases j with
    | zero => simp at h; subst h; exact ⟨rfl, rfl⟩
    | succ j =>
      have := ih (j := j) (by simpa using h)
      rw [show 2 * (j + 1) = 2 * j + 1 + 1 by omega]
      simpa [u2] using this
theorem uv_end (cs : List Int32) : uv cs cs.length = u2 cs := by simp [uv]
def UV (Z : State) (h : Heap) (N : Nat) (a : Addr) (cs : List Int32) : Prop := ∃ b k, a < N ∧ b < N ∧ Exa Z h a "java/lang/String" ∧ Fld Z h a "java/lang/String" "value" "[B" (.ref b) ∧
  ((Fld Z h a "java/lang/String" "coder" "B" (.int 0) ∧ Ch cs ∧ Arv Z h b k .byte 5 (cs.map fun c => Value.int (byt c)) (.int 0)) ∨ (Fld Z h a "java/lang/String" "coder" "B" (.int 1) ∧ Arv Z h b k .byte 10 (u2 cs) (.int 0)))
theorem UV.ext {Z : State} {h h' : Heap} {N : Nat} {a : Addr} {cs : List Int32} (F : UV Z h N a cs) (E : Ext h h') : UV Z h' N a cs := by
  obtain ⟨b, k, h1, h2, h3, h4, h5 | h5⟩ := F
  · exact ⟨b, k, h1, h2, h3.ext E, h4.ext E, Or.inl ⟨h5.1.ext E, h5.2.1, h5.2.2.ext E⟩⟩
  · exact ⟨b, k, h1, h2, h3.ext E, h4.ext E, Or.inr ⟨h5.1.ext E, h5.2.ext E⟩⟩
theorem UV.keep {Z : State} {h h' : Heap} {N : Nat} {a : Addr} {cs : List Int32} {ws : List Addr} (F : UV Z h N a cs) (K : Keep h h' ws) (q : ∀ x ∈ ws, N ≤ x) : UV Z h' N a cs := by
  obtain ⟨b, k, h1, h2, h3, h4, h5⟩ := F
  have na : a ∉ ws := fun z => absurd (q a z) (Nat.not_le.mpr h1)
  have nb : b ∉ ws := fun z => absurd (q b z) (Nat.not_le.mpr h2)
  refine ⟨b, k, h1, h2, h3.keep K, h4.keep K na, ?_⟩
  rcases h5 with h5 | h5
  · exact Or.inl ⟨h5.1.keep K na, h5.2.1, h5.2.2.keep K nb⟩
  · exact Or.inr ⟨h5.1.keep K na, h5.2.keep K nb⟩
theorem UV.exa {Z : State} {h : Heap} {N : Nat} {a : Addr} {cs : List Int32} (F : UV Z h N a cs) : Exa Z h a "java/lang/String" := by obtain ⟨b, k, h1, h2, h3, -⟩ := F; exact h3
theorem f_lt {i : Nat} (hi : i < 5) : Int32.ofNat i < 5 := (by decide : ∀ i : Fin 5, Int32.ofNat i.1 < 5) ⟨i, hi⟩
theorem f_nlt {i : Nat} (hi : i = 5) : ¬ Int32.ofNat i < 5 := by subst hi; decide
theorem f_shl {i : Nat} (hi : i < 5) : Int32.ofNat i <<< ((1 : Int32) &&& 31) = Int32.ofNat (2 * i) := (by decide : ∀ i : Fin 5, Int32.ofNat i.1 <<< ((1 : Int32) &&& 31) = Int32.ofNat (2 * i.1)) ⟨i, hi⟩
theorem f_lt10 {i : Nat} (hi : i < 10) : Int32.ofNat i < 10 := (by decide : ∀ i : Fin 10, Int32.ofNat i.1 < 10) ⟨i, hi⟩
def inL : OInfo := ("java/lang/StringUTF16", jdk_52_method_3_code, 1, (some .int), "newBytesLength", ({ frames := 0, cells := 0, slots := 0, locals := 0 } : Room))
theorem pdnL : parseMethodDescriptor "(I)I" = some ⟨[.int], some .int⟩ := by decide +kernel
theorem pnnL : plainFor (⟨"java/lang/StringUTF16", "newBytesLength", "(I)I"⟩ : MethodName) = true := by decide +kernel
theorem efnL (x0 : Int32) (m : MethodId) : entryFrame m #[(.int x0)] 1 = mkF m 0 #[.val (.int x0)] [] := by first | (simp [entryFrame, mkF, argsToLocals, Value.category]; done) | rfl
theorem dnL_0 : decode jdk_52_method_3_code 0 = .ok (.iload_n 0, 1) := by decide +kernel
theorem dnL_1 : decode jdk_52_method_3_code 1 = .ok (.ifCond .ge 11, 3) := by decide +kernel
theorem dnL_12 : decode jdk_52_method_3_code 12 = .ok (.iload_n 0, 1) := by decide +kernel
theorem dnL_13 : decode jdk_52_method_3_code 13 = .ok (.ldc 20, 2) := by decide +kernel
theorem dnL_15 : decode jdk_52_method_3_code 15 = .ok (.if_icmp .lt 40, 3) := by decide +kernel
theorem dnL_55 : decode jdk_52_method_3_code 55 = .ok (.iload_n 0, 1) := by decide +kernel
theorem dnL_56 : decode jdk_52_method_3_code 56 = .ok (.iconst 1, 1) := by decide +kernel
theorem dnL_57 : decode jdk_52_method_3_code 57 = .ok (.ishl, 1) := by decide +kernel
theorem dnL_58 : decode jdk_52_method_3_code 58 = .ok (.ireturn, 1) := by decide +kernel
set_option maxRecDepth 65536 in
set_option maxHeartbeats 4000000 in
theorem rmnL (l : Launch) {Z : State} {a0 : Array Value} (G : OG Z a0) (n0 : Nat) (h0 : Heap) : oCon l Z n0 (⟨"java/lang/StringUTF16", "newBytesLength", "(I)I"⟩ : MethodName) inL #[.int 5] h0 (fun v h => v = some (.int 10) ∧ h = h0) := by
  obtain ⟨hw, ⟨cmp, hC, hc0⟩, ⟨fm, hfm, hF⟩, hAs, hHi, hLo⟩ := id G
  refine oCon.mk pnnL rfl rfl (efnL 5) fun C hCl => ?_
  refine s_iloadN (pc' := 1) dnL_0 rfl rfl ?_
  refine s_if (pc' := 4) (pc'' := 12) dnL_1 rfl (by decide) rfl (fun hc1 => ?_) (fun hc1 => ?_)
  · replace hc1 := b_ge hc1
    refine s_iloadN (pc' := 13) dnL_12 rfl rfl ?_
    refine s_ldcI (x := (1073741823 : Int32)) (hw _ (List.mem_of_getElem? (i := 85) rfl)) (pc' := 15) dnL_13 rfl ?_
    refine s_icmp (pc' := 18) (pc'' := 55) dnL_15 rfl (by decide) rfl (fun hc15 => ?_) (fun hc15 => ?_)
    · replace hc15 := b_lt hc15
      refine s_iloadN (pc' := 56) dnL_55 rfl rfl ?_
      refine s_iconst (x := (1 : Int32)) (pc' := 57) dnL_56 rfl rfl ?_
      refine s_ishl (pc' := 58) dnL_57 rfl ?_
      exact s_iret rfl dnL_58 (by decide) (by decide) ⟨rfl, rfl⟩
    · replace hc15 := b_ltF hc15
      exact absurd (by decide) hc15
  · replace hc1 := b_geF hc1
    exact absurd hc1 (by decide)
def inF : OInfo := ("java/lang/StringUTF16", jdk_52_method_2_code, 1, (some (.array .byte)), "newBytesFor", ({ frames := 1, cells := 1, slots := 10, locals := 12 } : Room))
theorem pdnF : parseMethodDescriptor "(I)[B" = some ⟨[.int], some (.array .byte)⟩ := by decide +kernel
theorem pnnF : plainFor (⟨"java/lang/StringUTF16", "newBytesFor", "(I)[B"⟩ : MethodName) = true := by decide +kernel
theorem efnF (x0 : Int32) (m : MethodId) : entryFrame m #[(.int x0)] 1 = mkF m 0 #[.val (.int x0)] [] := by first | (simp [entryFrame, mkF, argsToLocals, Value.category]; done) | rfl
theorem dnF_0 : decode jdk_52_method_2_code 0 = .ok (.iload_n 0, 1) := by decide +kernel
theorem dnF_1 : decode jdk_52_method_2_code 1 = .ok (.invokestatic 11, 3) := by decide +kernel
theorem dnF_4 : decode jdk_52_method_2_code 4 = .ok (.newarray .byte, 2) := by decide +kernel
theorem dnF_6 : decode jdk_52_method_2_code 6 = .ok (.areturn, 1) := by decide +kernel
set_option maxRecDepth 65536 in
set_option maxHeartbeats 4000000 in
theorem rmnF (l : Launch) {Z : State} {a0 : Array Value} (G : OG Z a0) (n0 : Nat) (h0 : Heap) : oCon l Z n0 (⟨"java/lang/StringUTF16", "newBytesFor", "(I)[B"⟩ : MethodName) inF #[.int 5] h0 (fun v h => ∃ d k, v = some (.ref d) ∧ h0.size ≤ d ∧ n0 ≤ d ∧ Ext h0 h ∧ Arv Z h d k .byte 10 (List.replicate 10 (.int 0)) (.int 0)) := by
  obtain ⟨hw, ⟨cmp, hC, hc0⟩, ⟨fm, hfm, hF⟩, hAs, hHi, hLo⟩ := id G
  refine oCon.mk pnnF rfl rfl (efnF 5) fun C hCl => ?_
  refine s_iloadN (pc' := 1) dnF_0 rfl rfl ?_
  refine s_callS1 (rmnL C.l G n0 h0) (hw _ (List.mem_of_getElem? (i := 82) rfl)) (hw _ (List.mem_of_getElem? (i := 83) rfl)) (hw _ (List.mem_of_getElem? (i := 18) rfl)) (hw _ (List.mem_of_getElem? (i := 84) rfl)) (by decide) (o_len pdnL rfl) rfl (pc' := 4) dnF_1 rfl (Nat.le_of_ble_eq_true rfl) (Nat.le_of_ble_eq_true rfl) (Nat.le_of_ble_eq_true rfl) (Nat.le_of_ble_eq_true rfl) (fun v1 h1 hQ1 => ?_)
  obtain ⟨rfl, rfl⟩ := hQ1
  dsimp only [oPush]
  refine s_newA 10 (hw _ (List.mem_of_getElem? (i := 20) rfl)) (pc' := 6) dnF_4 rfl (by decide) (by decide) (by decide) (Nat.le_of_ble_eq_true rfl) (Nat.le_of_ble_eq_true rfl) (fun h4 b4 k4 g4 nb4 E4 A4 => ?_)
  exact s_aret rfl rfl rfl dnF_6 (Nat.le_of_ble_eq_true rfl) (Nat.le_of_ble_eq_true rfl) ⟨b4, k4, rfl, Nat.le_of_eq g4.symm, nb4, E4, by have q := o_padTo A4 10; exact q⟩
def ipC : OInfo := ("java/lang/StringUTF16", jdk_52_method_4_code, 3, none, "putChar", ({ frames := 0, cells := 0, slots := 0, locals := 0 } : Room))
theorem pdpC : parseMethodDescriptor "([BII)V" = some ⟨[(.array .byte), .int, .int], none⟩ := by decide +kernel
theorem pnpC : plainFor (⟨"java/lang/StringUTF16", "putChar", "([BII)V"⟩ : MethodName) = true := by decide +kernel
theorem efpC (x0 : Addr) (x1 : Int32) (x2 : Int32) (m : MethodId) : entryFrame m #[(.ref x0), (.int x1), (.int x2)] 3 = mkF m 0 #[.val (.ref x0), .val (.int x1), .val (.int x2)] [] := by first | (simp [entryFrame, mkF, argsToLocals, Value.category]; done) | rfl
theorem dpC_0 : decode jdk_52_method_4_code 0 = .ok (.getstatic 44, 3) := by decide +kernel
theorem dpC_3 : decode jdk_52_method_4_code 3 = .ok (.ifCond .ne 25, 3) := by decide +kernel
theorem dpC_28 : decode jdk_52_method_4_code 28 = .ok (.iload_n 1, 1) := by decide +kernel
theorem dpC_29 : decode jdk_52_method_4_code 29 = .ok (.iconst 1, 1) := by decide +kernel
theorem dpC_30 : decode jdk_52_method_4_code 30 = .ok (.ishl, 1) := by decide +kernel
theorem dpC_31 : decode jdk_52_method_4_code 31 = .ok (.istore_n 1, 1) := by decide +kernel
theorem dpC_32 : decode jdk_52_method_4_code 32 = .ok (.aload_n 0, 1) := by decide +kernel
theorem dpC_33 : decode jdk_52_method_4_code 33 = .ok (.iload_n 1, 1) := by decide +kernel
theorem dpC_34 : decode jdk_52_method_4_code 34 = .ok (.iinc 1 1, 3) := by decide +kernel
theorem dpC_37 : decode jdk_52_method_4_code 37 = .ok (.iload_n 2, 1) := by decide +kernel
theorem dpC_38 : decode jdk_52_method_4_code 38 = .ok (.getstatic 59, 3) := by decide +kernel
theorem dpC_41 : decode jdk_52_method_4_code 41 = .ok (.ishr, 1) := by decide +kernel
theorem dpC_42 : decode jdk_52_method_4_code 42 = .ok (.i2b, 1) := by decide +kernel
theorem dpC_43 : decode jdk_52_method_4_code 43 = .ok (.bastore, 1) := by decide +kernel
theorem dpC_44 : decode jdk_52_method_4_code 44 = .ok (.aload_n 0, 1) := by decide +kernel
theorem dpC_45 : decode jdk_52_method_4_code 45 = .ok (.iload_n 1, 1) := by decide +kernel
theorem dpC_46 : decode jdk_52_method_4_code 46 = .ok (.iload_n 2, 1) := by decide +kernel
theorem dpC_47 : decode jdk_52_method_4_code 47 = .ok (.getstatic 63, 3) := by decide +kernel
theorem dpC_50 : decode jdk_52_method_4_code 50 = .ok (.ishr, 1) := by decide +kernel
theorem dpC_51 : decode jdk_52_method_4_code 51 = .ok (.i2b, 1) := by decide +kernel
theorem dpC_52 : decode jdk_52_method_4_code 52 = .ok (.bastore, 1) := by decide +kernel
theorem dpC_53 : decode jdk_52_method_4_code 53 = .ok (.return_, 1) := by decide +kernel
set_option maxRecDepth 65536 in
set_option maxHeartbeats 4000000 in
theorem rmpC (l : Launch) {Z : State} {a0 : Array Value} (G : OG Z a0) (n0 : Nat) (d : Addr) (k : ClassId) (j : Nat) (x : Int32) (vs : List Value) (h0 : Heap) (hj : j < 5) (hl : vs.length = 10) (gd : n0 ≤ d) (A : Arv Z h0 d k .byte 10 vs (.int 0)) : oCon l Z n0 (⟨"java/lang/StringUTF16", "putChar", "([BII)V"⟩ : MethodName) ipC #[.ref d, .int (Int32.ofNat j), .int x] h0 (fun v h => v = none ∧ Keep h0 h [d] ∧ Arv Z h d k .byte 10 ((vs.set (2 * j) (.int (byt x))).set (2 * j + 1) (.int (byt (hi8 x)))) (.int 0)) := by
  obtain ⟨hw, ⟨cmp, hC, hc0⟩, ⟨fm, hfm, hF⟩, hAs, hHi, hLo⟩ := id G
  refine oCon.mk pnpC rfl rfl (efpC d _ x) fun C hCl => ?_
  refine s_getS hAs (hw _ (List.mem_of_getElem? (i := 89) rfl)) Via.refl (pc' := 3) dpC_0 rfl ?_
  refine s_if (pc' := 6) (pc'' := 28) dpC_3 rfl (by decide) rfl (fun hc3 => ?_) (fun hc3 => ?_)
  · replace hc3 := b_ne hc3
    refine s_iloadN (pc' := 29) dpC_28 rfl rfl ?_
    refine s_iconst (x := (1 : Int32)) (pc' := 30) dpC_29 rfl rfl ?_
    refine s_ishl (pc' := 31) dpC_30 rfl ?_
    rw [f_shl hj]
    refine s_istoreN (kn := 1) rfl (pc' := 32) dpC_31 rfl (o_st rfl (by first | exact One.u | exact One.val rfl | assumption) rfl) ?_
    dsimp only [List.set_cons_succ, List.set_cons_zero]
    refine s_aloadN (pc' := 33) dpC_32 rfl rfl rfl ?_
    refine s_iloadN (pc' := 34) dpC_33 rfl rfl ?_
    refine s_iinc (y := (1 : Int32)) (pc' := 37) dpC_34 rfl rfl rfl (o_st rfl (by first | exact One.u | exact One.val rfl | assumption) rfl) ?_
    dsimp only [List.set_cons_succ, List.set_cons_zero]
    rw [n_succ]
    refine s_iloadN (pc' := 38) dpC_37 rfl rfl ?_
    refine s_getS hHi (hw _ (List.mem_of_getElem? (i := 90) rfl)) Via.refl (pc' := 41) dpC_38 rfl ?_
    refine s_ishr (pc' := 42) dpC_41 rfl ?_
    refine s_i2b (pc' := 43) dpC_42 rfl ?_
    rw [shr_zero]
    refine s_bastore A gd (nn (by omega)) (f_lt10 (by omega)) (2 * j) (cl (by omega)) (by omega) (pc' := 44) dpC_43 rfl (fun h43 W43 A43 => ?_)
    rw [byt_byt] at A43
    refine s_aloadN (pc' := 45) dpC_44 rfl rfl rfl ?_
    refine s_iloadN (pc' := 46) dpC_45 rfl rfl ?_
    refine s_iloadN (pc' := 47) dpC_46 rfl rfl ?_
    refine s_getS hLo (hw _ (List.mem_of_getElem? (i := 91) rfl)) Via.refl (pc' := 50) dpC_47 rfl ?_
    refine s_ishr (pc' := 51) dpC_50 rfl ?_
    refine s_i2b (pc' := 52) dpC_51 rfl ?_
    refine s_bastore A43 gd (nn (by omega)) (f_lt10 (by omega)) (2 * j + 1) (cl (by omega)) (by rw [List.length_set]; omega) (pc' := 53) dpC_52 rfl (fun h52 W52 A52 => ?_)
    rw [show nar .byte (x >>> ((8 : Int32) &&& 31)).toInt8.toInt32 = byt (hi8 x) from byt_byt _] at A52
    exact s_ret rfl dpC_53 (by decide) (by decide) ⟨rfl, (Keep.of_wr W43).wr W52 (Or.inl (List.mem_cons_self ..)), A52⟩
  · replace hc3 := b_neF hc3
    exact absurd hc3 (by decide)
def igC : OInfo := ("java/lang/StringUTF16", jdk_52_method_5_code, 2, (some .char), "getChar", ({ frames := 0, cells := 0, slots := 0, locals := 0 } : Room))
theorem pdgC : parseMethodDescriptor "([BI)C" = some ⟨[(.array .byte), .int], some .char⟩ := by decide +kernel
theorem pngC : plainFor (⟨"java/lang/StringUTF16", "getChar", "([BI)C"⟩ : MethodName) = true := by decide +kernel
theorem efgC (x0 : Addr) (x1 : Int32) (m : MethodId) : entryFrame m #[(.ref x0), (.int x1)] 2 = mkF m 0 #[.val (.ref x0), .val (.int x1)] [] := by first | (simp [entryFrame, mkF, argsToLocals, Value.category]; done) | rfl
theorem dgC_0 : decode jdk_52_method_5_code 0 = .ok (.getstatic 44, 3) := by decide +kernel
theorem dgC_3 : decode jdk_52_method_5_code 3 = .ok (.ifCond .ne 25, 3) := by decide +kernel
theorem dgC_28 : decode jdk_52_method_5_code 28 = .ok (.iload_n 1, 1) := by decide +kernel
theorem dgC_29 : decode jdk_52_method_5_code 29 = .ok (.iconst 1, 1) := by decide +kernel
theorem dgC_30 : decode jdk_52_method_5_code 30 = .ok (.ishl, 1) := by decide +kernel
theorem dgC_31 : decode jdk_52_method_5_code 31 = .ok (.istore_n 1, 1) := by decide +kernel
theorem dgC_32 : decode jdk_52_method_5_code 32 = .ok (.aload_n 0, 1) := by decide +kernel
theorem dgC_33 : decode jdk_52_method_5_code 33 = .ok (.iload_n 1, 1) := by decide +kernel
theorem dgC_34 : decode jdk_52_method_5_code 34 = .ok (.iinc 1 1, 3) := by decide +kernel
theorem dgC_37 : decode jdk_52_method_5_code 37 = .ok (.baload, 1) := by decide +kernel
theorem dgC_38 : decode jdk_52_method_5_code 38 = .ok (.sipush 255, 3) := by decide +kernel
theorem dgC_41 : decode jdk_52_method_5_code 41 = .ok (.iand, 1) := by decide +kernel
theorem dgC_42 : decode jdk_52_method_5_code 42 = .ok (.getstatic 59, 3) := by decide +kernel
theorem dgC_45 : decode jdk_52_method_5_code 45 = .ok (.ishl, 1) := by decide +kernel
theorem dgC_46 : decode jdk_52_method_5_code 46 = .ok (.aload_n 0, 1) := by decide +kernel
theorem dgC_47 : decode jdk_52_method_5_code 47 = .ok (.iload_n 1, 1) := by decide +kernel
theorem dgC_48 : decode jdk_52_method_5_code 48 = .ok (.baload, 1) := by decide +kernel
theorem dgC_49 : decode jdk_52_method_5_code 49 = .ok (.sipush 255, 3) := by decide +kernel
theorem dgC_52 : decode jdk_52_method_5_code 52 = .ok (.iand, 1) := by decide +kernel
theorem dgC_53 : decode jdk_52_method_5_code 53 = .ok (.getstatic 63, 3) := by decide +kernel
theorem dgC_56 : decode jdk_52_method_5_code 56 = .ok (.ishl, 1) := by decide +kernel
theorem dgC_57 : decode jdk_52_method_5_code 57 = .ok (.ior, 1) := by decide +kernel
theorem dgC_58 : decode jdk_52_method_5_code 58 = .ok (.i2c, 1) := by decide +kernel
theorem dgC_59 : decode jdk_52_method_5_code 59 = .ok (.ireturn, 1) := by decide +kernel
set_option maxRecDepth 65536 in
set_option maxHeartbeats 4000000 in
theorem rmgC (l : Launch) {Z : State} {a0 : Array Value} (G : OG Z a0) (n0 : Nat) (d : Addr) (k : ClassId) (j : Nat) (x : Int32) (cs : List Int32) (h0 : Heap) (hn : cs.length = 5) (hch : C16 cs) (hx : cs[j]? = some x) (A : Arv Z h0 d k .byte 10 (u2 cs) (.int 0)) : oCon l Z n0 (⟨"java/lang/StringUTF16", "getChar", "([BI)C"⟩ : MethodName) igC #[.ref d, .int (Int32.ofNat j)] h0 (fun v h => v = some (.int x) ∧ h = h0) := by
  obtain ⟨hw, ⟨cmp, hC, hc0⟩, ⟨fm, hfm, hF⟩, hAs, hHi, hLo⟩ := id G
  have hj : j < 5 := hn ▸ (List.getElem?_eq_some_iff.mp hx).1
  refine oCon.mk pngC rfl rfl (efgC d _) fun C hCl => ?_
  refine s_getS hAs (hw _ (List.mem_of_getElem? (i := 89) rfl)) Via.refl (pc' := 3) dgC_0 rfl ?_
  refine s_if (pc' := 6) (pc'' := 28) dgC_3 rfl (by decide) rfl (fun hc3 => ?_) (fun hc3 => ?_)
  · replace hc3 := b_ne hc3
    refine s_iloadN (pc' := 29) dgC_28 rfl rfl ?_
    refine s_iconst (x := (1 : Int32)) (pc' := 30) dgC_29 rfl rfl ?_
    refine s_ishl (pc' := 31) dgC_30 rfl ?_
    rw [f_shl hj]
    refine s_istoreN (kn := 1) rfl (pc' := 32) dgC_31 rfl (o_st rfl (by first | exact One.u | exact One.val rfl | assumption) rfl) ?_
    dsimp only [List.set_cons_succ, List.set_cons_zero]
    refine s_aloadN (pc' := 33) dgC_32 rfl rfl rfl ?_
    refine s_iloadN (pc' := 34) dgC_33 rfl rfl ?_
    refine s_iinc (y := (1 : Int32)) (pc' := 37) dgC_34 rfl rfl rfl (o_st rfl (by first | exact One.u | exact One.val rfl | assumption) rfl) ?_
    dsimp only [List.set_cons_succ, List.set_cons_zero]
    rw [n_succ]
    refine s_baload A (nn (by omega)) (f_lt10 (by omega)) (v := .int (byt x)) (by rw [cl (by omega)]; exact (u2_get _ hx).1) (pc' := 38) dgC_37 rfl ?_
    refine s_sipush (x := (255 : Int32)) (pc' := 41) dgC_38 rfl rfl ?_
    refine s_iand (pc' := 42) dgC_41 rfl ?_
    refine s_getS hHi (hw _ (List.mem_of_getElem? (i := 90) rfl)) Via.refl (pc' := 45) dgC_42 rfl ?_
    refine s_ishl (pc' := 46) dgC_45 rfl ?_
    refine s_aloadN (pc' := 47) dgC_46 rfl rfl rfl ?_
    refine s_iloadN (pc' := 48) dgC_47 rfl rfl ?_
    refine s_baload A (nn (by omega)) (f_lt10 (by omega)) (v := .int (byt (hi8 x))) (by rw [cl (by omega)]; exact (u2_get _ hx).2) (pc' := 49) dgC_48 rfl ?_
    refine s_sipush (x := (255 : Int32)) (pc' := 52) dgC_49 rfl rfl ?_
    refine s_iand (pc' := 53) dgC_52 rfl ?_
    refine s_getS hLo (hw _ (List.mem_of_getElem? (i := 91) rfl)) Via.refl (pc' := 56) dgC_53 rfl ?_
    refine s_ishl (pc' := 57) dgC_56 rfl ?_
    refine s_ior (pc' := 58) dgC_57 rfl ?_
    refine s_i2c (pc' := 59) dgC_58 rfl ?_
    exact s_nret (t := .char) rfl (by simp) dgC_59 (by decide) (by decide) ⟨by show some (Value.int (nar .char (gc (byt x) (byt (hi8 x))))) = _; rw [gc_eq (hch x (List.mem_of_getElem? hx)), nar16 (hch x (List.mem_of_getElem? hx))], rfl⟩
  · replace hc3 := b_neF hc3
    exact absurd hc3 (by decide)
def itY : OInfo := ("java/lang/StringUTF16", jdk_52_method_14_code, 5, (some (.array .byte)), "toBytes", ({ frames := 2, cells := 1, slots := 10, locals := 24 } : Room))
theorem pdtY : parseMethodDescriptor "([CII)[B" = some ⟨[(.array .char), .int, .int], some (.array .byte)⟩ := by decide +kernel
theorem pntY : plainFor (⟨"java/lang/StringUTF16", "toBytes", "([CII)[B"⟩ : MethodName) = true := by decide +kernel
theorem eftY (x0 : Addr) (x1 : Int32) (x2 : Int32) (m : MethodId) : entryFrame m #[(.ref x0), (.int x1), (.int x2)] 5 = mkF m 0 #[.val (.ref x0), .val (.int x1), .val (.int x2), .unset, .unset] [] := by first | (simp [entryFrame, mkF, argsToLocals, Value.category]; done) | rfl
theorem dtY_0 : decode jdk_52_method_14_code 0 = .ok (.iload_n 2, 1) := by decide +kernel
theorem dtY_1 : decode jdk_52_method_14_code 1 = .ok (.invokestatic 107, 3) := by decide +kernel
theorem dtY_4 : decode jdk_52_method_14_code 4 = .ok (.astore_n 3, 1) := by decide +kernel
theorem dtY_5 : decode jdk_52_method_14_code 5 = .ok (.iconst 0, 1) := by decide +kernel
theorem dtY_6 : decode jdk_52_method_14_code 6 = .ok (.istore 4, 2) := by decide +kernel
theorem dtY_8 : decode jdk_52_method_14_code 8 = .ok (.iload 4, 2) := by decide +kernel
theorem dtY_10 : decode jdk_52_method_14_code 10 = .ok (.iload_n 2, 1) := by decide +kernel
theorem dtY_11 : decode jdk_52_method_14_code 11 = .ok (.if_icmp .ge 21, 3) := by decide +kernel
theorem dtY_14 : decode jdk_52_method_14_code 14 = .ok (.aload_n 3, 1) := by decide +kernel
theorem dtY_15 : decode jdk_52_method_14_code 15 = .ok (.iload 4, 2) := by decide +kernel
theorem dtY_17 : decode jdk_52_method_14_code 17 = .ok (.aload_n 0, 1) := by decide +kernel
theorem dtY_18 : decode jdk_52_method_14_code 18 = .ok (.iload_n 1, 1) := by decide +kernel
theorem dtY_19 : decode jdk_52_method_14_code 19 = .ok (.caload, 1) := by decide +kernel
theorem dtY_20 : decode jdk_52_method_14_code 20 = .ok (.invokestatic 111, 3) := by decide +kernel
theorem dtY_23 : decode jdk_52_method_14_code 23 = .ok (.iinc 1 1, 3) := by decide +kernel
theorem dtY_26 : decode jdk_52_method_14_code 26 = .ok (.iinc 4 1, 3) := by decide +kernel
theorem dtY_29 : decode jdk_52_method_14_code 29 = .ok (.goto (-21), 3) := by decide +kernel
theorem dtY_32 : decode jdk_52_method_14_code 32 = .ok (.aload_n 3, 1) := by decide +kernel
theorem dtY_33 : decode jdk_52_method_14_code 33 = .ok (.areturn, 1) := by decide +kernel
set_option maxRecDepth 65536 in
set_option maxHeartbeats 4000000 in
theorem tYloop {C : OCtx} {Z : State} {a0 : Array Value} (G : OG Z a0) {n0 : Nat} {Q : Option Value → Heap → Prop} {h1 : Heap} {c d : Addr} {kc k : ClassId} {cs : List Int32} {dv : Value} (hn : cs.length = 5) (hcd : c ≠ d) (gd : n0 ≤ d)
    (fin : ∀ h, Keep h1 h [d] → Arv Z h d k .byte 10 (u2 cs) (.int 0) → Q (some (.ref d)) h) (m : Nat) : ∀ (h : Heap) (j : Nat), j ≤ 5 → 5 - j = m → Keep h1 h [d] → Arv Z h c kc .char 5 (cs.map .int) dv → Arv Z h d k .byte 10 (uv cs j) (.int 0) →
    oRun C Z n0 itY Q h 1 10 (mkF C.m 8 #[.val (.ref c), .val (.int (Int32.ofNat j)), .val (.int 5), .val (.ref d), .val (.int (Int32.ofNat j))] []) := by
  induction m using Nat.strongRecOn with
  | _ m ih =>
  intro h j hj hk K A D
  subst hk
  have hw := G.1
  refine s_iload (pc' := 10) dtY_8 rfl rfl ?_
  refine s_iloadN (pc' := 11) dtY_10 rfl rfl ?_
  refine s_icmp (pc' := 14) (pc'' := 32) dtY_11 rfl (by decide) rfl (fun hc11 => ?_) (fun hc11 => ?_)
  · replace hc11 := b_ge hc11
    obtain rfl : j = 5 := by
      by_cases q : j < 5
      · exact absurd (f_lt q) hc11
      · omega
    have D' : Arv Z h d k .byte 10 (u2 cs) (.int 0) := by rw [← uv_end, hn]; exact D
    refine s_aloadN (pc' := 33) dtY_32 rfl rfl rfl ?_
    exact s_aret rfl rfl rfl dtY_33 (Nat.le_of_ble_eq_true rfl) (Nat.le_of_ble_eq_true rfl) (fin _ K D')
  · replace hc11 := b_geF hc11
    have hj2 : j < 5 := by
      by_cases q : j < 5
      · exact q
      · exact absurd hc11 (f_nlt (by omega))
    obtain ⟨z, hz⟩ : ∃ z, cs[j]? = some z := ⟨cs[j]'(by omega), List.getElem?_eq_getElem (by omega)⟩
    refine s_aloadN (pc' := 15) dtY_14 rfl rfl rfl ?_
    refine s_iload (pc' := 17) dtY_15 rfl rfl ?_
    refine s_aloadN (pc' := 18) dtY_17 rfl rfl rfl ?_
    refine s_iloadN (pc' := 19) dtY_18 rfl rfl ?_
    refine s_caload A (nn (by omega)) (f_lt hj2) (v := .int z) (by rw [cl (by omega)]; exact cs_get hz _) (pc' := 20) dtY_19 rfl ?_
    refine s_callS3 (rmpC C.l G n0 d k j z _ _ hj2 (by rw [uv_len _ (by omega)]; omega) gd D) (hw _ (List.mem_of_getElem? (i := 86) rfl)) (hw _ (List.mem_of_getElem? (i := 87) rfl)) (hw _ (List.mem_of_getElem? (i := 18) rfl)) (hw _ (List.mem_of_getElem? (i := 88) rfl)) (by decide) (o_len pdpC rfl) rfl (pc' := 23) dtY_20 rfl (Nat.le_of_ble_eq_true rfl) (Nat.le_of_ble_eq_true rfl) (Nat.le_of_ble_eq_true rfl) (Nat.le_of_ble_eq_true rfl) (fun v20 h20 hQ20 => ?_)
    obtain ⟨rfl, K20, D20⟩ := hQ20
    dsimp only [oPush]
    rw [uv_set hz] at D20
    refine s_iinc (y := (1 : Int32)) (pc' := 26) dtY_23 rfl rfl rfl (o_st rfl (by first | exact One.u | exact One.val rfl | assumption) rfl) ?_
    dsimp only [List.set_cons_succ, List.set_cons_zero]
    rw [n_succ]
    refine s_iinc (y := (1 : Int32)) (pc' := 29) dtY_26 rfl rfl rfl (o_st rfl (by first | exact One.u | exact One.val rfl | assumption) rfl) ?_
    dsimp only [List.set_cons_succ, List.set_cons_zero]
    rw [n_succ]
    refine s_goto (pc' := 8) dtY_29 (by decide) rfl ?_
    exact ih (5 - (j + 1)) (by omega) h20 (j + 1) (by omega) rfl (K.trans K20 (fun x hx => by cases List.mem_singleton.mp hx; exact Or.inl (List.mem_cons_self ..))) (A.keep K20 (ninS hcd nin0)) D20
set_option maxRecDepth 65536 in
set_option maxHeartbeats 4000000 in
theorem rmtY (l : Launch) {Z : State} {a0 : Array Value} (G : OG Z a0) (n0 : Nat) (c : Addr) (kc : ClassId) (cs : List Int32) (dv : Value) (h0 : Heap) (hn : cs.length = 5) (A : Arv Z h0 c kc .char 5 (cs.map .int) dv) : oCon l Z n0 (⟨"java/lang/StringUTF16", "toBytes", "([CII)[B"⟩ : MethodName) itY #[.ref c, .int 0, .int 5] h0 (fun v h => ∃ d k, v = some (.ref d) ∧ h0.size ≤ d ∧ Ext h0 h ∧ Arv Z h d k .byte 10 (u2 cs) (.int 0)) := by
  obtain ⟨hw, ⟨cmp, hC, hc0⟩, ⟨fm, hfm, hF⟩, hAs, hHi, hLo⟩ := id G
  refine oCon.mk pntY rfl rfl (eftY c 0 5) fun C hCl => ?_
  refine s_iloadN (pc' := 1) dtY_0 rfl rfl ?_
  refine s_callS1 (rmnF C.l G n0 h0) (hw _ (List.mem_of_getElem? (i := 79) rfl)) (hw _ (List.mem_of_getElem? (i := 80) rfl)) (hw _ (List.mem_of_getElem? (i := 18) rfl)) (hw _ (List.mem_of_getElem? (i := 81) rfl)) (by decide) (o_len pdnF rfl) rfl (pc' := 4) dtY_1 rfl (Nat.le_of_ble_eq_true rfl) (Nat.le_of_ble_eq_true rfl) (Nat.le_of_ble_eq_true rfl) (Nat.le_of_ble_eq_true rfl) (fun v1 h1 hQ1 => ?_)
  obtain ⟨d, k, rfl, gd, gn, E1, D1⟩ := hQ1
  dsimp only [oPush]
  refine s_astoreN (kn := 3) rfl (pc' := 5) dtY_4 rfl rfl (o_st rfl (by first | exact One.u | exact One.val rfl | assumption) rfl) ?_
  dsimp only [List.set_cons_succ, List.set_cons_zero]
  refine s_iconst (x := (0 : Int32)) (pc' := 6) dtY_5 rfl rfl ?_
  refine s_istore (pc' := 8) dtY_6 rfl (o_st rfl (by first | exact One.u | exact One.val rfl | assumption) rfl) ?_
  dsimp only [List.set_cons_succ, List.set_cons_zero]
  exact tYloop G hn (o_fresh' A.lt gd) gn (fun h K D => ⟨d, k, rfl, gd, o_extKeep E1 K (allS gd all0), D⟩) 5 h1 0 (by omega) rfl (Keep.refl _ _) (A.ext E1) (by simpa [uv, u2, hn] using D1)
def icB : OInfo := ("java/lang/StringUTF16", jdk_52_method_21_code, 7, (some .int), "compress", ({ frames := 0, cells := 0, slots := 0, locals := 0 } : Room))
theorem pdcB : parseMethodDescriptor "([CI[BII)I" = some ⟨[(.array .char), .int, (.array .byte), .int, .int], some .int⟩ := by decide +kernel
theorem pncB : plainFor (⟨"java/lang/StringUTF16", "compress", "([CI[BII)I"⟩ : MethodName) = true := by decide +kernel
theorem efcB (x0 : Addr) (x1 : Int32) (x2 : Addr) (x3 : Int32) (x4 : Int32) (m : MethodId) : entryFrame m #[(.ref x0), (.int x1), (.ref x2), (.int x3), (.int x4)] 7 = mkF m 0 #[.val (.ref x0), .val (.int x1), .val (.ref x2), .val (.int x3), .val (.int x4), .unset, .unset] [] := by first | (simp [entryFrame, mkF, argsToLocals, Value.category]; done) | rfl
theorem ch_snoc {cs : List Int32} {j : Nat} {z : Int32} (hz : cs[j]? = some z) (h : Ch (cs.take j)) (q : ¬ z < 0 ∧ ¬ (255 : Int32) < z) : Ch (cs.take (j + 1)) := by
  intro c hc
  rw [List.take_add_one, hz] at hc
  rcases List.mem_append.mp hc with hc | hc
  · exact h c hc
  · simp at hc; subst hc; exact q
theorem ch_all {cs : List Int32} (hn : cs.length = 5) (h : Ch (cs.take 5)) : Ch cs := by rw [← hn, List.take_length] at h; exact h
theorem dcB_0 : decode jdk_52_method_21_code 0 = .ok (.iconst 0, 1) := by decide +kernel
theorem dcB_1 : decode jdk_52_method_21_code 1 = .ok (.istore 5, 2) := by decide +kernel
theorem dcB_3 : decode jdk_52_method_21_code 3 = .ok (.iload 5, 2) := by decide +kernel
theorem dcB_5 : decode jdk_52_method_21_code 5 = .ok (.iload 4, 2) := by decide +kernel
theorem dcB_7 : decode jdk_52_method_21_code 7 = .ok (.if_icmp .ge 37, 3) := by decide +kernel
theorem dcB_10 : decode jdk_52_method_21_code 10 = .ok (.aload_n 0, 1) := by decide +kernel
theorem dcB_11 : decode jdk_52_method_21_code 11 = .ok (.iload_n 1, 1) := by decide +kernel
theorem dcB_12 : decode jdk_52_method_21_code 12 = .ok (.caload, 1) := by decide +kernel
theorem dcB_13 : decode jdk_52_method_21_code 13 = .ok (.istore 6, 2) := by decide +kernel
theorem dcB_15 : decode jdk_52_method_21_code 15 = .ok (.iload 6, 2) := by decide +kernel
theorem dcB_17 : decode jdk_52_method_21_code 17 = .ok (.sipush 255, 3) := by decide +kernel
theorem dcB_20 : decode jdk_52_method_21_code 20 = .ok (.if_icmp .le 6, 3) := by decide +kernel
theorem dcB_23 : decode jdk_52_method_21_code 23 = .ok (.iload 5, 2) := by decide +kernel
theorem dcB_25 : decode jdk_52_method_21_code 25 = .ok (.ireturn, 1) := by decide +kernel
theorem dcB_26 : decode jdk_52_method_21_code 26 = .ok (.aload_n 2, 1) := by decide +kernel
theorem dcB_27 : decode jdk_52_method_21_code 27 = .ok (.iload_n 3, 1) := by decide +kernel
theorem dcB_28 : decode jdk_52_method_21_code 28 = .ok (.iload 6, 2) := by decide +kernel
theorem dcB_30 : decode jdk_52_method_21_code 30 = .ok (.i2b, 1) := by decide +kernel
theorem dcB_31 : decode jdk_52_method_21_code 31 = .ok (.bastore, 1) := by decide +kernel
theorem dcB_32 : decode jdk_52_method_21_code 32 = .ok (.iinc 1 1, 3) := by decide +kernel
theorem dcB_35 : decode jdk_52_method_21_code 35 = .ok (.iinc 3 1, 3) := by decide +kernel
theorem dcB_38 : decode jdk_52_method_21_code 38 = .ok (.iinc 5 1, 3) := by decide +kernel
theorem dcB_41 : decode jdk_52_method_21_code 41 = .ok (.goto (-38), 3) := by decide +kernel
theorem dcB_44 : decode jdk_52_method_21_code 44 = .ok (.iload 4, 2) := by decide +kernel
theorem dcB_46 : decode jdk_52_method_21_code 46 = .ok (.ireturn, 1) := by decide +kernel
set_option maxRecDepth 65536 in
set_option maxHeartbeats 4000000 in
theorem cBloop {C : OCtx} {Z : State} {n0 : Nat} {Q : Option Value → Heap → Prop} {h0 : Heap} {c d : Addr} {kc kd : ClassId} {cs : List Int32} {dv : Value} (hn : cs.length = 5) (hch : C16 cs) (gd : n0 ≤ d) (hcd : c ≠ d)
    (fin : ∀ h, Keep h0 h [d] → Ch cs → Arv Z h d kd .byte 5 (cs.map fun c => Value.int (byt c)) (.int 0) → Q (some (.int 5)) h) (fin2 : ∀ h j z, Keep h0 h [d] → j < 5 → cs[j]? = some z → (255 : Int32) < z → Q (some (.int (Int32.ofNat j))) h) (k : Nat) :
    ∀ (h : Heap) (j : Nat) (s6 : Slot), j ≤ 5 → 5 - j = k → Keep h0 h [d] → Arv Z h c kc .char 5 (cs.map .int) dv → Arv Z h d kd .byte 5 (bv cs j) (.int 0) → One s6 → Ch (cs.take j) →
    oRun C Z n0 icB Q h 0 0 (mkF C.m 3 #[.val (.ref c), .val (.int (Int32.ofNat j)), .val (.ref d), .val (.int (Int32.ofNat j)), .val (.int 5), .val (.int (Int32.ofNat j)), s6] []) := by
  induction k using Nat.strongRecOn with
  | _ k ih =>
  intro h j s6 hj hk K A D hs6 hpre
  subst hk
  refine s_iload (pc' := 5) dcB_3 rfl rfl ?_
  refine s_iload (pc' := 7) dcB_5 rfl rfl ?_
  refine s_icmp (pc' := 10) (pc'' := 44) dcB_7 rfl (by decide) rfl (fun hc7 => ?_) (fun hc7 => ?_)
  · replace hc7 := b_ge hc7
    obtain rfl : j = 5 := by
      by_cases q : j < 5
      · exact absurd (f_lt q) hc7
      · omega
    rw [← hn, bv_end] at D
    refine s_iload (pc' := 46) dcB_44 rfl rfl ?_
    exact s_iret rfl dcB_46 (by decide) (by decide) (fin _ K (ch_all hn hpre) D)
  · replace hc7 := b_geF hc7
    have hj2 : j < 5 := by
      by_cases q : j < 5
      · exact q
      · exact absurd hc7 (f_nlt (by omega))
    obtain ⟨z, hz⟩ : ∃ z, cs[j]? = some z := ⟨cs[j]'(by omega), List.getElem?_eq_getElem (by omega)⟩
    have hzr := hch z (List.mem_of_getElem? hz)
    refine s_aloadN (pc' := 11) dcB_10 rfl rfl rfl ?_
    refine s_iloadN (pc' := 12) dcB_11 rfl rfl ?_
    refine s_caload A (nn (by omega)) (f_lt hj2) (v := .int z) (by rw [cl (by omega)]; exact cs_get hz _) (pc' := 13) dcB_12 rfl ?_
    refine s_istore (pc' := 15) dcB_13 rfl (o_st rfl (by first | exact One.u | exact One.val rfl | assumption) rfl) ?_
    dsimp only [List.set_cons_succ, List.set_cons_zero]
    refine s_iload (pc' := 17) dcB_15 rfl rfl ?_
    refine s_sipush (x := (255 : Int32)) (pc' := 20) dcB_17 rfl rfl ?_
    refine s_icmp (pc' := 23) (pc'' := 26) dcB_20 rfl (by decide) rfl (fun hc20 => ?_) (fun hc20 => ?_)
    · replace hc20 := b_le hc20
      refine s_aloadN (pc' := 27) dcB_26 rfl rfl rfl ?_
      refine s_iloadN (pc' := 28) dcB_27 rfl rfl ?_
      refine s_iload (pc' := 30) dcB_28 rfl rfl ?_
      refine s_i2b (pc' := 31) dcB_30 rfl ?_
      refine s_bastore D gd (nn (by omega)) (f_lt hj2) j (cl (by omega)) (by rw [bv_len _ (by omega)]; omega) (pc' := 32) dcB_31 rfl (fun h31 W31 D31 => ?_)
      rw [byt_byt, bv_set hz] at D31
      refine s_iinc (y := (1 : Int32)) (pc' := 35) dcB_32 rfl rfl rfl (o_st rfl (by first | exact One.u | exact One.val rfl | assumption) rfl) ?_
      dsimp only [List.set_cons_succ, List.set_cons_zero]
      rw [n_succ]
      refine s_iinc (y := (1 : Int32)) (pc' := 38) dcB_35 rfl rfl rfl (o_st rfl (by first | exact One.u | exact One.val rfl | assumption) rfl) ?_
      dsimp only [List.set_cons_succ, List.set_cons_zero]
      rw [n_succ]
      refine s_iinc (y := (1 : Int32)) (pc' := 41) dcB_38 rfl rfl rfl (o_st rfl (by first | exact One.u | exact One.val rfl | assumption) rfl) ?_
      dsimp only [List.set_cons_succ, List.set_cons_zero]
      rw [n_succ]
      refine s_goto (pc' := 3) dcB_41 (by decide) rfl ?_
      exact ih (5 - (j + 1)) (by omega) h31 (j + 1) _ (by omega) rfl (K.wr W31 (Or.inl (List.mem_cons_self ..))) (A.other W31 hcd) D31 (One.val rfl) (ch_snoc hz hpre ⟨hzr.1, hc20⟩)
    · replace hc20 := b_leF hc20
      refine s_iload (pc' := 25) dcB_23 rfl rfl ?_
      exact s_iret rfl dcB_25 (by decide) (by decide) (fin2 _ j z K hj2 hz hc20)
set_option maxRecDepth 65536 in
set_option maxHeartbeats 4000000 in
theorem rmcB (l : Launch) {Z : State} {a0 : Array Value} (G : OG Z a0) (n0 : Nat) (c d : Addr) (kc kd : ClassId) (cs : List Int32) (dv : Value) (h0 : Heap) (hn : cs.length = 5) (hch : C16 cs) (gd : n0 ≤ d) (hcd : c ≠ d) (A : Arv Z h0 c kc .char 5 (cs.map .int) dv) (D : Arv Z h0 d kd .byte 5 (List.replicate 5 (.int 0)) (.int 0)) : oCon l Z n0 (⟨"java/lang/StringUTF16", "compress", "([CI[BII)I"⟩ : MethodName) icB #[.ref c, .int 0, .ref d, .int 0, .int 5] h0 (fun v h => ∃ j : Nat, v = some (.int (Int32.ofNat j)) ∧ Keep h0 h [d] ∧ (j = 5 → Ch cs ∧ Arv Z h d kd .byte 5 (cs.map fun c => Value.int (byt c)) (.int 0)) ∧ (j ≠ 5 → j < 5 ∧ ∃ z, cs[j]? = some z ∧ (255 : Int32) < z)) := by
  obtain ⟨hw, ⟨cmp, hC, hc0⟩, ⟨fm, hfm, hF⟩, hAs, hHi, hLo⟩ := id G
  refine oCon.mk pncB rfl rfl (efcB c 0 d 0 5) fun C hCl => ?_
  refine s_iconst (x := (0 : Int32)) (pc' := 1) dcB_0 rfl rfl ?_
  refine s_istore (pc' := 3) dcB_1 rfl (o_st rfl (by first | exact One.u | exact One.val rfl | assumption) rfl) ?_
  dsimp only [List.set_cons_succ, List.set_cons_zero]
  exact cBloop hn hch gd hcd (fun h K q D => ⟨5, rfl, K, fun _ => ⟨q, D⟩, fun q => absurd q (by omega)⟩) (fun h j z K hj hz q => ⟨j, rfl, K, fun q => absurd q (by omega), fun _ => ⟨hj, z, hz, q⟩⟩) 5 h0 0 _ (by omega) rfl (Keep.refl _ _) A (by simpa [bv, hn] using D) One.u (by intro q hq; simp at hq)
def icA : OInfo := ("java/lang/StringUTF16", jdk_52_method_16_code, 6, (some (.array .byte)), "compress", ({ frames := 3, cells := 2, slots := 15, locals := 40 } : Room))
theorem pdcA : parseMethodDescriptor "([CII)[B" = some ⟨[(.array .char), .int, .int], some (.array .byte)⟩ := by decide +kernel
theorem pncA : plainFor (⟨"java/lang/StringUTF16", "compress", "([CII)[B"⟩ : MethodName) = true := by decide +kernel
theorem efcA (x0 : Addr) (x1 : Int32) (x2 : Int32) (m : MethodId) : entryFrame m #[(.ref x0), (.int x1), (.int x2)] 6 = mkF m 0 #[.val (.ref x0), .val (.int x1), .val (.int x2), .unset, .unset, .unset] [] := by first | (simp [entryFrame, mkF, argsToLocals, Value.category]; done) | rfl
theorem j5 {j : Nat} (hj : j ≠ 5 → j < 5) (h : Int32.ofNat j = 5) : j = 5 := by
  by_cases q : j = 5
  · exact q
  · exact absurd h ((by decide : ∀ i : Fin 5, ¬ Int32.ofNat i.1 = 5) ⟨j, hj q⟩)
theorem dcA_0 : decode jdk_52_method_16_code 0 = .ok (.iload_n 2, 1) := by decide +kernel
theorem dcA_1 : decode jdk_52_method_16_code 1 = .ok (.newarray .byte, 2) := by decide +kernel
theorem dcA_3 : decode jdk_52_method_16_code 3 = .ok (.astore_n 3, 1) := by decide +kernel
theorem dcA_4 : decode jdk_52_method_16_code 4 = .ok (.aload_n 0, 1) := by decide +kernel
theorem dcA_5 : decode jdk_52_method_16_code 5 = .ok (.iload_n 1, 1) := by decide +kernel
theorem dcA_6 : decode jdk_52_method_16_code 6 = .ok (.aload_n 3, 1) := by decide +kernel
theorem dcA_7 : decode jdk_52_method_16_code 7 = .ok (.iconst 0, 1) := by decide +kernel
theorem dcA_8 : decode jdk_52_method_16_code 8 = .ok (.iload_n 2, 1) := by decide +kernel
theorem dcA_9 : decode jdk_52_method_16_code 9 = .ok (.invokestatic 115, 3) := by decide +kernel
theorem dcA_12 : decode jdk_52_method_16_code 12 = .ok (.istore 4, 2) := by decide +kernel
theorem dcA_14 : decode jdk_52_method_16_code 14 = .ok (.iload 4, 2) := by decide +kernel
theorem dcA_16 : decode jdk_52_method_16_code 16 = .ok (.iload_n 2, 1) := by decide +kernel
theorem dcA_17 : decode jdk_52_method_16_code 17 = .ok (.if_icmp .eq 40, 3) := by decide +kernel
theorem dcA_20 : decode jdk_52_method_16_code 20 = .ok (.aload_n 0, 1) := by decide +kernel
theorem dcA_21 : decode jdk_52_method_16_code 21 = .ok (.iload_n 1, 1) := by decide +kernel
theorem dcA_22 : decode jdk_52_method_16_code 22 = .ok (.iload_n 2, 1) := by decide +kernel
theorem dcA_23 : decode jdk_52_method_16_code 23 = .ok (.invokestatic 119, 3) := by decide +kernel
theorem dcA_26 : decode jdk_52_method_16_code 26 = .ok (.astore 5, 2) := by decide +kernel
theorem dcA_28 : decode jdk_52_method_16_code 28 = .ok (.aload 5, 2) := by decide +kernel
theorem dcA_30 : decode jdk_52_method_16_code 30 = .ok (.iload 4, 2) := by decide +kernel
theorem dcA_32 : decode jdk_52_method_16_code 32 = .ok (.invokestatic 71, 3) := by decide +kernel
theorem dcA_35 : decode jdk_52_method_16_code 35 = .ok (.sipush 255, 3) := by decide +kernel
theorem dcA_38 : decode jdk_52_method_16_code 38 = .ok (.if_icmp .gt 16, 3) := by decide +kernel
theorem dcA_54 : decode jdk_52_method_16_code 54 = .ok (.aload 5, 2) := by decide +kernel
theorem dcA_56 : decode jdk_52_method_16_code 56 = .ok (.areturn, 1) := by decide +kernel
theorem dcA_57 : decode jdk_52_method_16_code 57 = .ok (.aload_n 3, 1) := by decide +kernel
theorem dcA_58 : decode jdk_52_method_16_code 58 = .ok (.areturn, 1) := by decide +kernel
set_option maxRecDepth 65536 in
set_option maxHeartbeats 4000000 in
theorem rmcA (l : Launch) {Z : State} {a0 : Array Value} (G : OG Z a0) (n0 : Nat) (c : Addr) (kc : ClassId) (cs : List Int32) (dv : Value) (h0 : Heap) (hn : cs.length = 5) (hch : C16 cs) (A : Arv Z h0 c kc .char 5 (cs.map .int) dv) : oCon l Z n0 (⟨"java/lang/StringUTF16", "compress", "([CII)[B"⟩ : MethodName) icA #[.ref c, .int 0, .int 5] h0 (fun v h => ∃ d k, v = some (.ref d) ∧ h0.size ≤ d ∧ Ext h0 h ∧ ((Ch cs ∧ Arv Z h d k .byte 5 (cs.map fun c => Value.int (byt c)) (.int 0)) ∨ Arv Z h d k .byte 10 (u2 cs) (.int 0))) := by
  obtain ⟨hw, ⟨cmp, hC, hc0⟩, ⟨fm, hfm, hF⟩, hAs, hHi, hLo⟩ := id G
  refine oCon.mk pncA rfl rfl (efcA c 0 5) fun C hCl => ?_
  refine s_iloadN (pc' := 1) dcA_0 rfl rfl ?_
  refine s_newA 5 (hw _ (List.mem_of_getElem? (i := 20) rfl)) (pc' := 3) dcA_1 rfl (by decide) (by decide) (by decide) (Nat.le_of_ble_eq_true rfl) (Nat.le_of_ble_eq_true rfl) (fun h1 b1 k1 g1 nb1 E1 A1 => ?_)
  have hcd : c ≠ b1 := o_fresh A.lt g1
  refine s_astoreN (kn := 3) rfl (pc' := 4) dcA_3 rfl rfl (o_st rfl (by first | exact One.u | exact One.val rfl | assumption) rfl) ?_
  dsimp only [List.set_cons_succ, List.set_cons_zero]
  refine s_aloadN (pc' := 5) dcA_4 rfl rfl rfl ?_
  refine s_iloadN (pc' := 6) dcA_5 rfl rfl ?_
  refine s_aloadN (pc' := 7) dcA_6 rfl rfl rfl ?_
  refine s_iconst (x := (0 : Int32)) (pc' := 8) dcA_7 rfl rfl ?_
  refine s_iloadN (pc' := 9) dcA_8 rfl rfl ?_
  refine s_callS5 (rmcB C.l G n0 c b1 kc k1 cs dv h1 hn hch nb1 hcd (A.ext E1) (by have q := o_padTo A1 5; exact q)) (hw _ (List.mem_of_getElem? (i := 21) rfl)) (hw _ (List.mem_of_getElem? (i := 22) rfl)) (hw _ (List.mem_of_getElem? (i := 18) rfl)) (hw _ (List.mem_of_getElem? (i := 23) rfl)) (by decide) (o_len pdcB rfl) rfl (pc' := 12) dcA_9 rfl (Nat.le_of_ble_eq_true rfl) (Nat.le_of_ble_eq_true rfl) (Nat.le_of_ble_eq_true rfl) (Nat.le_of_ble_eq_true rfl) (fun v9 h9 hQ9 => ?_)
  obtain ⟨j, rfl, K9, q1, q2⟩ := hQ9
  dsimp only [oPush]
  have X9 := o_extKeep E1 K9 (allS (Nat.le_of_eq g1.symm) all0)
  refine s_istore (pc' := 14) dcA_12 rfl (o_st rfl (by first | exact One.u | exact One.val rfl | assumption) rfl) ?_
  dsimp only [List.set_cons_succ, List.set_cons_zero]
  refine s_iload (pc' := 16) dcA_14 rfl rfl ?_
  refine s_iloadN (pc' := 17) dcA_16 rfl rfl ?_
  refine s_icmp (pc' := 20) (pc'' := 57) dcA_17 rfl (by decide) rfl (fun hc17 => ?_) (fun hc17 => ?_)
  · replace hc17 := b_eq hc17
    obtain ⟨hc8, D9⟩ := q1 (j5 (fun q => (q2 q).1) hc17)
    refine s_aloadN (pc' := 58) dcA_57 rfl rfl rfl ?_
    exact s_aret rfl rfl rfl dcA_58 (Nat.le_of_ble_eq_true rfl) (Nat.le_of_ble_eq_true rfl) ⟨b1, k1, rfl, Nat.le_of_eq g1.symm, X9, Or.inl ⟨hc8, D9⟩⟩
  · replace hc17 := b_eqF hc17
    obtain ⟨hj, z, hz, hz2⟩ := q2 (fun q => hc17 (by rw [q]; rfl))
    refine s_aloadN (pc' := 21) dcA_20 rfl rfl rfl ?_
    refine s_iloadN (pc' := 22) dcA_21 rfl rfl ?_
    refine s_iloadN (pc' := 23) dcA_22 rfl rfl ?_
    refine s_callS3 (rmtY C.l G n0 c kc cs dv _ hn ((A.ext E1).keep K9 (ninS hcd nin0))) (hw _ (List.mem_of_getElem? (i := 76) rfl)) (hw _ (List.mem_of_getElem? (i := 77) rfl)) (hw _ (List.mem_of_getElem? (i := 18) rfl)) (hw _ (List.mem_of_getElem? (i := 78) rfl)) (by decide) (o_len pdtY rfl) rfl (pc' := 26) dcA_23 rfl (Nat.le_of_ble_eq_true rfl) (Nat.le_of_ble_eq_true rfl) (Nat.le_of_ble_eq_true rfl) (Nat.le_of_ble_eq_true rfl) (fun v23 h23 hQ23 => ?_)
    obtain ⟨d, k, rfl, gd, E23, D23⟩ := hQ23
    dsimp only [oPush]
    refine s_astore (pc' := 28) dcA_26 rfl rfl (o_st rfl (by first | exact One.u | exact One.val rfl | assumption) rfl) ?_
    dsimp only [List.set_cons_succ, List.set_cons_zero]
    refine s_aload (pc' := 30) dcA_28 rfl rfl rfl ?_
    refine s_iload (pc' := 32) dcA_30 rfl rfl ?_
    refine s_callS2 (rmgC C.l G n0 d k j z cs _ hn hch hz D23) (hw _ (List.mem_of_getElem? (i := 92) rfl)) (hw _ (List.mem_of_getElem? (i := 93) rfl)) (hw _ (List.mem_of_getElem? (i := 18) rfl)) (hw _ (List.mem_of_getElem? (i := 94) rfl)) (by decide) (o_len pdgC rfl) rfl (pc' := 35) dcA_32 rfl (Nat.le_of_ble_eq_true rfl) (Nat.le_of_ble_eq_true rfl) (Nat.le_of_ble_eq_true rfl) (Nat.le_of_ble_eq_true rfl) (fun v32 h32 hQ32 => ?_)
    obtain ⟨rfl, rfl⟩ := hQ32
    dsimp only [oPush]
    refine s_sipush (x := (255 : Int32)) (pc' := 38) dcA_35 rfl rfl ?_
    refine s_icmp (pc' := 41) (pc'' := 54) dcA_38 rfl (by decide) rfl (fun hc38 => ?_) (fun hc38 => ?_)
    · replace hc38 := b_gt hc38
      refine s_aload (pc' := 56) dcA_54 rfl rfl rfl ?_
      exact s_aret rfl rfl rfl dcA_56 (Nat.le_of_ble_eq_true rfl) (Nat.le_of_ble_eq_true rfl) ⟨d, k, rfl, Nat.le_trans X9.1 gd, o_ext X9 E23, Or.inr D23⟩
    · replace hc38 := b_gtF hc38
      exact absurd hz2 hc38
def icF : OInfo := ("java/lang/StringUTF16", jdk_52_method_15_code, 2, (some .byte), "coderFromArrayLen", ({ frames := 0, cells := 0, slots := 0, locals := 0 } : Room))
theorem pdcF : parseMethodDescriptor "([BI)B" = some ⟨[(.array .byte), .int], some .byte⟩ := by decide +kernel
theorem pncF : plainFor (⟨"java/lang/StringUTF16", "coderFromArrayLen", "([BI)B"⟩ : MethodName) = true := by decide +kernel
theorem efcF (x0 : Addr) (x1 : Int32) (m : MethodId) : entryFrame m #[(.ref x0), (.int x1)] 2 = mkF m 0 #[.val (.ref x0), .val (.int x1)] [] := by first | (simp [entryFrame, mkF, argsToLocals, Value.category]; done) | rfl
theorem dcF_0 : decode jdk_52_method_15_code 0 = .ok (.iload_n 1, 1) := by decide +kernel
theorem dcF_1 : decode jdk_52_method_15_code 1 = .ok (.aload_n 0, 1) := by decide +kernel
theorem dcF_2 : decode jdk_52_method_15_code 2 = .ok (.arraylength, 1) := by decide +kernel
theorem dcF_3 : decode jdk_52_method_15_code 3 = .ok (.isub, 1) := by decide +kernel
theorem dcF_4 : decode jdk_52_method_15_code 4 = .ok (.bipush 31, 2) := by decide +kernel
theorem dcF_6 : decode jdk_52_method_15_code 6 = .ok (.iushr, 1) := by decide +kernel
theorem dcF_7 : decode jdk_52_method_15_code 7 = .ok (.i2b, 1) := by decide +kernel
theorem dcF_8 : decode jdk_52_method_15_code 8 = .ok (.ireturn, 1) := by decide +kernel
set_option maxRecDepth 65536 in
set_option maxHeartbeats 4000000 in
theorem rmcF (l : Launch) {Z : State} {a0 : Array Value} (G : OG Z a0) (n0 : Nat) (d : Addr) (k : ClassId) (n r : Int32) (vs : List Value) (dv : Value) (h0 : Heap) (hn : (n = 5 ∧ r = 0) ∨ (n = 10 ∧ r = 1)) (A : Arv Z h0 d k .byte n vs dv) : oCon l Z n0 (⟨"java/lang/StringUTF16", "coderFromArrayLen", "([BI)B"⟩ : MethodName) icF #[.ref d, .int 5] h0 (fun v h => v = some (.int r) ∧ h = h0) := by
  obtain ⟨hw, ⟨cmp, hC, hc0⟩, ⟨fm, hfm, hF⟩, hAs, hHi, hLo⟩ := id G
  refine oCon.mk pncF rfl rfl (efcF d 5) fun C hCl => ?_
  refine s_iloadN (pc' := 1) dcF_0 rfl rfl ?_
  refine s_aloadN (pc' := 2) dcF_1 rfl rfl rfl ?_
  refine s_alen A (pc' := 3) dcF_2 rfl ?_
  refine s_isub (pc' := 4) dcF_3 rfl ?_
  refine s_bipush (x := (31 : Int32)) (pc' := 6) dcF_4 rfl rfl ?_
  refine s_iushr (pc' := 7) dcF_6 rfl ?_
  refine s_i2b (pc' := 8) dcF_7 rfl ?_
  exact s_nret (t := .byte) rfl (by simp) dcF_8 (by decide) (by decide) ⟨by rcases hn with ⟨rfl, rfl⟩ | ⟨rfl, rfl⟩ <;> decide, rfl⟩
def isV : OInfo := ("java/lang/String", jdk_42_method_149_code, 6, none, "<init>", ({ frames := 4, cells := 2, slots := 15, locals := 57 } : Room))
theorem pdsV : parseMethodDescriptor "([CIILjava/lang/Void;)V" = some ⟨[(.array .char), .int, .int, (.object "java/lang/Void")], none⟩ := by decide +kernel
theorem pnsV : plainFor (⟨"java/lang/String", "<init>", "([CIILjava/lang/Void;)V"⟩ : MethodName) = true := by decide +kernel
theorem efsV (x0 x1 : Addr) (x2 x3 : Int32) (m : MethodId) : entryFrame m #[(.ref x0), (.ref x1), (.int x2), (.int x3), .null] 6 = mkF m 0 #[.val (.ref x0), .val (.ref x1), .val (.int x2), .val (.int x3), .val .null, .unset] [] := by first | (simp [entryFrame, mkF, argsToLocals, Value.category]; done) | rfl
theorem arv_len {Z : State} {h : Heap} {a : Addr} {k k' : ClassId} {ty ty' : FieldType} {z z' : Int32} {vs vs' : List Value} {dv dv' : Value} (A : Arv Z h a k ty z vs dv) (B : Arv Z h a k' ty' z' vs' dv') : z.toNatClampNeg = z'.toNatClampNeg := by
  obtain ⟨c, A1, -, A3, -⟩ := A
  obtain ⟨c', B1, -, B3, -⟩ := B
  cases A1.1.symm.trans B1.1
  exact A3.symm.trans B3
theorem dsV_0 : decode jdk_42_method_149_code 0 = .ok (.aload_n 0, 1) := by decide +kernel
theorem dsV_1 : decode jdk_42_method_149_code 1 = .ok (.invokespecial 1, 3) := by decide +kernel
theorem dsV_4 : decode jdk_42_method_149_code 4 = .ok (.iload_n 3, 1) := by decide +kernel
theorem dsV_5 : decode jdk_42_method_149_code 5 = .ok (.ifCond .ne 22, 3) := by decide +kernel
theorem dsV_27 : decode jdk_42_method_149_code 27 = .ok (.getstatic 38, 3) := by decide +kernel
theorem dsV_30 : decode jdk_42_method_149_code 30 = .ok (.ifCond .eq 28, 3) := by decide +kernel
theorem dsV_33 : decode jdk_42_method_149_code 33 = .ok (.aload_n 1, 1) := by decide +kernel
theorem dsV_34 : decode jdk_42_method_149_code 34 = .ok (.iload_n 2, 1) := by decide +kernel
theorem dsV_35 : decode jdk_42_method_149_code 35 = .ok (.iload_n 3, 1) := by decide +kernel
theorem dsV_36 : decode jdk_42_method_149_code 36 = .ok (.invokestatic 177, 3) := by decide +kernel
theorem dsV_39 : decode jdk_42_method_149_code 39 = .ok (.astore 5, 2) := by decide +kernel
theorem dsV_41 : decode jdk_42_method_149_code 41 = .ok (.aload_n 0, 1) := by decide +kernel
theorem dsV_42 : decode jdk_42_method_149_code 42 = .ok (.aload 5, 2) := by decide +kernel
theorem dsV_44 : decode jdk_42_method_149_code 44 = .ok (.iload_n 3, 1) := by decide +kernel
theorem dsV_45 : decode jdk_42_method_149_code 45 = .ok (.invokestatic 47, 3) := by decide +kernel
theorem dsV_48 : decode jdk_42_method_149_code 48 = .ok (.putfield 15, 3) := by decide +kernel
theorem dsV_51 : decode jdk_42_method_149_code 51 = .ok (.aload_n 0, 1) := by decide +kernel
theorem dsV_52 : decode jdk_42_method_149_code 52 = .ok (.aload 5, 2) := by decide +kernel
theorem dsV_54 : decode jdk_42_method_149_code 54 = .ok (.putfield 9, 3) := by decide +kernel
theorem dsV_57 : decode jdk_42_method_149_code 57 = .ok (.return_, 1) := by decide +kernel
set_option maxRecDepth 65536 in
set_option maxHeartbeats 4000000 in
theorem rmsV (l : Launch) {Z : State} {a0 : Array Value} (G : OG Z a0) (n0 : Nat) (a c : Addr) (kc : ClassId) (cs : List Int32) (dv : Value) (h0 : Heap) (hn : cs.length = 5) (hch : C16 cs) (A : Arv Z h0 c kc .char 5 (cs.map .int) dv) (E : Exa Z h0 a "java/lang/String") (F1 : Fld Z h0 a "java/lang/String" "value" "[B" .null) (F2 : Fld Z h0 a "java/lang/String" "coder" "B" (.int 0)) (ga : n0 ≤ a) : oCon l Z n0 (⟨"java/lang/String", "<init>", "([CIILjava/lang/Void;)V"⟩ : MethodName) isV #[.ref a, .ref c, .int 0, .int 5, .null] h0 (fun v h => v = none ∧ Keep h0 h [a] ∧ UV Z h h.size a cs) := by
  obtain ⟨hw, ⟨cmp, hC, hc0⟩, ⟨fm, hfm, hF⟩, hAs, hHi, hLo⟩ := id G
  refine oCon.mk pnsV rfl rfl (efsV a c 0 5) fun C hCl => ?_
  refine s_aloadN (pc' := 1) dsV_0 rfl rfl rfl ?_
  refine s_initO (hw _ (List.mem_of_getElem? (i := 12) rfl)) (hw _ (List.mem_of_getElem? (i := 13) rfl)) (hw _ (List.mem_of_getElem? (i := 14) rfl)) rfl (pc' := 4) dsV_1 rfl (Nat.le_of_ble_eq_true rfl) (Nat.le_of_ble_eq_true rfl) ?_
  refine s_iloadN (pc' := 5) dsV_4 rfl rfl ?_
  refine s_if (pc' := 8) (pc'' := 27) dsV_5 rfl (by decide) rfl (fun hc5 => ?_) (fun hc5 => ?_)
  · replace hc5 := b_ne hc5
    refine s_getS hC (hw _ (List.mem_of_getElem? (i := 15) rfl)) Via.refl (pc' := 30) dsV_27 rfl ?_
    refine s_if (pc' := 33) (pc'' := 58) dsV_30 rfl (by decide) rfl (fun hc30 => ?_) (fun hc30 => ?_)
    · replace hc30 := b_eq hc30
      exact absurd hc30 hc0
    · replace hc30 := b_eqF hc30
      refine s_aloadN (pc' := 34) dsV_33 rfl rfl rfl ?_
      refine s_iloadN (pc' := 35) dsV_34 rfl rfl ?_
      refine s_iloadN (pc' := 36) dsV_35 rfl rfl ?_
      refine s_callS3 (rmcA C.l G n0 c kc cs dv h0 hn hch A) (hw _ (List.mem_of_getElem? (i := 16) rfl)) (hw _ (List.mem_of_getElem? (i := 17) rfl)) (hw _ (List.mem_of_getElem? (i := 18) rfl)) (hw _ (List.mem_of_getElem? (i := 19) rfl)) (by decide) (o_len pdcA rfl) rfl (pc' := 39) dsV_36 rfl (Nat.le_of_ble_eq_true rfl) (Nat.le_of_ble_eq_true rfl) (Nat.le_of_ble_eq_true rfl) (Nat.le_of_ble_eq_true rfl) (fun v36 h36 hQ36 => ?_)
      obtain ⟨d, kd, rfl, gd, E36, D36⟩ := hQ36
      dsimp only [oPush]
      have had : a ≠ d := o_fresh' E.lt gd
      obtain ⟨n, rr, vs, hnr, hD⟩ : ∃ (n rr : Int32) (vs : List Value), ((n = 5 ∧ rr = 0) ∨ (n = 10 ∧ rr = 1)) ∧ Arv Z h36 d kd .byte n vs (.int 0) := by
        rcases D36 with D36 | D36
        · exact ⟨5, 0, _, Or.inl ⟨rfl, rfl⟩, D36.2⟩
        · exact ⟨10, 1, _, Or.inr ⟨rfl, rfl⟩, D36⟩
      refine s_astore (pc' := 41) dsV_39 rfl rfl (o_st rfl (by first | exact One.u | exact One.val rfl | assumption) rfl) ?_
      dsimp only [List.set_cons_succ, List.set_cons_zero]
      refine s_aloadN (pc' := 42) dsV_41 rfl rfl rfl ?_
      refine s_aload (pc' := 44) dsV_42 rfl rfl rfl ?_
      refine s_iloadN (pc' := 45) dsV_44 rfl rfl ?_
      refine s_callS2 (rmcF C.l G n0 d kd n rr _ _ h36 hnr hD) (hw _ (List.mem_of_getElem? (i := 24) rfl)) (hw _ (List.mem_of_getElem? (i := 25) rfl)) (hw _ (List.mem_of_getElem? (i := 18) rfl)) (hw _ (List.mem_of_getElem? (i := 26) rfl)) (by decide) (o_len pdcF rfl) rfl (pc' := 48) dsV_45 rfl (Nat.le_of_ble_eq_true rfl) (Nat.le_of_ble_eq_true rfl) (Nat.le_of_ble_eq_true rfl) (Nat.le_of_ble_eq_true rfl) (fun v45 h45 hQ45 => ?_)
      obtain ⟨rfl, rfl⟩ := hQ45
      dsimp only [oPush]
      refine s_putF (F2.ext E36) (E.ext E36) ga (host := "") (Or.inl (hw _ (List.mem_of_getElem? (i := 27) rfl))) Via.refl (Or.inr ⟨(hw _ (List.mem_of_getElem? (i := 28) rfl)), rfl, rfl⟩) (hw _ (List.mem_of_getElem? (i := 3) rfl)) (ty := .byte) (by decide) (by rcases hnr with ⟨-, rfl⟩ | ⟨-, rfl⟩ <;> decide) (by rcases hnr with ⟨-, rfl⟩ | ⟨-, rfl⟩ <;> decide) (pc' := 51) dsV_48 rfl (fun h48 W48 => ?_)
      refine s_aloadN (pc' := 52) dsV_51 rfl rfl rfl ?_
      refine s_aload (pc' := 54) dsV_52 rfl rfl rfl ?_
      refine s_putF ((F1.ext E36).other W48 (Or.inr (slot_ne (Or.inr (hw _ (List.mem_of_getElem? (i := 30) rfl))) (Or.inr (hw _ (List.mem_of_getElem? (i := 28) rfl))) (by decide) (t := .array .byte) (t' := .byte) (by decide) (by decide)))) ((E.ext E36).wr W48) ga (host := "") (Or.inl (hw _ (List.mem_of_getElem? (i := 29) rfl))) Via.refl (Or.inr ⟨(hw _ (List.mem_of_getElem? (i := 30) rfl)), rfl, rfl⟩) (hw _ (List.mem_of_getElem? (i := 3) rfl)) (ty := (.array .byte)) (by decide) rfl rfl (pc' := 57) dsV_54 rfl (fun h54 W54 => ?_)
      have C57 := ((F2.ext E36).same W48).other W54 (Or.inr (slot_ne (Or.inr (hw _ (List.mem_of_getElem? (i := 28) rfl))) (Or.inr (hw _ (List.mem_of_getElem? (i := 30) rfl))) (by decide) (t := .byte) (t' := .array .byte) (by decide) (by decide)))
      refine s_ret rfl dsV_57 (by decide) (by decide) ⟨rfl, ?_, d, kd, ?_, ?_, ?_, ?_, ?_⟩
      · exact o_kext E36 ((Keep.of_wr W48).wr W54 (Or.inl (List.mem_cons_self ..)))
      · exact (((E.ext E36).wr W48).wr W54).lt
      · exact ((hD.other W48 had.symm).other W54 had.symm).lt
      · exact ((E.ext E36).wr W48).wr W54
      · exact ((F1.ext E36).other W48 (Or.inr (slot_ne (Or.inr (hw _ (List.mem_of_getElem? (i := 30) rfl))) (Or.inr (hw _ (List.mem_of_getElem? (i := 28) rfl))) (by decide) (t := .array .byte) (t' := .byte) (by decide) (by decide)))).same W54
      · rcases D36 with D36 | D36
        · rcases hnr with ⟨-, rfl⟩ | ⟨rfl, -⟩
          · exact Or.inl ⟨C57, D36.1, (D36.2.other W48 had.symm).other W54 had.symm⟩
          · exact absurd (arv_len D36.2 hD) (by decide)
        · rcases hnr with ⟨rfl, -⟩ | ⟨-, rfl⟩
          · exact absurd (arv_len D36 hD) (by decide)
          · exact Or.inr ⟨C57, (D36.other W48 had.symm).other W54 had.symm⟩
  · replace hc5 := b_neF hc5
    exact absurd hc5 (by decide)
def isC : OInfo := ("java/lang/String", jdk_42_method_3_code, 2, none, "<init>", ({ frames := 5, cells := 2, slots := 15, locals := 74 } : Room))
theorem pdsC : parseMethodDescriptor "([C)V" = some ⟨[(.array .char)], none⟩ := by decide +kernel
theorem pnsC : plainFor (⟨"java/lang/String", "<init>", "([C)V"⟩ : MethodName) = true := by decide +kernel
theorem efsC (x0 : Addr) (x1 : Addr) (m : MethodId) : entryFrame m #[(.ref x0), (.ref x1)] 2 = mkF m 0 #[.val (.ref x0), .val (.ref x1)] [] := by first | (simp [entryFrame, mkF, argsToLocals, Value.category]; done) | rfl
theorem dsC_0 : decode jdk_42_method_3_code 0 = .ok (.aload_n 0, 1) := by decide +kernel
theorem dsC_1 : decode jdk_42_method_3_code 1 = .ok (.aload_n 1, 1) := by decide +kernel
theorem dsC_2 : decode jdk_42_method_3_code 2 = .ok (.iconst 0, 1) := by decide +kernel
theorem dsC_3 : decode jdk_42_method_3_code 3 = .ok (.aload_n 1, 1) := by decide +kernel
theorem dsC_4 : decode jdk_42_method_3_code 4 = .ok (.arraylength, 1) := by decide +kernel
theorem dsC_5 : decode jdk_42_method_3_code 5 = .ok (.aconst_null, 1) := by decide +kernel
theorem dsC_6 : decode jdk_42_method_3_code 6 = .ok (.invokespecial 27, 3) := by decide +kernel
theorem dsC_9 : decode jdk_42_method_3_code 9 = .ok (.return_, 1) := by decide +kernel
set_option maxRecDepth 65536 in
set_option maxHeartbeats 4000000 in
theorem rmsC (l : Launch) {Z : State} {a0 : Array Value} (G : OG Z a0) (n0 : Nat) (a c : Addr) (kc : ClassId) (cs : List Int32) (dv : Value) (h0 : Heap) (hn : cs.length = 5) (hch : C16 cs) (A : Arv Z h0 c kc .char 5 (cs.map .int) dv) (E : Exa Z h0 a "java/lang/String") (F1 : Fld Z h0 a "java/lang/String" "value" "[B" .null) (F2 : Fld Z h0 a "java/lang/String" "coder" "B" (.int 0)) (ga : n0 ≤ a) : oCon l Z n0 (⟨"java/lang/String", "<init>", "([C)V"⟩ : MethodName) isC #[.ref a, .ref c] h0 (fun v h => v = none ∧ Keep h0 h [a] ∧ UV Z h h.size a cs) := by
  obtain ⟨hw, ⟨cmp, hC, hc0⟩, ⟨fm, hfm, hF⟩, hAs, hHi, hLo⟩ := id G
  refine oCon.mk pnsC rfl rfl (efsC a c) fun C hCl => ?_
  refine s_aloadN (pc' := 1) dsC_0 rfl rfl rfl ?_
  refine s_aloadN (pc' := 2) dsC_1 rfl rfl rfl ?_
  refine s_iconst (x := (0 : Int32)) (pc' := 3) dsC_2 rfl rfl ?_
  refine s_aloadN (pc' := 4) dsC_3 rfl rfl rfl ?_
  refine s_alen A (pc' := 5) dsC_4 rfl ?_
  refine s_null (pc' := 6) dsC_5 rfl ?_
  refine s_callI4 (rmsV C.l G n0 a c kc cs dv h0 hn hch A E F1 F2 ga) rfl rfl (hw _ (List.mem_of_getElem? (i := 8) rfl)) (hw _ (List.mem_of_getElem? (i := 9) rfl)) (hw _ (List.mem_of_getElem? (i := 4) rfl)) (hw _ (List.mem_of_getElem? (i := 11) rfl)) (by decide) (o_len pdsV rfl) rfl (pc' := 9) dsC_6 rfl (Nat.le_of_ble_eq_true rfl) (Nat.le_of_ble_eq_true rfl) (Nat.le_of_ble_eq_true rfl) (Nat.le_of_ble_eq_true rfl) (fun v6 h6 hQ6 => ?_)
  obtain ⟨rfl, q1, q2⟩ := hQ6
  dsimp only [oPush]
  exact s_ret rfl dsC_9 (by decide) (by decide) ⟨rfl, q1, q2⟩
def isK : OInfo := ("java/lang/String", jdk_42_method_152_code, 1, (some .byte), "coder", ({ frames := 0, cells := 0, slots := 0, locals := 0 } : Room))
theorem pdsK : parseMethodDescriptor "()B" = some ⟨[], some .byte⟩ := by decide +kernel
theorem pnsK : plainFor (⟨"java/lang/String", "coder", "()B"⟩ : MethodName) = true := by decide +kernel
theorem efsK (x0 : Addr) (m : MethodId) : entryFrame m #[(.ref x0)] 1 = mkF m 0 #[.val (.ref x0)] [] := by first | (simp [entryFrame, mkF, argsToLocals, Value.category]; done) | rfl
theorem dsK_0 : decode jdk_42_method_152_code 0 = .ok (.getstatic 38, 3) := by decide +kernel
theorem dsK_3 : decode jdk_42_method_152_code 3 = .ok (.ifCond .eq 10, 3) := by decide +kernel
theorem dsK_6 : decode jdk_42_method_152_code 6 = .ok (.aload_n 0, 1) := by decide +kernel
theorem dsK_7 : decode jdk_42_method_152_code 7 = .ok (.getfield 15, 3) := by decide +kernel
theorem dsK_10 : decode jdk_42_method_152_code 10 = .ok (.goto 4, 3) := by decide +kernel
theorem dsK_14 : decode jdk_42_method_152_code 14 = .ok (.ireturn, 1) := by decide +kernel
set_option maxRecDepth 65536 in
set_option maxHeartbeats 4000000 in
theorem rmsK (l : Launch) {Z : State} {a0 : Array Value} (G : OG Z a0) (n0 : Nat) (a : Addr) (r : Int32) (h0 : Heap) (hr : r = 0 ∨ r = 1) (C1 : Fld Z h0 a "java/lang/String" "coder" "B" (.int r)) : oCon l Z n0 (⟨"java/lang/String", "coder", "()B"⟩ : MethodName) isK #[.ref a] h0 (fun v h => v = some (.int r) ∧ h = h0) := by
  obtain ⟨hw, ⟨cmp, hC, hc0⟩, ⟨fm, hfm, hF⟩, hAs, hHi, hLo⟩ := id G
  refine oCon.mk pnsK rfl rfl (efsK a) fun C hCl => ?_
  refine s_getS hC (hw _ (List.mem_of_getElem? (i := 15) rfl)) Via.refl (pc' := 3) dsK_0 rfl ?_
  refine s_if (pc' := 6) (pc'' := 13) dsK_3 rfl (by decide) rfl (fun hc3 => ?_) (fun hc3 => ?_)
  · replace hc3 := b_eq hc3
    exact absurd hc3 hc0
  · replace hc3 := b_eqF hc3
    refine s_aloadN (pc' := 7) dsK_6 rfl rfl rfl ?_
    refine s_getF C1 (host := "") (Or.inl (hw _ (List.mem_of_getElem? (i := 27) rfl))) Via.refl (pc' := 10) dsK_7 rfl ?_
    refine s_goto (pc' := 14) dsK_10 (by decide) rfl ?_
    exact s_nret (t := .byte) rfl (by simp) dsK_14 (by decide) (by decide) ⟨by rcases hr with rfl | rfl <;> rfl, rfl⟩
def isL : OInfo := ("java/lang/String", jdk_42_method_54_code, 1, (some .int), "length", ({ frames := 1, cells := 0, slots := 0, locals := 13 } : Room))
theorem pdsL : parseMethodDescriptor "()I" = some ⟨[], some .int⟩ := by decide +kernel
theorem pnsL : plainFor (⟨"java/lang/String", "length", "()I"⟩ : MethodName) = true := by decide +kernel
theorem efsL (x0 : Addr) (m : MethodId) : entryFrame m #[(.ref x0)] 1 = mkF m 0 #[.val (.ref x0)] [] := by first | (simp [entryFrame, mkF, argsToLocals, Value.category]; done) | rfl
theorem dsL_0 : decode jdk_42_method_54_code 0 = .ok (.aload_n 0, 1) := by decide +kernel
theorem dsL_1 : decode jdk_42_method_54_code 1 = .ok (.getfield 9, 3) := by decide +kernel
theorem dsL_4 : decode jdk_42_method_54_code 4 = .ok (.arraylength, 1) := by decide +kernel
theorem dsL_5 : decode jdk_42_method_54_code 5 = .ok (.aload_n 0, 1) := by decide +kernel
theorem dsL_6 : decode jdk_42_method_54_code 6 = .ok (.invokevirtual 335, 3) := by decide +kernel
theorem dsL_9 : decode jdk_42_method_54_code 9 = .ok (.ishr, 1) := by decide +kernel
theorem dsL_10 : decode jdk_42_method_54_code 10 = .ok (.ireturn, 1) := by decide +kernel
set_option maxRecDepth 65536 in
set_option maxHeartbeats 4000000 in
theorem rmsL (l : Launch) {Z : State} {a0 : Array Value} (G : OG Z a0) (n0 : Nat) (a : Addr) (N : Nat) (cs : List Int32) (h0 : Heap) (H : UV Z h0 N a cs) : oCon l Z n0 (⟨"java/lang/String", "length", "()I"⟩ : MethodName) isL #[.ref a] h0 (fun v h => v = some (.int 5) ∧ h = h0) := by
  obtain ⟨hw, ⟨cmp, hC, hc0⟩, ⟨fm, hfm, hF⟩, hAs, hHi, hLo⟩ := id G
  refine oCon.mk pnsL rfl rfl (efsL a) fun C hCl => ?_
  obtain ⟨b, k, -, -, E1, V1, hh⟩ := H
  rcases hh with ⟨C1, -, A1⟩ | ⟨C1, A1⟩
  · skip
    refine s_aloadN (pc' := 1) dsL_0 rfl rfl rfl ?_
    refine s_getF V1 (host := "") (Or.inl (hw _ (List.mem_of_getElem? (i := 29) rfl))) Via.refl (pc' := 4) dsL_1 rfl ?_
    refine s_alen A1 (pc' := 5) dsL_4 rfl ?_
    refine s_aloadN (pc' := 6) dsL_5 rfl rfl rfl ?_
    refine s_callV0 (rmsK C.l G n0 a 0 h0 (by decide) C1) E1 (hw _ (List.mem_of_getElem? (i := 48) rfl)) (hw _ (List.mem_of_getElem? (i := 49) rfl)) (hw _ (List.mem_of_getElem? (i := 51) rfl)) (hw _ (List.mem_of_getElem? (i := 50) rfl)) (o_nf (hw _ (List.mem_of_getElem? (i := 51) rfl)) rfl) (hw _ (List.mem_of_getElem? (i := 4) rfl)) (hw _ (List.mem_of_getElem? (i := 52) rfl)) (by decide) (o_len pdsK rfl) rfl (pc' := 9) dsL_6 rfl (Nat.le_of_ble_eq_true rfl) (Nat.le_of_ble_eq_true rfl) (Nat.le_of_ble_eq_true rfl) (Nat.le_of_ble_eq_true rfl) (fun v6 h6 hQ6 => ?_)
    obtain ⟨rfl, rfl⟩ := hQ6
    dsimp only [oPush]
    refine s_ishr (pc' := 10) dsL_9 rfl ?_
    exact s_iret rfl dsL_10 (by decide) (by decide) ⟨by decide, rfl⟩
  · skip
    refine s_aloadN (pc' := 1) dsL_0 rfl rfl rfl ?_
    refine s_getF V1 (host := "") (Or.inl (hw _ (List.mem_of_getElem? (i := 29) rfl))) Via.refl (pc' := 4) dsL_1 rfl ?_
    refine s_alen A1 (pc' := 5) dsL_4 rfl ?_
    refine s_aloadN (pc' := 6) dsL_5 rfl rfl rfl ?_
    refine s_callV0 (rmsK C.l G n0 a 1 h0 (by decide) C1) E1 (hw _ (List.mem_of_getElem? (i := 48) rfl)) (hw _ (List.mem_of_getElem? (i := 49) rfl)) (hw _ (List.mem_of_getElem? (i := 51) rfl)) (hw _ (List.mem_of_getElem? (i := 50) rfl)) (o_nf (hw _ (List.mem_of_getElem? (i := 51) rfl)) rfl) (hw _ (List.mem_of_getElem? (i := 4) rfl)) (hw _ (List.mem_of_getElem? (i := 52) rfl)) (by decide) (o_len pdsK rfl) rfl (pc' := 9) dsL_6 rfl (Nat.le_of_ble_eq_true rfl) (Nat.le_of_ble_eq_true rfl) (Nat.le_of_ble_eq_true rfl) (Nat.le_of_ble_eq_true rfl) (fun v6 h6 hQ6 => ?_)
    obtain ⟨rfl, rfl⟩ := hQ6
    dsimp only [oPush]
    refine s_ishr (pc' := 10) dsL_9 rfl ?_
    exact s_iret rfl dsL_10 (by decide) (by decide) ⟨by decide, rfl⟩
def isI : OInfo := ("java/lang/String", jdk_42_method_154_code, 1, (some .boolean), "isLatin1", ({ frames := 0, cells := 0, slots := 0, locals := 0 } : Room))
theorem pdsI : parseMethodDescriptor "()Z" = some ⟨[], some .boolean⟩ := by decide +kernel
theorem pnsI : plainFor (⟨"java/lang/String", "isLatin1", "()Z"⟩ : MethodName) = true := by decide +kernel
theorem efsI (x0 : Addr) (m : MethodId) : entryFrame m #[(.ref x0)] 1 = mkF m 0 #[.val (.ref x0)] [] := by first | (simp [entryFrame, mkF, argsToLocals, Value.category]; done) | rfl
theorem dsI_0 : decode jdk_42_method_154_code 0 = .ok (.getstatic 38, 3) := by decide +kernel
theorem dsI_3 : decode jdk_42_method_154_code 3 = .ok (.ifCond .eq 14, 3) := by decide +kernel
theorem dsI_6 : decode jdk_42_method_154_code 6 = .ok (.aload_n 0, 1) := by decide +kernel
theorem dsI_7 : decode jdk_42_method_154_code 7 = .ok (.getfield 15, 3) := by decide +kernel
theorem dsI_10 : decode jdk_42_method_154_code 10 = .ok (.ifCond .ne 7, 3) := by decide +kernel
theorem dsI_13 : decode jdk_42_method_154_code 13 = .ok (.iconst 1, 1) := by decide +kernel
theorem dsI_14 : decode jdk_42_method_154_code 14 = .ok (.goto 4, 3) := by decide +kernel
theorem dsI_17 : decode jdk_42_method_154_code 17 = .ok (.iconst 0, 1) := by decide +kernel
theorem dsI_18 : decode jdk_42_method_154_code 18 = .ok (.ireturn, 1) := by decide +kernel
set_option maxRecDepth 65536 in
set_option maxHeartbeats 4000000 in
theorem rmsI (l : Launch) {Z : State} {a0 : Array Value} (G : OG Z a0) (n0 : Nat) (a : Addr) (r q : Int32) (h0 : Heap) (hr : (r = 0 ∧ q = 1) ∨ (r = 1 ∧ q = 0)) (C1 : Fld Z h0 a "java/lang/String" "coder" "B" (.int r)) : oCon l Z n0 (⟨"java/lang/String", "isLatin1", "()Z"⟩ : MethodName) isI #[.ref a] h0 (fun v h => v = some (.int q) ∧ h = h0) := by
  obtain ⟨hw, ⟨cmp, hC, hc0⟩, ⟨fm, hfm, hF⟩, hAs, hHi, hLo⟩ := id G
  refine oCon.mk pnsI rfl rfl (efsI a) fun C hCl => ?_
  refine s_getS hC (hw _ (List.mem_of_getElem? (i := 15) rfl)) Via.refl (pc' := 3) dsI_0 rfl ?_
  refine s_if (pc' := 6) (pc'' := 17) dsI_3 rfl (by decide) rfl (fun hc3 => ?_) (fun hc3 => ?_)
  · replace hc3 := b_eq hc3
    exact absurd hc3 hc0
  · replace hc3 := b_eqF hc3
    refine s_aloadN (pc' := 7) dsI_6 rfl rfl rfl ?_
    refine s_getF C1 (host := "") (Or.inl (hw _ (List.mem_of_getElem? (i := 27) rfl))) Via.refl (pc' := 10) dsI_7 rfl ?_
    refine s_if (pc' := 13) (pc'' := 17) dsI_10 rfl (by decide) rfl (fun hc10 => ?_) (fun hc10 => ?_)
    · replace hc10 := b_ne hc10
      refine s_iconst (x := (0 : Int32)) (pc' := 18) dsI_17 rfl rfl ?_
      exact s_nret (t := .boolean) rfl (by simp) dsI_18 (by decide) (by decide) ⟨by rcases hr with ⟨rfl, rfl⟩ | ⟨rfl, rfl⟩ <;> first | rfl | exact absurd rfl hc10 | exact absurd hc10 (by decide), rfl⟩
    · replace hc10 := b_neF hc10
      refine s_iconst (x := (1 : Int32)) (pc' := 14) dsI_13 rfl rfl ?_
      refine s_goto (pc' := 18) dsI_14 (by decide) rfl ?_
      exact s_nret (t := .boolean) rfl (by simp) dsI_18 (by decide) (by decide) ⟨by rcases hr with ⟨rfl, rfl⟩ | ⟨rfl, rfl⟩ <;> first | rfl | exact absurd rfl hc10 | exact absurd hc10 (by decide), rfl⟩
def ipc : OInfo := ("jdk/internal/util/Preconditions", jdk_41_method_11_code, 3, (some .int), "checkIndex", ({ frames := 0, cells := 0, slots := 0, locals := 0 } : Room))
theorem pdpc : parseMethodDescriptor "(IILjava/util/function/BiFunction;)I" = some ⟨[.int, .int, (.object "java/util/function/BiFunction")], some .int⟩ := by decide +kernel
theorem pnpc : plainFor (⟨"jdk/internal/util/Preconditions", "checkIndex", "(IILjava/util/function/BiFunction;)I"⟩ : MethodName) = true := by decide +kernel
theorem efpc (x0 x1 : Int32) (x2 : Value) (h : x2.isRef = true) (m : MethodId) : entryFrame m #[(.int x0), (.int x1), x2] 3 = mkF m 0 #[.val (.int x0), .val (.int x1), .val x2] [] := by
  rcases ref_cases h with rfl | ⟨a, rfl⟩ <;> first | (simp [entryFrame, mkF, argsToLocals, Value.category]; done) | rfl
theorem dpc_0 : decode jdk_41_method_11_code 0 = .ok (.iload_n 0, 1) := by decide +kernel
theorem dpc_1 : decode jdk_41_method_11_code 1 = .ok (.ifCond .lt 8, 3) := by decide +kernel
theorem dpc_4 : decode jdk_41_method_11_code 4 = .ok (.iload_n 0, 1) := by decide +kernel
theorem dpc_5 : decode jdk_41_method_11_code 5 = .ok (.iload_n 1, 1) := by decide +kernel
theorem dpc_6 : decode jdk_41_method_11_code 6 = .ok (.if_icmp .lt 10, 3) := by decide +kernel
theorem dpc_16 : decode jdk_41_method_11_code 16 = .ok (.iload_n 0, 1) := by decide +kernel
theorem dpc_17 : decode jdk_41_method_11_code 17 = .ok (.ireturn, 1) := by decide +kernel
set_option maxRecDepth 65536 in
set_option maxHeartbeats 4000000 in
theorem rmpc (l : Launch) {Z : State} {a0 : Array Value} (G : OG Z a0) (n0 : Nat) (i n : Int32) (w : Value) (hw2 : w.isRef = true) (h0 : Heap) (h1 : ¬ i < 0) (h2 : i < n) : oCon l Z n0 (⟨"jdk/internal/util/Preconditions", "checkIndex", "(IILjava/util/function/BiFunction;)I"⟩ : MethodName) ipc #[.int i, .int n, w] h0 (fun v h => ∃ r : Int32, v = some (.int r) ∧ h = h0) := by
  obtain ⟨hw, ⟨cmp, hC, hc0⟩, ⟨fm, hfm, hF⟩, hAs, hHi, hLo⟩ := id G
  refine oCon.mk pnpc rfl rfl (efpc i n w hw2) fun C hCl => ?_
  refine s_iloadN (pc' := 1) dpc_0 rfl rfl ?_
  refine s_if (pc' := 4) (pc'' := 9) dpc_1 rfl (by decide) rfl (fun hc1 => ?_) (fun hc1 => ?_)
  · replace hc1 := b_lt hc1
    exact absurd hc1 h1
  · replace hc1 := b_ltF hc1
    refine s_iloadN (pc' := 5) dpc_4 rfl rfl ?_
    refine s_iloadN (pc' := 6) dpc_5 rfl rfl ?_
    refine s_icmp (pc' := 9) (pc'' := 16) dpc_6 rfl (by decide) rfl (fun hc6 => ?_) (fun hc6 => ?_)
    · replace hc6 := b_lt hc6
      refine s_iloadN (pc' := 17) dpc_16 rfl rfl ?_
      exact s_iret rfl dpc_17 (by decide) (by decide) ⟨_, rfl, rfl⟩
    · replace hc6 := b_ltF hc6
      exact absurd h2 hc6
def isX : OInfo := ("java/lang/String", jdk_42_method_155_code, 2, none, "checkIndex", ({ frames := 1, cells := 0, slots := 0, locals := 14 } : Room))
theorem pdsX : parseMethodDescriptor "(II)V" = some ⟨[.int, .int], none⟩ := by decide +kernel
theorem pnsX : plainFor (⟨"java/lang/String", "checkIndex", "(II)V"⟩ : MethodName) = true := by decide +kernel
theorem efsX (x0 : Int32) (x1 : Int32) (m : MethodId) : entryFrame m #[(.int x0), (.int x1)] 2 = mkF m 0 #[.val (.int x0), .val (.int x1)] [] := by first | (simp [entryFrame, mkF, argsToLocals, Value.category]; done) | rfl
theorem dsX_0 : decode jdk_42_method_155_code 0 = .ok (.iload_n 0, 1) := by decide +kernel
theorem dsX_1 : decode jdk_42_method_155_code 1 = .ok (.iload_n 1, 1) := by decide +kernel
theorem dsX_2 : decode jdk_42_method_155_code 2 = .ok (.getstatic 1053, 3) := by decide +kernel
theorem dsX_5 : decode jdk_42_method_155_code 5 = .ok (.invokestatic 1059, 3) := by decide +kernel
theorem dsX_8 : decode jdk_42_method_155_code 8 = .ok (.pop, 1) := by decide +kernel
theorem dsX_9 : decode jdk_42_method_155_code 9 = .ok (.return_, 1) := by decide +kernel
set_option maxRecDepth 65536 in
set_option maxHeartbeats 4000000 in
theorem rmsX (l : Launch) {Z : State} {a0 : Array Value} (G : OG Z a0) (n0 : Nat) (i n : Int32) (h0 : Heap) (h1 : ¬ i < 0) (h2 : i < n) : oCon l Z n0 (⟨"java/lang/String", "checkIndex", "(II)V"⟩ : MethodName) isX #[.int i, .int n] h0 (fun v h => v = none ∧ h = h0) := by
  obtain ⟨hw, ⟨cmp, hC, hc0⟩, ⟨fm, hfm, hF⟩, hAs, hHi, hLo⟩ := id G
  refine oCon.mk pnsX rfl rfl (efsX i n) fun C hCl => ?_
  refine s_iloadN (pc' := 1) dsX_0 rfl rfl ?_
  refine s_iloadN (pc' := 2) dsX_1 rfl rfl ?_
  refine s_getS hF (hw _ (List.mem_of_getElem? (i := 120) rfl)) Via.refl (pc' := 5) dsX_2 rfl ?_
  refine s_callS3 (rmpc C.l G n0 i n fm hfm h0 h1 h2) (hw _ (List.mem_of_getElem? (i := 121) rfl)) (hw _ (List.mem_of_getElem? (i := 122) rfl)) (hw _ (List.mem_of_getElem? (i := 59) rfl)) (hw _ (List.mem_of_getElem? (i := 123) rfl)) (by decide) (o_len pdpc rfl) rfl (pc' := 8) dsX_5 rfl (Nat.le_of_ble_eq_true rfl) (Nat.le_of_ble_eq_true rfl) (Nat.le_of_ble_eq_true rfl) (Nat.le_of_ble_eq_true rfl) (fun v5 h5 hQ5 => ?_)
  obtain ⟨r, rfl, rfl⟩ := hQ5
  dsimp only [oPush]
  refine s_pop (pc' := 9) dsX_8 rfl rfl ?_
  exact s_ret rfl dsX_9 (by decide) (by decide) ⟨rfl, rfl⟩
def ilC : OInfo := ("java/lang/StringLatin1", jdk_43_method_2_code, 2, (some .char), "charAt", ({ frames := 2, cells := 0, slots := 0, locals := 27 } : Room))
theorem pdlC : parseMethodDescriptor "([BI)C" = some ⟨[(.array .byte), .int], some .char⟩ := by decide +kernel
theorem pnlC : plainFor (⟨"java/lang/StringLatin1", "charAt", "([BI)C"⟩ : MethodName) = true := by decide +kernel
theorem eflC (x0 : Addr) (x1 : Int32) (m : MethodId) : entryFrame m #[(.ref x0), (.int x1)] 2 = mkF m 0 #[.val (.ref x0), .val (.int x1)] [] := by first | (simp [entryFrame, mkF, argsToLocals, Value.category]; done) | rfl
theorem dlC_0 : decode jdk_43_method_2_code 0 = .ok (.iload_n 1, 1) := by decide +kernel
theorem dlC_1 : decode jdk_43_method_2_code 1 = .ok (.aload_n 0, 1) := by decide +kernel
theorem dlC_2 : decode jdk_43_method_2_code 2 = .ok (.arraylength, 1) := by decide +kernel
theorem dlC_3 : decode jdk_43_method_2_code 3 = .ok (.invokestatic 9, 3) := by decide +kernel
theorem dlC_6 : decode jdk_43_method_2_code 6 = .ok (.aload_n 0, 1) := by decide +kernel
theorem dlC_7 : decode jdk_43_method_2_code 7 = .ok (.iload_n 1, 1) := by decide +kernel
theorem dlC_8 : decode jdk_43_method_2_code 8 = .ok (.baload, 1) := by decide +kernel
theorem dlC_9 : decode jdk_43_method_2_code 9 = .ok (.sipush 255, 3) := by decide +kernel
theorem dlC_12 : decode jdk_43_method_2_code 12 = .ok (.iand, 1) := by decide +kernel
theorem dlC_13 : decode jdk_43_method_2_code 13 = .ok (.i2c, 1) := by decide +kernel
theorem dlC_14 : decode jdk_43_method_2_code 14 = .ok (.ireturn, 1) := by decide +kernel
set_option maxRecDepth 65536 in
set_option maxHeartbeats 4000000 in
theorem rmlC (l : Launch) {Z : State} {a0 : Array Value} (G : OG Z a0) (n0 : Nat) (d : Addr) (k : ClassId) (cs : List Int32) (j : Nat) (z : Int32) (h0 : Heap) (hn : cs.length = 5) (hch : Ch cs) (hz : cs[j]? = some z) (A : Arv Z h0 d k .byte 5 (cs.map fun c => Value.int (byt c)) (.int 0)) : oCon l Z n0 (⟨"java/lang/StringLatin1", "charAt", "([BI)C"⟩ : MethodName) ilC #[.ref d, .int (Int32.ofNat j)] h0 (fun v h => v = some (.int z) ∧ h = h0) := by
  obtain ⟨hw, ⟨cmp, hC, hc0⟩, ⟨fm, hfm, hF⟩, hAs, hHi, hLo⟩ := id G
  have hj : j < 5 := hn ▸ (List.getElem?_eq_some_iff.mp hz).1
  refine oCon.mk pnlC rfl rfl (eflC d _) fun C hCl => ?_
  refine s_iloadN (pc' := 1) dlC_0 rfl rfl ?_
  refine s_aloadN (pc' := 2) dlC_1 rfl rfl rfl ?_
  refine s_alen A (pc' := 3) dlC_2 rfl ?_
  refine s_callS2 (rmsX C.l G n0 (Int32.ofNat j) 5 h0 (nn (by omega)) (f_lt hj)) (hw _ (List.mem_of_getElem? (i := 129) rfl)) (hw _ (List.mem_of_getElem? (i := 118) rfl)) (hw _ (List.mem_of_getElem? (i := 4) rfl)) (hw _ (List.mem_of_getElem? (i := 119) rfl)) (by decide) (o_len pdsX rfl) rfl (pc' := 6) dlC_3 rfl (Nat.le_of_ble_eq_true rfl) (Nat.le_of_ble_eq_true rfl) (Nat.le_of_ble_eq_true rfl) (Nat.le_of_ble_eq_true rfl) (fun v3 h3 hQ3 => ?_)
  obtain ⟨rfl, rfl⟩ := hQ3
  dsimp only [oPush]
  refine s_aloadN (pc' := 7) dlC_6 rfl rfl rfl ?_
  refine s_iloadN (pc' := 8) dlC_7 rfl rfl ?_
  refine s_baload A (nn (by omega)) (f_lt hj) (v := .int (byt z)) (by rw [cl (by omega)]; exact bs_get hz _) (pc' := 9) dlC_8 rfl ?_
  refine s_sipush (x := (255 : Int32)) (pc' := 12) dlC_9 rfl rfl ?_
  refine s_iand (pc' := 13) dlC_12 rfl ?_
  refine s_i2c (pc' := 14) dlC_13 rfl ?_
  exact s_nret (t := .char) rfl (by simp) dlC_14 (by decide) (by decide) ⟨by rw [byt_and (hch z (List.mem_of_getElem? hz)), i2c_ch (hch z (List.mem_of_getElem? hz)), nar_ch (hch z (List.mem_of_getElem? hz))], rfl⟩
def iuL : OInfo := ("java/lang/StringUTF16", jdk_52_method_6_code, 1, (some .int), "length", ({ frames := 0, cells := 0, slots := 0, locals := 0 } : Room))
theorem pduL : parseMethodDescriptor "([B)I" = some ⟨[(.array .byte)], some .int⟩ := by decide +kernel
theorem pnuL : plainFor (⟨"java/lang/StringUTF16", "length", "([B)I"⟩ : MethodName) = true := by decide +kernel
theorem efuL (x0 : Addr) (m : MethodId) : entryFrame m #[(.ref x0)] 1 = mkF m 0 #[.val (.ref x0)] [] := by first | (simp [entryFrame, mkF, argsToLocals, Value.category]; done) | rfl
theorem duL_0 : decode jdk_52_method_6_code 0 = .ok (.aload_n 0, 1) := by decide +kernel
theorem duL_1 : decode jdk_52_method_6_code 1 = .ok (.arraylength, 1) := by decide +kernel
theorem duL_2 : decode jdk_52_method_6_code 2 = .ok (.iconst 1, 1) := by decide +kernel
theorem duL_3 : decode jdk_52_method_6_code 3 = .ok (.ishr, 1) := by decide +kernel
theorem duL_4 : decode jdk_52_method_6_code 4 = .ok (.ireturn, 1) := by decide +kernel
set_option maxRecDepth 65536 in
set_option maxHeartbeats 4000000 in
theorem rmuL (l : Launch) {Z : State} {a0 : Array Value} (G : OG Z a0) (n0 : Nat) (d : Addr) (k : ClassId) (vs : List Value) (dv : Value) (h0 : Heap) (A : Arv Z h0 d k .byte 10 vs dv) : oCon l Z n0 (⟨"java/lang/StringUTF16", "length", "([B)I"⟩ : MethodName) iuL #[.ref d] h0 (fun v h => v = some (.int 5) ∧ h = h0) := by
  obtain ⟨hw, ⟨cmp, hC, hc0⟩, ⟨fm, hfm, hF⟩, hAs, hHi, hLo⟩ := id G
  refine oCon.mk pnuL rfl rfl (efuL d) fun C hCl => ?_
  refine s_aloadN (pc' := 1) duL_0 rfl rfl rfl ?_
  refine s_alen A (pc' := 2) duL_1 rfl ?_
  refine s_iconst (x := (1 : Int32)) (pc' := 3) duL_2 rfl rfl ?_
  refine s_ishr (pc' := 4) duL_3 rfl ?_
  exact s_iret rfl duL_4 (by decide) (by decide) ⟨by decide, rfl⟩
def iuX : OInfo := ("java/lang/StringUTF16", jdk_52_method_91_code, 2, none, "checkIndex", ({ frames := 2, cells := 0, slots := 0, locals := 27 } : Room))
theorem pduX : parseMethodDescriptor "(I[B)V" = some ⟨[.int, (.array .byte)], none⟩ := by decide +kernel
theorem pnuX : plainFor (⟨"java/lang/StringUTF16", "checkIndex", "(I[B)V"⟩ : MethodName) = true := by decide +kernel
theorem efuX (x0 : Int32) (x1 : Addr) (m : MethodId) : entryFrame m #[(.int x0), (.ref x1)] 2 = mkF m 0 #[.val (.int x0), .val (.ref x1)] [] := by first | (simp [entryFrame, mkF, argsToLocals, Value.category]; done) | rfl
theorem duX_0 : decode jdk_52_method_91_code 0 = .ok (.iload_n 0, 1) := by decide +kernel
theorem duX_1 : decode jdk_52_method_91_code 1 = .ok (.aload_n 1, 1) := by decide +kernel
theorem duX_2 : decode jdk_52_method_91_code 2 = .ok (.invokestatic 48, 3) := by decide +kernel
theorem duX_5 : decode jdk_52_method_91_code 5 = .ok (.invokestatic 414, 3) := by decide +kernel
theorem duX_8 : decode jdk_52_method_91_code 8 = .ok (.return_, 1) := by decide +kernel
set_option maxRecDepth 65536 in
set_option maxHeartbeats 4000000 in
theorem rmuX (l : Launch) {Z : State} {a0 : Array Value} (G : OG Z a0) (n0 : Nat) (d : Addr) (k : ClassId) (vs : List Value) (dv : Value) (i : Int32) (h0 : Heap) (hi0 : ¬ i < 0) (hi5 : i < 5) (A : Arv Z h0 d k .byte 10 vs dv) : oCon l Z n0 (⟨"java/lang/StringUTF16", "checkIndex", "(I[B)V"⟩ : MethodName) iuX #[.int i, .ref d] h0 (fun v h => v = none ∧ h = h0) := by
  obtain ⟨hw, ⟨cmp, hC, hc0⟩, ⟨fm, hfm, hF⟩, hAs, hHi, hLo⟩ := id G
  refine oCon.mk pnuX rfl rfl (efuX i d) fun C hCl => ?_
  refine s_iloadN (pc' := 1) duX_0 rfl rfl ?_
  refine s_aloadN (pc' := 2) duX_1 rfl rfl rfl ?_
  refine s_callS1 (rmuL C.l G n0 d k vs dv h0 A) (hw _ (List.mem_of_getElem? (i := 114) rfl)) (hw _ (List.mem_of_getElem? (i := 115) rfl)) (hw _ (List.mem_of_getElem? (i := 18) rfl)) (hw _ (List.mem_of_getElem? (i := 116) rfl)) (by decide) (o_len pduL rfl) rfl (pc' := 5) duX_2 rfl (Nat.le_of_ble_eq_true rfl) (Nat.le_of_ble_eq_true rfl) (Nat.le_of_ble_eq_true rfl) (Nat.le_of_ble_eq_true rfl) (fun v2 h2 hQ2 => ?_)
  obtain ⟨rfl, rfl⟩ := hQ2
  dsimp only [oPush]
  refine s_callS2 (rmsX C.l G n0 i 5 _ hi0 hi5) (hw _ (List.mem_of_getElem? (i := 117) rfl)) (hw _ (List.mem_of_getElem? (i := 118) rfl)) (hw _ (List.mem_of_getElem? (i := 4) rfl)) (hw _ (List.mem_of_getElem? (i := 119) rfl)) (by decide) (o_len pdsX rfl) rfl (pc' := 8) duX_5 rfl (Nat.le_of_ble_eq_true rfl) (Nat.le_of_ble_eq_true rfl) (Nat.le_of_ble_eq_true rfl) (Nat.le_of_ble_eq_true rfl) (fun v5 h5 hQ5 => ?_)
  obtain ⟨rfl, rfl⟩ := hQ5
  dsimp only [oPush]
  exact s_ret rfl duX_8 (by decide) (by decide) ⟨rfl, rfl⟩
def iuC : OInfo := ("java/lang/StringUTF16", jdk_52_method_83_code, 2, (some .char), "charAt", ({ frames := 3, cells := 0, slots := 0, locals := 40 } : Room))
theorem pduC : parseMethodDescriptor "([BI)C" = some ⟨[(.array .byte), .int], some .char⟩ := by decide +kernel
theorem pnuC : plainFor (⟨"java/lang/StringUTF16", "charAt", "([BI)C"⟩ : MethodName) = true := by decide +kernel
theorem efuC (x0 : Addr) (x1 : Int32) (m : MethodId) : entryFrame m #[(.ref x0), (.int x1)] 2 = mkF m 0 #[.val (.ref x0), .val (.int x1)] [] := by first | (simp [entryFrame, mkF, argsToLocals, Value.category]; done) | rfl
theorem duC_0 : decode jdk_52_method_83_code 0 = .ok (.iload_n 1, 1) := by decide +kernel
theorem duC_1 : decode jdk_52_method_83_code 1 = .ok (.aload_n 0, 1) := by decide +kernel
theorem duC_2 : decode jdk_52_method_83_code 2 = .ok (.invokestatic 67, 3) := by decide +kernel
theorem duC_5 : decode jdk_52_method_83_code 5 = .ok (.aload_n 0, 1) := by decide +kernel
theorem duC_6 : decode jdk_52_method_83_code 6 = .ok (.iload_n 1, 1) := by decide +kernel
theorem duC_7 : decode jdk_52_method_83_code 7 = .ok (.invokestatic 71, 3) := by decide +kernel
theorem duC_10 : decode jdk_52_method_83_code 10 = .ok (.ireturn, 1) := by decide +kernel
set_option maxRecDepth 65536 in
set_option maxHeartbeats 4000000 in
theorem rmuC (l : Launch) {Z : State} {a0 : Array Value} (G : OG Z a0) (n0 : Nat) (d : Addr) (k : ClassId) (cs : List Int32) (j : Nat) (z : Int32) (h0 : Heap) (hn : cs.length = 5) (hch : C16 cs) (hz : cs[j]? = some z) (A : Arv Z h0 d k .byte 10 (u2 cs) (.int 0)) : oCon l Z n0 (⟨"java/lang/StringUTF16", "charAt", "([BI)C"⟩ : MethodName) iuC #[.ref d, .int (Int32.ofNat j)] h0 (fun v h => v = some (.int z) ∧ h = h0) := by
  obtain ⟨hw, ⟨cmp, hC, hc0⟩, ⟨fm, hfm, hF⟩, hAs, hHi, hLo⟩ := id G
  have hj : j < 5 := hn ▸ (List.getElem?_eq_some_iff.mp hz).1
  refine oCon.mk pnuC rfl rfl (efuC d _) fun C hCl => ?_
  refine s_iloadN (pc' := 1) duC_0 rfl rfl ?_
  refine s_aloadN (pc' := 2) duC_1 rfl rfl rfl ?_
  refine s_callS2 (rmuX C.l G n0 d k _ _ (Int32.ofNat j) h0 (nn (by omega)) (f_lt hj) A) (hw _ (List.mem_of_getElem? (i := 111) rfl)) (hw _ (List.mem_of_getElem? (i := 112) rfl)) (hw _ (List.mem_of_getElem? (i := 18) rfl)) (hw _ (List.mem_of_getElem? (i := 113) rfl)) (by decide) (o_len pduX rfl) rfl (pc' := 5) duC_2 rfl (Nat.le_of_ble_eq_true rfl) (Nat.le_of_ble_eq_true rfl) (Nat.le_of_ble_eq_true rfl) (Nat.le_of_ble_eq_true rfl) (fun v2 h2 hQ2 => ?_)
  obtain ⟨rfl, rfl⟩ := hQ2
  dsimp only [oPush]
  refine s_aloadN (pc' := 6) duC_5 rfl rfl rfl ?_
  refine s_iloadN (pc' := 7) duC_6 rfl rfl ?_
  refine s_callS2 (rmgC C.l G n0 d k j z cs _ hn hch hz A) (hw _ (List.mem_of_getElem? (i := 92) rfl)) (hw _ (List.mem_of_getElem? (i := 93) rfl)) (hw _ (List.mem_of_getElem? (i := 18) rfl)) (hw _ (List.mem_of_getElem? (i := 94) rfl)) (by decide) (o_len pdgC rfl) rfl (pc' := 10) duC_7 rfl (Nat.le_of_ble_eq_true rfl) (Nat.le_of_ble_eq_true rfl) (Nat.le_of_ble_eq_true rfl) (Nat.le_of_ble_eq_true rfl) (fun v7 h7 hQ7 => ?_)
  obtain ⟨rfl, rfl⟩ := hQ7
  dsimp only [oPush]
  exact s_nret (t := .char) rfl (by simp) duC_10 (by decide) (by decide) ⟨by rw [nar16 (hch z (List.mem_of_getElem? hz))], rfl⟩
def isH : OInfo := ("java/lang/String", jdk_42_method_56_code, 2, (some .char), "charAt", ({ frames := 4, cells := 0, slots := 0, locals := 53 } : Room))
theorem pdsH : parseMethodDescriptor "(I)C" = some ⟨[.int], some .char⟩ := by decide +kernel
theorem pnsH : plainFor (⟨"java/lang/String", "charAt", "(I)C"⟩ : MethodName) = true := by decide +kernel
theorem efsH (x0 : Addr) (x1 : Int32) (m : MethodId) : entryFrame m #[(.ref x0), (.int x1)] 2 = mkF m 0 #[.val (.ref x0), .val (.int x1)] [] := by first | (simp [entryFrame, mkF, argsToLocals, Value.category]; done) | rfl
theorem dsH_0 : decode jdk_42_method_56_code 0 = .ok (.aload_n 0, 1) := by decide +kernel
theorem dsH_1 : decode jdk_42_method_56_code 1 = .ok (.invokevirtual 492, 3) := by decide +kernel
theorem dsH_4 : decode jdk_42_method_56_code 4 = .ok (.ifCond .eq 12, 3) := by decide +kernel
theorem dsH_7 : decode jdk_42_method_56_code 7 = .ok (.aload_n 0, 1) := by decide +kernel
theorem dsH_8 : decode jdk_42_method_56_code 8 = .ok (.getfield 9, 3) := by decide +kernel
theorem dsH_11 : decode jdk_42_method_56_code 11 = .ok (.iload_n 1, 1) := by decide +kernel
theorem dsH_12 : decode jdk_42_method_56_code 12 = .ok (.invokestatic 495, 3) := by decide +kernel
theorem dsH_15 : decode jdk_42_method_56_code 15 = .ok (.ireturn, 1) := by decide +kernel
theorem dsH_16 : decode jdk_42_method_56_code 16 = .ok (.aload_n 0, 1) := by decide +kernel
theorem dsH_17 : decode jdk_42_method_56_code 17 = .ok (.getfield 9, 3) := by decide +kernel
theorem dsH_20 : decode jdk_42_method_56_code 20 = .ok (.iload_n 1, 1) := by decide +kernel
theorem dsH_21 : decode jdk_42_method_56_code 21 = .ok (.invokestatic 498, 3) := by decide +kernel
theorem dsH_24 : decode jdk_42_method_56_code 24 = .ok (.ireturn, 1) := by decide +kernel
set_option maxRecDepth 65536 in
set_option maxHeartbeats 4000000 in
theorem rmsH (l : Launch) {Z : State} {a0 : Array Value} (G : OG Z a0) (n0 : Nat) (a : Addr) (N : Nat) (cs : List Int32) (j : Nat) (z : Int32) (h0 : Heap) (hn : cs.length = 5) (hch : C16 cs) (hz : cs[j]? = some z) (H : UV Z h0 N a cs) : oCon l Z n0 (⟨"java/lang/String", "charAt", "(I)C"⟩ : MethodName) isH #[.ref a, .int (Int32.ofNat j)] h0 (fun v h => v = some (.int z) ∧ h = h0) := by
  obtain ⟨hw, ⟨cmp, hC, hc0⟩, ⟨fm, hfm, hF⟩, hAs, hHi, hLo⟩ := id G
  refine oCon.mk pnsH rfl rfl (efsH a _) fun C hCl => ?_
  obtain ⟨b, k, -, -, E1, V1, hh⟩ := H
  rcases hh with ⟨C1, hc8, A1⟩ | ⟨C1, A1⟩
  · skip
    refine s_aloadN (pc' := 1) dsH_0 rfl rfl rfl ?_
    refine s_callV0 (rmsI C.l G n0 a 0 1 h0 (by decide) C1) E1 (hw _ (List.mem_of_getElem? (i := 103) rfl)) (hw _ (List.mem_of_getElem? (i := 104) rfl)) (hw _ (List.mem_of_getElem? (i := 106) rfl)) (hw _ (List.mem_of_getElem? (i := 105) rfl)) (o_nf (hw _ (List.mem_of_getElem? (i := 106) rfl)) rfl) (hw _ (List.mem_of_getElem? (i := 4) rfl)) (hw _ (List.mem_of_getElem? (i := 107) rfl)) (by decide) (o_len pdsI rfl) rfl (pc' := 4) dsH_1 rfl (Nat.le_of_ble_eq_true rfl) (Nat.le_of_ble_eq_true rfl) (Nat.le_of_ble_eq_true rfl) (Nat.le_of_ble_eq_true rfl) (fun v1 h1 hQ1 => ?_)
    obtain ⟨rfl, rfl⟩ := hQ1
    dsimp only [oPush]
    refine s_if (pc' := 7) (pc'' := 16) dsH_4 rfl (by decide) rfl (fun hc4 => ?_) (fun hc4 => ?_)
    · replace hc4 := b_eq hc4
      exact absurd hc4 (by decide)
    · replace hc4 := b_eqF hc4
      refine s_aloadN (pc' := 8) dsH_7 rfl rfl rfl ?_
      refine s_getF V1 (host := "") (Or.inl (hw _ (List.mem_of_getElem? (i := 29) rfl))) Via.refl (pc' := 11) dsH_8 rfl ?_
      refine s_iloadN (pc' := 12) dsH_11 rfl rfl ?_
      refine s_callS2 (rmlC C.l G n0 b k cs j z _ hn hc8 hz A1) (hw _ (List.mem_of_getElem? (i := 125) rfl)) (hw _ (List.mem_of_getElem? (i := 126) rfl)) (hw _ (List.mem_of_getElem? (i := 127) rfl)) (hw _ (List.mem_of_getElem? (i := 128) rfl)) (by decide) (o_len pdlC rfl) rfl (pc' := 15) dsH_12 rfl (Nat.le_of_ble_eq_true rfl) (Nat.le_of_ble_eq_true rfl) (Nat.le_of_ble_eq_true rfl) (Nat.le_of_ble_eq_true rfl) (fun v12 h12 hQ12 => ?_)
      obtain ⟨rfl, rfl⟩ := hQ12
      dsimp only [oPush]
      exact s_nret (t := .char) rfl (by simp) dsH_15 (by decide) (by decide) ⟨by rw [nar16 (hch z (List.mem_of_getElem? hz))], rfl⟩
  · skip
    refine s_aloadN (pc' := 1) dsH_0 rfl rfl rfl ?_
    refine s_callV0 (rmsI C.l G n0 a 1 0 h0 (by decide) C1) E1 (hw _ (List.mem_of_getElem? (i := 103) rfl)) (hw _ (List.mem_of_getElem? (i := 104) rfl)) (hw _ (List.mem_of_getElem? (i := 106) rfl)) (hw _ (List.mem_of_getElem? (i := 105) rfl)) (o_nf (hw _ (List.mem_of_getElem? (i := 106) rfl)) rfl) (hw _ (List.mem_of_getElem? (i := 4) rfl)) (hw _ (List.mem_of_getElem? (i := 107) rfl)) (by decide) (o_len pdsI rfl) rfl (pc' := 4) dsH_1 rfl (Nat.le_of_ble_eq_true rfl) (Nat.le_of_ble_eq_true rfl) (Nat.le_of_ble_eq_true rfl) (Nat.le_of_ble_eq_true rfl) (fun v1 h1 hQ1 => ?_)
    obtain ⟨rfl, rfl⟩ := hQ1
    dsimp only [oPush]
    refine s_if (pc' := 7) (pc'' := 16) dsH_4 rfl (by decide) rfl (fun hc4 => ?_) (fun hc4 => ?_)
    · replace hc4 := b_eq hc4
      refine s_aloadN (pc' := 17) dsH_16 rfl rfl rfl ?_
      refine s_getF V1 (host := "") (Or.inl (hw _ (List.mem_of_getElem? (i := 29) rfl))) Via.refl (pc' := 20) dsH_17 rfl ?_
      refine s_iloadN (pc' := 21) dsH_20 rfl rfl ?_
      refine s_callS2 (rmuC C.l G n0 b k cs j z _ hn hch hz A1) (hw _ (List.mem_of_getElem? (i := 108) rfl)) (hw _ (List.mem_of_getElem? (i := 109) rfl)) (hw _ (List.mem_of_getElem? (i := 18) rfl)) (hw _ (List.mem_of_getElem? (i := 110) rfl)) (by decide) (o_len pduC rfl) rfl (pc' := 24) dsH_21 rfl (Nat.le_of_ble_eq_true rfl) (Nat.le_of_ble_eq_true rfl) (Nat.le_of_ble_eq_true rfl) (Nat.le_of_ble_eq_true rfl) (fun v21 h21 hQ21 => ?_)
      obtain ⟨rfl, rfl⟩ := hQ21
      dsimp only [oPush]
      exact s_nret (t := .char) rfl (by simp) dsH_24 (by decide) (by decide) ⟨by rw [nar16 (hch z (List.mem_of_getElem? hz))], rfl⟩
    · replace hc4 := b_eqF hc4
      exact absurd rfl hc4
theorem pnV : plainName "com/example/auscult/auscult/SortValue" = true := by first | (simp [plainName, overriddenIn]; done) | decide +kernel
theorem pn0 : plainName "com/example/auscult/auscult/SortValueHashCodePinLaw" = true := by first | (simp [plainName, overriddenIn]; done) | decide +kernel
def ire : OInfo := ("java/lang/Record", jdk_30_method_1_code, 1, none, "<init>", ({ frames := 1, cells := 0, slots := 0, locals := 12 } : Room))
theorem pdre : parseMethodDescriptor "()V" = some ⟨[], none⟩ := by decide +kernel
theorem pnre : plainFor (⟨"java/lang/Record", "<init>", "()V"⟩ : MethodName) = true := by decide +kernel
theorem efre (x0 : Addr) (m : MethodId) : entryFrame m #[(.ref x0)] 1 = mkF m 0 #[.val (.ref x0)] [] := by first | (simp [entryFrame, mkF, argsToLocals, Value.category]; done) | rfl
theorem dre_0 : decode jdk_30_method_1_code 0 = .ok (.aload_n 0, 1) := by decide +kernel
theorem dre_1 : decode jdk_30_method_1_code 1 = .ok (.invokespecial 1, 3) := by decide +kernel
theorem dre_4 : decode jdk_30_method_1_code 4 = .ok (.return_, 1) := by decide +kernel
set_option maxRecDepth 65536 in
set_option maxHeartbeats 4000000 in
theorem rmre (l : Launch) {Z : State} {a0 : Array Value} (G : OG Z a0) (n0 : Nat) (a : Addr) (h0 : Heap) : oCon l Z n0 (⟨"java/lang/Record", "<init>", "()V"⟩ : MethodName) ire #[.ref a] h0 (fun v h => v = none ∧ h = h0) := by
  obtain ⟨hw, ⟨cmp, hC, hc0⟩, ⟨fm, hfm, hF⟩, hAs, hHi, hLo⟩ := id G
  refine oCon.mk pnre rfl rfl (efre a) fun C hCl => ?_
  refine s_aloadN (pc' := 1) dre_0 rfl rfl rfl ?_
  refine s_initO (hw _ (List.mem_of_getElem? (i := 42) rfl)) (hw _ (List.mem_of_getElem? (i := 13) rfl)) (hw _ (List.mem_of_getElem? (i := 14) rfl)) rfl (pc' := 4) dre_1 rfl (Nat.le_of_ble_eq_true rfl) (Nat.le_of_ble_eq_true rfl) ?_
  exact s_ret rfl dre_4 (by decide) (by decide) ⟨rfl, rfl⟩
def ipf : OInfo := ("jdk/internal/util/Preconditions", jdk_41_method_12_code, 4, (some .int), "checkFromToIndex", ({ frames := 0, cells := 0, slots := 0, locals := 0 } : Room))
theorem pdpf : parseMethodDescriptor "(IIILjava/util/function/BiFunction;)I" = some ⟨[.int, .int, .int, (.object "java/util/function/BiFunction")], some .int⟩ := by decide +kernel
theorem pnpf : plainFor (⟨"jdk/internal/util/Preconditions", "checkFromToIndex", "(IIILjava/util/function/BiFunction;)I"⟩ : MethodName) = true := by decide +kernel
theorem efpf (x0 x1 x2 : Int32) (m : MethodId) : entryFrame m #[(.int x0), (.int x1), (.int x2), .null] 4 = mkF m 0 #[.val (.int x0), .val (.int x1), .val (.int x2), .val .null] [] := by first | (simp [entryFrame, mkF, argsToLocals, Value.category]; done) | rfl
theorem dpf_0 : decode jdk_41_method_12_code 0 = .ok (.iload_n 0, 1) := by decide +kernel
theorem dpf_1 : decode jdk_41_method_12_code 1 = .ok (.ifCond .lt 13, 3) := by decide +kernel
theorem dpf_4 : decode jdk_41_method_12_code 4 = .ok (.iload_n 0, 1) := by decide +kernel
theorem dpf_5 : decode jdk_41_method_12_code 5 = .ok (.iload_n 1, 1) := by decide +kernel
theorem dpf_6 : decode jdk_41_method_12_code 6 = .ok (.if_icmp .gt 8, 3) := by decide +kernel
theorem dpf_9 : decode jdk_41_method_12_code 9 = .ok (.iload_n 1, 1) := by decide +kernel
theorem dpf_10 : decode jdk_41_method_12_code 10 = .ok (.iload_n 2, 1) := by decide +kernel
theorem dpf_11 : decode jdk_41_method_12_code 11 = .ok (.if_icmp .le 11, 3) := by decide +kernel
theorem dpf_22 : decode jdk_41_method_12_code 22 = .ok (.iload_n 0, 1) := by decide +kernel
theorem dpf_23 : decode jdk_41_method_12_code 23 = .ok (.ireturn, 1) := by decide +kernel
set_option maxRecDepth 65536 in
set_option maxHeartbeats 4000000 in
theorem rmpf (l : Launch) {Z : State} {a0 : Array Value} (G : OG Z a0) (n0 : Nat) (s e n : Int32) (h0 : Heap) (q1 : ¬ s < 0) (q2 : ¬ e < s) (q3 : ¬ n < e) : oCon l Z n0 (⟨"jdk/internal/util/Preconditions", "checkFromToIndex", "(IIILjava/util/function/BiFunction;)I"⟩ : MethodName) ipf #[.int s, .int e, .int n, .null] h0 (fun v h => v = some (.int s) ∧ h = h0) := by
  obtain ⟨hw, ⟨cmp, hC, hc0⟩, ⟨fm, hfm, hF⟩, hAs, hHi, hLo⟩ := id G
  refine oCon.mk pnpf rfl rfl (efpf s e n) fun C hCl => ?_
  refine s_iloadN (pc' := 1) dpf_0 rfl rfl ?_
  refine s_if (pc' := 4) (pc'' := 14) dpf_1 rfl (by decide) rfl (fun hc1 => ?_) (fun hc1 => ?_)
  · replace hc1 := b_lt hc1
    exact absurd hc1 q1
  · replace hc1 := b_ltF hc1
    refine s_iloadN (pc' := 5) dpf_4 rfl rfl ?_
    refine s_iloadN (pc' := 6) dpf_5 rfl rfl ?_
    refine s_icmp (pc' := 9) (pc'' := 14) dpf_6 rfl (by decide) rfl (fun hc6 => ?_) (fun hc6 => ?_)
    · replace hc6 := b_gt hc6
      exact absurd hc6 q2
    · replace hc6 := b_gtF hc6
      refine s_iloadN (pc' := 10) dpf_9 rfl rfl ?_
      refine s_iloadN (pc' := 11) dpf_10 rfl rfl ?_
      refine s_icmp (pc' := 14) (pc'' := 22) dpf_11 rfl (by decide) rfl (fun hc11 => ?_) (fun hc11 => ?_)
      · replace hc11 := b_le hc11
        refine s_iloadN (pc' := 23) dpf_22 rfl rfl ?_
        exact s_iret rfl dpf_23 (by decide) (by decide) ⟨rfl, rfl⟩
      · replace hc11 := b_leF hc11
        exact absurd hc11 q3
def iof : OInfo := ("java/util/Objects", jdk_31_method_18_code, 3, (some .int), "checkFromToIndex", ({ frames := 1, cells := 0, slots := 0, locals := 15 } : Room))
theorem pdof : parseMethodDescriptor "(III)I" = some ⟨[.int, .int, .int], some .int⟩ := by decide +kernel
theorem pnof : plainFor (⟨"java/util/Objects", "checkFromToIndex", "(III)I"⟩ : MethodName) = true := by decide +kernel
theorem efof (x0 : Int32) (x1 : Int32) (x2 : Int32) (m : MethodId) : entryFrame m #[(.int x0), (.int x1), (.int x2)] 3 = mkF m 0 #[.val (.int x0), .val (.int x1), .val (.int x2)] [] := by first | (simp [entryFrame, mkF, argsToLocals, Value.category]; done) | rfl
theorem dof_0 : decode jdk_31_method_18_code 0 = .ok (.iload_n 0, 1) := by decide +kernel
theorem dof_1 : decode jdk_31_method_18_code 1 = .ok (.iload_n 1, 1) := by decide +kernel
theorem dof_2 : decode jdk_31_method_18_code 2 = .ok (.iload_n 2, 1) := by decide +kernel
theorem dof_3 : decode jdk_31_method_18_code 3 = .ok (.aconst_null, 1) := by decide +kernel
theorem dof_4 : decode jdk_31_method_18_code 4 = .ok (.invokestatic 111, 3) := by decide +kernel
theorem dof_7 : decode jdk_31_method_18_code 7 = .ok (.ireturn, 1) := by decide +kernel
set_option maxRecDepth 65536 in
set_option maxHeartbeats 4000000 in
theorem rmof (l : Launch) {Z : State} {a0 : Array Value} (G : OG Z a0) (n0 : Nat) (s e n : Int32) (h0 : Heap) (q1 : ¬ s < 0) (q2 : ¬ e < s) (q3 : ¬ n < e) : oCon l Z n0 (⟨"java/util/Objects", "checkFromToIndex", "(III)I"⟩ : MethodName) iof #[.int s, .int e, .int n] h0 (fun v h => v = some (.int s) ∧ h = h0) := by
  obtain ⟨hw, ⟨cmp, hC, hc0⟩, ⟨fm, hfm, hF⟩, hAs, hHi, hLo⟩ := id G
  refine oCon.mk pnof rfl rfl (efof s e n) fun C hCl => ?_
  refine s_iloadN (pc' := 1) dof_0 rfl rfl ?_
  refine s_iloadN (pc' := 2) dof_1 rfl rfl ?_
  refine s_iloadN (pc' := 3) dof_2 rfl rfl ?_
  refine s_null (pc' := 4) dof_3 rfl ?_
  refine s_callS4 (rmpf C.l G n0 s e n h0 q1 q2 q3) (hw _ (List.mem_of_getElem? (i := 57) rfl)) (hw _ (List.mem_of_getElem? (i := 58) rfl)) (hw _ (List.mem_of_getElem? (i := 59) rfl)) (hw _ (List.mem_of_getElem? (i := 60) rfl)) (by decide) (o_len pdpf rfl) rfl (pc' := 7) dof_4 rfl (Nat.le_of_ble_eq_true rfl) (Nat.le_of_ble_eq_true rfl) (Nat.le_of_ble_eq_true rfl) (Nat.le_of_ble_eq_true rfl) (fun v4 h4 hQ4 => ?_)
  obtain ⟨rfl, rfl⟩ := hQ4
  dsimp only [oPush]
  exact s_iret rfl dof_7 (by decide) (by decide) ⟨rfl, rfl⟩
def ivi : OInfo := ("com/example/auscult/auscult/SortValue", prog_35_method_1_code, 4, none, "<init>", ({ frames := 2, cells := 0, slots := 0, locals := 29 } : Room))
theorem pdvi : parseMethodDescriptor "(Ljava/lang/String;II)V" = some ⟨[(.object "java/lang/String"), .int, .int], none⟩ := by decide +kernel
theorem pnvi : plainFor (⟨"com/example/auscult/auscult/SortValue", "<init>", "(Ljava/lang/String;II)V"⟩ : MethodName) = true := by decide +kernel
theorem efvi (x0 : Addr) (x1 : Addr) (x2 : Int32) (x3 : Int32) (m : MethodId) : entryFrame m #[(.ref x0), (.ref x1), (.int x2), (.int x3)] 4 = mkF m 0 #[.val (.ref x0), .val (.ref x1), .val (.int x2), .val (.int x3)] [] := by first | (simp [entryFrame, mkF, argsToLocals, Value.category]; done) | rfl
theorem dvi_0 : decode prog_35_method_1_code 0 = .ok (.aload_n 0, 1) := by decide +kernel
theorem dvi_1 : decode prog_35_method_1_code 1 = .ok (.invokespecial 1, 3) := by decide +kernel
theorem dvi_4 : decode prog_35_method_1_code 4 = .ok (.iload_n 2, 1) := by decide +kernel
theorem dvi_5 : decode prog_35_method_1_code 5 = .ok (.iload_n 3, 1) := by decide +kernel
theorem dvi_6 : decode prog_35_method_1_code 6 = .ok (.aload_n 1, 1) := by decide +kernel
theorem dvi_7 : decode prog_35_method_1_code 7 = .ok (.invokevirtual 7, 3) := by decide +kernel
theorem dvi_10 : decode prog_35_method_1_code 10 = .ok (.invokestatic 13, 3) := by decide +kernel
theorem dvi_13 : decode prog_35_method_1_code 13 = .ok (.pop, 1) := by decide +kernel
theorem dvi_14 : decode prog_35_method_1_code 14 = .ok (.aload_n 0, 1) := by decide +kernel
theorem dvi_15 : decode prog_35_method_1_code 15 = .ok (.aload_n 1, 1) := by decide +kernel
theorem dvi_16 : decode prog_35_method_1_code 16 = .ok (.putfield 19, 3) := by decide +kernel
theorem dvi_19 : decode prog_35_method_1_code 19 = .ok (.aload_n 0, 1) := by decide +kernel
theorem dvi_20 : decode prog_35_method_1_code 20 = .ok (.iload_n 2, 1) := by decide +kernel
theorem dvi_21 : decode prog_35_method_1_code 21 = .ok (.putfield 25, 3) := by decide +kernel
theorem dvi_24 : decode prog_35_method_1_code 24 = .ok (.aload_n 0, 1) := by decide +kernel
theorem dvi_25 : decode prog_35_method_1_code 25 = .ok (.iload_n 3, 1) := by decide +kernel
theorem dvi_26 : decode prog_35_method_1_code 26 = .ok (.putfield 29, 3) := by decide +kernel
theorem dvi_29 : decode prog_35_method_1_code 29 = .ok (.return_, 1) := by decide +kernel
set_option maxRecDepth 65536 in
set_option maxHeartbeats 4000000 in
theorem rmvi (l : Launch) {Z : State} {a0 : Array Value} (G : OG Z a0) (n0 : Nat) (a t : Addr) (N : Nat) (cs : List Int32) (s e : Int32) (h0 : Heap) (T : UV Z h0 N t cs) (q1 : ¬ s < 0) (q2 : ¬ e < s) (q3 : ¬ (5 : Int32) < e) (E : Exa Z h0 a "com/example/auscult/auscult/SortValue") (F0 : Fld Z h0 a "com/example/auscult/auscult/SortValue" "key" "Ljava/lang/String;" .null) (F1 : Fld Z h0 a "com/example/auscult/auscult/SortValue" "start" "I" (.int 0)) (F2 : Fld Z h0 a "com/example/auscult/auscult/SortValue" "end" "I" (.int 0)) (ga : n0 ≤ a) : oCon l Z n0 (⟨"com/example/auscult/auscult/SortValue", "<init>", "(Ljava/lang/String;II)V"⟩ : MethodName) ivi #[.ref a, .ref t, .int s, .int e] h0 (fun v h => v = none ∧ Keep h0 h [a] ∧ Exa Z h a "com/example/auscult/auscult/SortValue" ∧ Fld Z h a "com/example/auscult/auscult/SortValue" "key" "Ljava/lang/String;" (.ref t) ∧ Fld Z h a "com/example/auscult/auscult/SortValue" "start" "I" (.int s) ∧ Fld Z h a "com/example/auscult/auscult/SortValue" "end" "I" (.int e)) := by
  obtain ⟨hw, ⟨cmp, hC, hc0⟩, ⟨fm, hfm, hF⟩, hAs, hHi, hLo⟩ := id G
  refine oCon.mk pnvi rfl rfl (efvi a t s e) fun C hCl => ?_
  refine s_aloadN (pc' := 1) dvi_0 rfl rfl rfl ?_
  refine s_callI0 (rmre C.l G n0 a h0) rfl rfl (hw _ (List.mem_of_getElem? (i := 37) rfl)) (hw _ (List.mem_of_getElem? (i := 38) rfl)) (hw _ (List.mem_of_getElem? (i := 40) rfl)) (hw _ (List.mem_of_getElem? (i := 41) rfl)) (by decide) (o_len pdre rfl) rfl (pc' := 4) dvi_1 rfl (Nat.le_of_ble_eq_true rfl) (Nat.le_of_ble_eq_true rfl) (Nat.le_of_ble_eq_true rfl) (Nat.le_of_ble_eq_true rfl) (fun v1 h1 hQ1 => ?_)
  obtain ⟨rfl, rfl⟩ := hQ1
  dsimp only [oPush]
  refine s_iloadN (pc' := 5) dvi_4 rfl rfl ?_
  refine s_iloadN (pc' := 6) dvi_5 rfl rfl ?_
  refine s_aloadN (pc' := 7) dvi_6 rfl rfl rfl ?_
  refine s_callV0 (rmsL C.l G n0 t N cs _ T) T.exa (hw _ (List.mem_of_getElem? (i := 43) rfl)) (hw _ (List.mem_of_getElem? (i := 44) rfl)) (hw _ (List.mem_of_getElem? (i := 46) rfl)) (hw _ (List.mem_of_getElem? (i := 45) rfl)) (o_nf (hw _ (List.mem_of_getElem? (i := 46) rfl)) rfl) (hw _ (List.mem_of_getElem? (i := 4) rfl)) (hw _ (List.mem_of_getElem? (i := 47) rfl)) (by decide) (o_len pdsL rfl) rfl (pc' := 10) dvi_7 rfl (Nat.le_of_ble_eq_true rfl) (Nat.le_of_ble_eq_true rfl) (Nat.le_of_ble_eq_true rfl) (Nat.le_of_ble_eq_true rfl) (fun v7 h7 hQ7 => ?_)
  obtain ⟨rfl, rfl⟩ := hQ7
  dsimp only [oPush]
  refine s_callS3 (rmof C.l G n0 s e 5 _ q1 q2 q3) (hw _ (List.mem_of_getElem? (i := 53) rfl)) (hw _ (List.mem_of_getElem? (i := 54) rfl)) (hw _ (List.mem_of_getElem? (i := 55) rfl)) (hw _ (List.mem_of_getElem? (i := 56) rfl)) (by decide) (o_len pdof rfl) rfl (pc' := 13) dvi_10 rfl (Nat.le_of_ble_eq_true rfl) (Nat.le_of_ble_eq_true rfl) (Nat.le_of_ble_eq_true rfl) (Nat.le_of_ble_eq_true rfl) (fun v10 h10 hQ10 => ?_)
  obtain ⟨rfl, rfl⟩ := hQ10
  dsimp only [oPush]
  refine s_pop (pc' := 14) dvi_13 rfl rfl ?_
  refine s_aloadN (pc' := 15) dvi_14 rfl rfl rfl ?_
  refine s_aloadN (pc' := 16) dvi_15 rfl rfl rfl ?_
  refine s_putF F0 E ga (host := "") (Or.inl (hw _ (List.mem_of_getElem? (i := 61) rfl))) Via.refl (Or.inr ⟨(hw _ (List.mem_of_getElem? (i := 62) rfl)), rfl, rfl⟩) (hw _ (List.mem_of_getElem? (i := 32) rfl)) (ty := (.object "java/lang/String")) (by decide) rfl rfl (pc' := 19) dvi_16 rfl (fun h16 W16 => ?_)
  refine s_aloadN (pc' := 20) dvi_19 rfl rfl rfl ?_
  refine s_iloadN (pc' := 21) dvi_20 rfl rfl ?_
  refine s_putF (F1.other W16 (Or.inr (slot_ne (Or.inr (hw _ (List.mem_of_getElem? (i := 64) rfl))) (Or.inr (hw _ (List.mem_of_getElem? (i := 62) rfl))) (by decide) (t := .int) (t' := (.object "java/lang/String")) (by decide) (by decide)))) (E.wr W16) ga (host := "") (Or.inl (hw _ (List.mem_of_getElem? (i := 63) rfl))) Via.refl (Or.inr ⟨(hw _ (List.mem_of_getElem? (i := 64) rfl)), rfl, rfl⟩) (hw _ (List.mem_of_getElem? (i := 32) rfl)) (ty := .int) (by decide) rfl rfl (pc' := 24) dvi_21 rfl (fun h21 W21 => ?_)
  refine s_aloadN (pc' := 25) dvi_24 rfl rfl rfl ?_
  refine s_iloadN (pc' := 26) dvi_25 rfl rfl ?_
  refine s_putF ((F2.other W16 (Or.inr (slot_ne (Or.inr (hw _ (List.mem_of_getElem? (i := 66) rfl))) (Or.inr (hw _ (List.mem_of_getElem? (i := 62) rfl))) (by decide) (t := .int) (t' := (.object "java/lang/String")) (by decide) (by decide)))).other W21 (Or.inr (slot_ne (Or.inr (hw _ (List.mem_of_getElem? (i := 66) rfl))) (Or.inr (hw _ (List.mem_of_getElem? (i := 64) rfl))) (by decide) (t := .int) (t' := .int) (by decide) (by decide)))) ((E.wr W16).wr W21) ga (host := "") (Or.inl (hw _ (List.mem_of_getElem? (i := 65) rfl))) Via.refl (Or.inr ⟨(hw _ (List.mem_of_getElem? (i := 66) rfl)), rfl, rfl⟩) (hw _ (List.mem_of_getElem? (i := 32) rfl)) (ty := .int) (by decide) rfl rfl (pc' := 29) dvi_26 rfl (fun h26 W26 => ?_)
  exact s_ret rfl dvi_29 (by decide) (by decide) ⟨rfl, ((Keep.of_wr W16).wr W21 (Or.inl (List.mem_cons_self ..))).wr W26 (Or.inl (List.mem_cons_self ..)), ((E.wr W16).wr W21).wr W26, (((F0.same W16).other W21 (Or.inr (slot_ne (Or.inr (hw _ (List.mem_of_getElem? (i := 62) rfl))) (Or.inr (hw _ (List.mem_of_getElem? (i := 64) rfl))) (by decide) (t := (.object "java/lang/String")) (t' := .int) (by decide) (by decide)))).other W26 (Or.inr (slot_ne (Or.inr (hw _ (List.mem_of_getElem? (i := 62) rfl))) (Or.inr (hw _ (List.mem_of_getElem? (i := 66) rfl))) (by decide) (t := (.object "java/lang/String")) (t' := .int) (by decide) (by decide)))), (((F1.other W16 (Or.inr (slot_ne (Or.inr (hw _ (List.mem_of_getElem? (i := 64) rfl))) (Or.inr (hw _ (List.mem_of_getElem? (i := 62) rfl))) (by decide) (t := .int) (t' := (.object "java/lang/String")) (by decide) (by decide)))).same W21).other W26 (Or.inr (slot_ne (Or.inr (hw _ (List.mem_of_getElem? (i := 64) rfl))) (Or.inr (hw _ (List.mem_of_getElem? (i := 66) rfl))) (by decide) (t := .int) (t' := .int) (by decide) (by decide)))), (((F2.other W16 (Or.inr (slot_ne (Or.inr (hw _ (List.mem_of_getElem? (i := 66) rfl))) (Or.inr (hw _ (List.mem_of_getElem? (i := 62) rfl))) (by decide) (t := .int) (t' := (.object "java/lang/String")) (by decide) (by decide)))).other W21 (Or.inr (slot_ne (Or.inr (hw _ (List.mem_of_getElem? (i := 66) rfl))) (Or.inr (hw _ (List.mem_of_getElem? (i := 64) rfl))) (by decide) (t := .int) (t' := .int) (by decide) (by decide)))).same W26)⟩
def hsh (cs : List Int32) : Nat → Nat → Int32 → Int32
  | _, 0, a => a
  | i, k + 1, a => hsh cs (i + 1) k (31 * a + cs.getD i 0)
def ihc : OInfo := ("com/example/auscult/auscult/SortValue", prog_35_method_7_code, 3, (some .int), "hashCode", ({ frames := 5, cells := 0, slots := 0, locals := 67 } : Room))
theorem pdhc : parseMethodDescriptor "()I" = some ⟨[], some .int⟩ := by decide +kernel
theorem pnhc : plainFor (⟨"com/example/auscult/auscult/SortValue", "hashCode", "()I"⟩ : MethodName) = true := by decide +kernel
theorem efhc (x0 : Addr) (m : MethodId) : entryFrame m #[(.ref x0)] 3 = mkF m 0 #[.val (.ref x0), .unset, .unset] [] := by first | (simp [entryFrame, mkF, argsToLocals, Value.category]; done) | rfl
theorem dhc_0 : decode prog_35_method_7_code 0 = .ok (.iconst 0, 1) := by decide +kernel
theorem dhc_1 : decode prog_35_method_7_code 1 = .ok (.istore_n 1, 1) := by decide +kernel
theorem dhc_2 : decode prog_35_method_7_code 2 = .ok (.aload_n 0, 1) := by decide +kernel
theorem dhc_3 : decode prog_35_method_7_code 3 = .ok (.getfield 25, 3) := by decide +kernel
theorem dhc_6 : decode prog_35_method_7_code 6 = .ok (.istore_n 2, 1) := by decide +kernel
theorem dhc_7 : decode prog_35_method_7_code 7 = .ok (.iload_n 2, 1) := by decide +kernel
theorem dhc_8 : decode prog_35_method_7_code 8 = .ok (.aload_n 0, 1) := by decide +kernel
theorem dhc_9 : decode prog_35_method_7_code 9 = .ok (.getfield 29, 3) := by decide +kernel
theorem dhc_12 : decode prog_35_method_7_code 12 = .ok (.if_icmp .ge 23, 3) := by decide +kernel
theorem dhc_15 : decode prog_35_method_7_code 15 = .ok (.bipush 31, 2) := by decide +kernel
theorem dhc_17 : decode prog_35_method_7_code 17 = .ok (.iload_n 1, 1) := by decide +kernel
theorem dhc_18 : decode prog_35_method_7_code 18 = .ok (.imul, 1) := by decide +kernel
theorem dhc_19 : decode prog_35_method_7_code 19 = .ok (.aload_n 0, 1) := by decide +kernel
theorem dhc_20 : decode prog_35_method_7_code 20 = .ok (.getfield 19, 3) := by decide +kernel
theorem dhc_23 : decode prog_35_method_7_code 23 = .ok (.iload_n 2, 1) := by decide +kernel
theorem dhc_24 : decode prog_35_method_7_code 24 = .ok (.invokevirtual 45, 3) := by decide +kernel
theorem dhc_27 : decode prog_35_method_7_code 27 = .ok (.iadd, 1) := by decide +kernel
theorem dhc_28 : decode prog_35_method_7_code 28 = .ok (.istore_n 1, 1) := by decide +kernel
theorem dhc_29 : decode prog_35_method_7_code 29 = .ok (.iinc 2 1, 3) := by decide +kernel
theorem dhc_32 : decode prog_35_method_7_code 32 = .ok (.goto (-25), 3) := by decide +kernel
theorem dhc_35 : decode prog_35_method_7_code 35 = .ok (.iload_n 1, 1) := by decide +kernel
theorem dhc_36 : decode prog_35_method_7_code 36 = .ok (.ireturn, 1) := by decide +kernel
set_option maxRecDepth 65536 in
set_option maxHeartbeats 4000000 in
theorem hcloop {C : OCtx} {Z : State} {a0 : Array Value} (G : OG Z a0) {n0 : Nat} {Q : Option Value → Heap → Prop} {a t : Addr} {N : Nat} {cs : List Int32} {e : Nat} {s0 : Int32} (hn : cs.length = 5) (hch : C16 cs) (k : Nat) : ∀ (h : Heap) (i : Nat) (acc : Int32), i ≤ e → e ≤ 5 → e - i = k → Fld Z h a "com/example/auscult/auscult/SortValue" "key" "Ljava/lang/String;" (.ref t) → Fld Z h a "com/example/auscult/auscult/SortValue" "start" "I" (.int s0) → Fld Z h a "com/example/auscult/auscult/SortValue" "end" "I" (.int (Int32.ofNat e)) → UV Z h N t cs → Q (some (.int (hsh cs i (e - i) acc))) h →
    oRun C Z n0 ihc Q h 0 0 (mkF C.m 7 #[.val (.ref a), .val (.int acc), .val (.int (Int32.ofNat i))] []) := by
  induction k using Nat.strongRecOn with
  | _ k ih =>
  intro h i acc hi he hk F0 F1 F2 T fin
  subst hk
  have hw := G.1
  refine s_iloadN (pc' := 8) dhc_7 rfl rfl ?_
  refine s_aloadN (pc' := 9) dhc_8 rfl rfl rfl ?_
  refine s_getF F2 (host := "") (Or.inl (hw _ (List.mem_of_getElem? (i := 65) rfl))) Via.refl (pc' := 12) dhc_9 rfl ?_
  refine s_icmp (pc' := 15) (pc'' := 35) dhc_12 rfl (by decide) rfl (fun hc12 => ?_) (fun hc12 => ?_)
  · replace hc12 := b_ge hc12
    obtain rfl : i = e := by
      by_cases q : i < e
      · exact absurd (lt' (by omega) q) hc12
      · omega
    rw [Nat.sub_self] at fin
    refine s_iloadN (pc' := 36) dhc_35 rfl rfl ?_
    exact s_iret rfl dhc_36 (by decide) (by decide) fin
  · replace hc12 := b_geF hc12
    have hi2 : i < e := by
      by_cases q : i < e
      · exact q
      · exact absurd hc12 (nlt' (by omega) (by omega))
    obtain ⟨z, hz⟩ : ∃ z, cs[i]? = some z := ⟨cs[i]'(by omega), List.getElem?_eq_getElem (by omega)⟩
    rw [show e - i = (e - (i + 1)) + 1 by omega, hsh, show cs.getD i 0 = z by rw [List.getD_eq_getElem?_getD, hz]; rfl] at fin
    refine s_bipush (x := (31 : Int32)) (pc' := 17) dhc_15 rfl rfl ?_
    refine s_iloadN (pc' := 18) dhc_17 rfl rfl ?_
    refine s_imul (pc' := 19) dhc_18 rfl ?_
    refine s_aloadN (pc' := 20) dhc_19 rfl rfl rfl ?_
    refine s_getF F0 (host := "") (Or.inl (hw _ (List.mem_of_getElem? (i := 61) rfl))) Via.refl (pc' := 23) dhc_20 rfl ?_
    refine s_iloadN (pc' := 24) dhc_23 rfl rfl ?_
    refine s_callV1 (rmsH C.l G n0 t N cs i z _ hn hch hz T) T.exa (hw _ (List.mem_of_getElem? (i := 98) rfl)) (hw _ (List.mem_of_getElem? (i := 99) rfl)) (hw _ (List.mem_of_getElem? (i := 101) rfl)) (hw _ (List.mem_of_getElem? (i := 100) rfl)) (o_nf (hw _ (List.mem_of_getElem? (i := 101) rfl)) rfl) (hw _ (List.mem_of_getElem? (i := 4) rfl)) (hw _ (List.mem_of_getElem? (i := 102) rfl)) (by decide) (o_len pdsH rfl) rfl (pc' := 27) dhc_24 rfl (Nat.le_of_ble_eq_true rfl) (Nat.le_of_ble_eq_true rfl) (Nat.le_of_ble_eq_true rfl) (Nat.le_of_ble_eq_true rfl) (fun v24 h24 hQ24 => ?_)
    obtain ⟨rfl, rfl⟩ := hQ24
    dsimp only [oPush]
    refine s_iadd (pc' := 28) dhc_27 rfl ?_
    refine s_istoreN (kn := 1) rfl (pc' := 29) dhc_28 rfl (o_st rfl (by first | exact One.u | exact One.val rfl | assumption) rfl) ?_
    dsimp only [List.set_cons_succ, List.set_cons_zero]
    refine s_iinc (y := (1 : Int32)) (pc' := 32) dhc_29 rfl rfl rfl (o_st rfl (by first | exact One.u | exact One.val rfl | assumption) rfl) ?_
    dsimp only [List.set_cons_succ, List.set_cons_zero]
    rw [n_succ]
    refine s_goto (pc' := 7) dhc_32 (by decide) rfl ?_
    exact ih (e - (i + 1)) (by omega) _ (i + 1) _ (by omega) he rfl F0 F1 F2 T fin
set_option maxRecDepth 65536 in
set_option maxHeartbeats 4000000 in
theorem rmhc (l : Launch) {Z : State} {a0 : Array Value} (G : OG Z a0) (n0 : Nat) (a t : Addr) (N : Nat) (cs : List Int32) (s e : Nat) (h0 : Heap) (hn : cs.length = 5) (hch : C16 cs) (hse : s ≤ e) (he : e ≤ 5) (F0 : Fld Z h0 a "com/example/auscult/auscult/SortValue" "key" "Ljava/lang/String;" (.ref t)) (F1 : Fld Z h0 a "com/example/auscult/auscult/SortValue" "start" "I" (.int (Int32.ofNat s))) (F2 : Fld Z h0 a "com/example/auscult/auscult/SortValue" "end" "I" (.int (Int32.ofNat e))) (T : UV Z h0 N t cs) : oCon l Z n0 (⟨"com/example/auscult/auscult/SortValue", "hashCode", "()I"⟩ : MethodName) ihc #[.ref a] h0 (fun v h => v = some (.int (hsh cs s (e - s) 0)) ∧ h = h0) := by
  obtain ⟨hw, ⟨cmp, hC, hc0⟩, ⟨fm, hfm, hF⟩, hAs, hHi, hLo⟩ := id G
  refine oCon.mk pnhc rfl rfl (efhc a) fun C hCl => ?_
  refine s_iconst (x := (0 : Int32)) (pc' := 1) dhc_0 rfl rfl ?_
  refine s_istoreN (kn := 1) rfl (pc' := 2) dhc_1 rfl (o_st rfl (by first | exact One.u | exact One.val rfl | assumption) rfl) ?_
  dsimp only [List.set_cons_succ, List.set_cons_zero]
  refine s_aloadN (pc' := 3) dhc_2 rfl rfl rfl ?_
  refine s_getF F1 (host := "") (Or.inl (hw _ (List.mem_of_getElem? (i := 63) rfl))) Via.refl (pc' := 6) dhc_3 rfl ?_
  refine s_istoreN (kn := 2) rfl (pc' := 7) dhc_6 rfl (o_st rfl (by first | exact One.u | exact One.val rfl | assumption) rfl) ?_
  dsimp only [List.set_cons_succ, List.set_cons_zero]
  exact hcloop G hn hch (e - s) h0 s 0 hse he rfl F0 F1 F2 T ⟨rfl, rfl⟩
def p31 (k : Int32) : Int32 := if k = 0 then 1 else if k = 1 then 31 else if k = 2 then 961 else if k = 3 then 29791 else 923521
def ipw : OInfo := ("com/example/auscult/auscult/SortValueHashCodePinLaw", method_4_code, 1, (some .int), "pow31", ({ frames := 0, cells := 0, slots := 0, locals := 0 } : Room))
theorem pdpw : parseMethodDescriptor "(I)I" = some ⟨[.int], some .int⟩ := by decide +kernel
theorem pnpw : plainFor (⟨"com/example/auscult/auscult/SortValueHashCodePinLaw", "pow31", "(I)I"⟩ : MethodName) = true := by decide +kernel
theorem efpw (x0 : Int32) (m : MethodId) : entryFrame m #[(.int x0)] 1 = mkF m 0 #[.val (.int x0)] [] := by first | (simp [entryFrame, mkF, argsToLocals, Value.category]; done) | rfl
theorem dpw_0 : decode method_4_code 0 = .ok (.iload_n 0, 1) := by decide +kernel
theorem dpw_1 : decode method_4_code 1 = .ok (.ifCond .ne 5, 3) := by decide +kernel
theorem dpw_4 : decode method_4_code 4 = .ok (.iconst 1, 1) := by decide +kernel
theorem dpw_5 : decode method_4_code 5 = .ok (.ireturn, 1) := by decide +kernel
theorem dpw_6 : decode method_4_code 6 = .ok (.iload_n 0, 1) := by decide +kernel
theorem dpw_7 : decode method_4_code 7 = .ok (.iconst 1, 1) := by decide +kernel
theorem dpw_8 : decode method_4_code 8 = .ok (.if_icmp .ne 6, 3) := by decide +kernel
theorem dpw_11 : decode method_4_code 11 = .ok (.bipush 31, 2) := by decide +kernel
theorem dpw_13 : decode method_4_code 13 = .ok (.ireturn, 1) := by decide +kernel
theorem dpw_14 : decode method_4_code 14 = .ok (.iload_n 0, 1) := by decide +kernel
theorem dpw_15 : decode method_4_code 15 = .ok (.iconst 2, 1) := by decide +kernel
theorem dpw_16 : decode method_4_code 16 = .ok (.if_icmp .ne 7, 3) := by decide +kernel
theorem dpw_19 : decode method_4_code 19 = .ok (.sipush 961, 3) := by decide +kernel
theorem dpw_22 : decode method_4_code 22 = .ok (.ireturn, 1) := by decide +kernel
theorem dpw_23 : decode method_4_code 23 = .ok (.iload_n 0, 1) := by decide +kernel
theorem dpw_24 : decode method_4_code 24 = .ok (.iconst 3, 1) := by decide +kernel
theorem dpw_25 : decode method_4_code 25 = .ok (.if_icmp .ne 7, 3) := by decide +kernel
theorem dpw_28 : decode method_4_code 28 = .ok (.sipush 29791, 3) := by decide +kernel
theorem dpw_31 : decode method_4_code 31 = .ok (.ireturn, 1) := by decide +kernel
theorem dpw_32 : decode method_4_code 32 = .ok (.ldc 32, 2) := by decide +kernel
theorem dpw_34 : decode method_4_code 34 = .ok (.ireturn, 1) := by decide +kernel
set_option maxRecDepth 65536 in
set_option maxHeartbeats 4000000 in
theorem rmpw (l : Launch) {Z : State} {a0 : Array Value} (G : OG Z a0) (n0 : Nat) (k : Int32) (h0 : Heap) : oCon l Z n0 (⟨"com/example/auscult/auscult/SortValueHashCodePinLaw", "pow31", "(I)I"⟩ : MethodName) ipw #[.int k] h0 (fun v h => v = some (.int (p31 k)) ∧ h = h0) := by
  obtain ⟨hw, ⟨cmp, hC, hc0⟩, ⟨fm, hfm, hF⟩, hAs, hHi, hLo⟩ := id G
  refine oCon.mk pnpw rfl rfl (efpw k) fun C hCl => ?_
  refine s_iloadN (pc' := 1) dpw_0 rfl rfl ?_
  refine s_if (pc' := 4) (pc'' := 6) dpw_1 rfl (by decide) rfl (fun hc1 => ?_) (fun hc1 => ?_)
  · replace hc1 := b_ne hc1
    refine s_iloadN (pc' := 7) dpw_6 rfl rfl ?_
    refine s_iconst (x := (1 : Int32)) (pc' := 8) dpw_7 rfl rfl ?_
    refine s_icmp (pc' := 11) (pc'' := 14) dpw_8 rfl (by decide) rfl (fun hc8 => ?_) (fun hc8 => ?_)
    · replace hc8 := b_ne hc8
      refine s_iloadN (pc' := 15) dpw_14 rfl rfl ?_
      refine s_iconst (x := (2 : Int32)) (pc' := 16) dpw_15 rfl rfl ?_
      refine s_icmp (pc' := 19) (pc'' := 23) dpw_16 rfl (by decide) rfl (fun hc16 => ?_) (fun hc16 => ?_)
      · replace hc16 := b_ne hc16
        refine s_iloadN (pc' := 24) dpw_23 rfl rfl ?_
        refine s_iconst (x := (3 : Int32)) (pc' := 25) dpw_24 rfl rfl ?_
        refine s_icmp (pc' := 28) (pc'' := 32) dpw_25 rfl (by decide) rfl (fun hc25 => ?_) (fun hc25 => ?_)
        · replace hc25 := b_ne hc25
          refine s_ldcI (x := (923521 : Int32)) (hw _ (List.mem_of_getElem? (i := 124) rfl)) (pc' := 34) dpw_32 rfl ?_
          exact s_iret rfl dpw_34 (by decide) (by decide) ⟨by simp_all [p31], rfl⟩
        · replace hc25 := b_neF hc25
          refine s_sipush (x := (29791 : Int32)) (pc' := 31) dpw_28 rfl rfl ?_
          exact s_iret rfl dpw_31 (by decide) (by decide) ⟨by simp_all [p31], rfl⟩
      · replace hc16 := b_neF hc16
        refine s_sipush (x := (961 : Int32)) (pc' := 22) dpw_19 rfl rfl ?_
        exact s_iret rfl dpw_22 (by decide) (by decide) ⟨by simp_all [p31], rfl⟩
    · replace hc8 := b_neF hc8
      refine s_bipush (x := (31 : Int32)) (pc' := 13) dpw_11 rfl rfl ?_
      exact s_iret rfl dpw_13 (by decide) (by decide) ⟨by simp_all [p31], rfl⟩
  · replace hc1 := b_neF hc1
    refine s_iconst (x := (1 : Int32)) (pc' := 5) dpw_4 rfl rfl ?_
    exact s_iret rfl dpw_5 (by decide) (by decide) ⟨by simp_all [p31], rfl⟩
def trm (z : Int32) (i s e : Int32) : Int32 := if i < s ∨ ¬ i < e then 0 else z * p31 (e - 1 - i)
def itm : OInfo := ("com/example/auscult/auscult/SortValueHashCodePinLaw", method_3_code, 4, (some .int), "term", ({ frames := 1, cells := 0, slots := 0, locals := 13 } : Room))
theorem pdtm : parseMethodDescriptor "([CIII)I" = some ⟨[(.array .char), .int, .int, .int], some .int⟩ := by decide +kernel
theorem pntm : plainFor (⟨"com/example/auscult/auscult/SortValueHashCodePinLaw", "term", "([CIII)I"⟩ : MethodName) = true := by decide +kernel
theorem eftm (x0 : Addr) (x1 : Int32) (x2 : Int32) (x3 : Int32) (m : MethodId) : entryFrame m #[(.ref x0), (.int x1), (.int x2), (.int x3)] 4 = mkF m 0 #[.val (.ref x0), .val (.int x1), .val (.int x2), .val (.int x3)] [] := by first | (simp [entryFrame, mkF, argsToLocals, Value.category]; done) | rfl
theorem dtm_0 : decode method_3_code 0 = .ok (.iload_n 1, 1) := by decide +kernel
theorem dtm_1 : decode method_3_code 1 = .ok (.iload_n 2, 1) := by decide +kernel
theorem dtm_2 : decode method_3_code 2 = .ok (.if_icmp .lt 8, 3) := by decide +kernel
theorem dtm_5 : decode method_3_code 5 = .ok (.iload_n 1, 1) := by decide +kernel
theorem dtm_6 : decode method_3_code 6 = .ok (.iload_n 3, 1) := by decide +kernel
theorem dtm_7 : decode method_3_code 7 = .ok (.if_icmp .lt 5, 3) := by decide +kernel
theorem dtm_10 : decode method_3_code 10 = .ok (.iconst 0, 1) := by decide +kernel
theorem dtm_11 : decode method_3_code 11 = .ok (.ireturn, 1) := by decide +kernel
theorem dtm_12 : decode method_3_code 12 = .ok (.aload_n 0, 1) := by decide +kernel
theorem dtm_13 : decode method_3_code 13 = .ok (.iload_n 1, 1) := by decide +kernel
theorem dtm_14 : decode method_3_code 14 = .ok (.caload, 1) := by decide +kernel
theorem dtm_15 : decode method_3_code 15 = .ok (.iload_n 3, 1) := by decide +kernel
theorem dtm_16 : decode method_3_code 16 = .ok (.iconst 1, 1) := by decide +kernel
theorem dtm_17 : decode method_3_code 17 = .ok (.isub, 1) := by decide +kernel
theorem dtm_18 : decode method_3_code 18 = .ok (.iload_n 1, 1) := by decide +kernel
theorem dtm_19 : decode method_3_code 19 = .ok (.isub, 1) := by decide +kernel
theorem dtm_20 : decode method_3_code 20 = .ok (.invokestatic 28, 3) := by decide +kernel
theorem dtm_23 : decode method_3_code 23 = .ok (.imul, 1) := by decide +kernel
theorem dtm_24 : decode method_3_code 24 = .ok (.ireturn, 1) := by decide +kernel
set_option maxRecDepth 65536 in
set_option maxHeartbeats 4000000 in
theorem rmtm (l : Launch) {Z : State} {a0 : Array Value} (G : OG Z a0) (n0 : Nat) (c : Addr) (kc : ClassId) (cs : List Int32) (dv : Value) (i : Nat) (z s e : Int32) (h0 : Heap) (hj : i < 5) (hz : cs[i]? = some z) (A : Arv Z h0 c kc .char 5 (cs.map .int) dv) : oCon l Z n0 (⟨"com/example/auscult/auscult/SortValueHashCodePinLaw", "term", "([CIII)I"⟩ : MethodName) itm #[.ref c, .int (Int32.ofNat i), .int s, .int e] h0 (fun v h => v = some (.int (trm z (Int32.ofNat i) s e)) ∧ h = h0) := by
  obtain ⟨hw, ⟨cmp, hC, hc0⟩, ⟨fm, hfm, hF⟩, hAs, hHi, hLo⟩ := id G
  refine oCon.mk pntm rfl rfl (eftm c _ s e) fun C hCl => ?_
  refine s_iloadN (pc' := 1) dtm_0 rfl rfl ?_
  refine s_iloadN (pc' := 2) dtm_1 rfl rfl ?_
  refine s_icmp (pc' := 5) (pc'' := 10) dtm_2 rfl (by decide) rfl (fun hc2 => ?_) (fun hc2 => ?_)
  · replace hc2 := b_lt hc2
    refine s_iconst (x := (0 : Int32)) (pc' := 11) dtm_10 rfl rfl ?_
    exact s_iret rfl dtm_11 (by decide) (by decide) ⟨by rw [trm, if_pos (by first | exact Or.inl hc2 | exact Or.inr hc7)], rfl⟩
  · replace hc2 := b_ltF hc2
    refine s_iloadN (pc' := 6) dtm_5 rfl rfl ?_
    refine s_iloadN (pc' := 7) dtm_6 rfl rfl ?_
    refine s_icmp (pc' := 10) (pc'' := 12) dtm_7 rfl (by decide) rfl (fun hc7 => ?_) (fun hc7 => ?_)
    · replace hc7 := b_lt hc7
      refine s_aloadN (pc' := 13) dtm_12 rfl rfl rfl ?_
      refine s_iloadN (pc' := 14) dtm_13 rfl rfl ?_
      refine s_caload A (nn (by omega)) (f_lt hj) (v := .int z) (by rw [cl (by omega)]; exact cs_get hz _) (pc' := 15) dtm_14 rfl ?_
      refine s_iloadN (pc' := 16) dtm_15 rfl rfl ?_
      refine s_iconst (x := (1 : Int32)) (pc' := 17) dtm_16 rfl rfl ?_
      refine s_isub (pc' := 18) dtm_17 rfl ?_
      refine s_iloadN (pc' := 19) dtm_18 rfl rfl ?_
      refine s_isub (pc' := 20) dtm_19 rfl ?_
      refine s_callS1 (rmpw C.l G n0 _ h0) (hw _ (List.mem_of_getElem? (i := 95) rfl)) (hw _ (List.mem_of_getElem? (i := 96) rfl)) (hw _ (List.mem_of_getElem? (i := 69) rfl)) (hw _ (List.mem_of_getElem? (i := 97) rfl)) (by decide) (o_len pdpw rfl) rfl (pc' := 23) dtm_20 rfl (Nat.le_of_ble_eq_true rfl) (Nat.le_of_ble_eq_true rfl) (Nat.le_of_ble_eq_true rfl) (Nat.le_of_ble_eq_true rfl) (fun v20 h20 hQ20 => ?_)
      obtain ⟨rfl, rfl⟩ := hQ20
      dsimp only [oPush]
      refine s_imul (pc' := 24) dtm_23 rfl ?_
      exact s_iret rfl dtm_24 (by decide) (by decide) ⟨by rw [trm, if_neg (fun q => q.elim hc2 fun q => q hc7)], rfl⟩
    · replace hc7 := b_ltF hc7
      refine s_iconst (x := (0 : Int32)) (pc' := 11) dtm_10 rfl rfl ?_
      exact s_iret rfl dtm_11 (by decide) (by decide) ⟨by rw [trm, if_pos (by first | exact Or.inl hc2 | exact Or.inr hc7)], rfl⟩
def i0 : OInfo := ("com/example/auscult/auscult/SortValueHashCodePinLaw", code, maxLocals, (some .boolean), "law", room_1)
theorem ef0 (x0 : Int32) (x1 : Int32) (x2 : Int32) (x3 : Int32) (m : MethodId) : entryFrame m #[(.int x0), (.int x1), (.int x2), (.int x3)] maxLocals = mkF m 0 #[.val (.int x0), .val (.int x1), .val (.int x2), .val (.int x3), .unset, .unset, .unset, .unset, .unset, .unset] [] := by first | (simp [entryFrame, mkF, argsToLocals, Value.category, maxLocals]; done) | rfl
theorem s_r (r : Int32) : ∃ s : Nat, s ≤ 5 ∧ (r &&& 255) % 6 = Int32.ofNat s := by
  have h1 := c_and r 255 (by decide)
  have h2 := (c_irem (r &&& 255) 6 6 rfl).1 h1.1
  refine ⟨((r &&& 255) % 6).toInt.toNat, by omega, ?_⟩
  rw [o_eq, Int32.toInt_ofNat_of_lt (by omega)]; omega
theorem e_r (q : Int32) {s : Nat} (hs : s ≤ 5) : ∃ e : Nat, s ≤ e ∧ e ≤ 5 ∧ Int32.ofNat s + (q &&& 255) % (6 - Int32.ofNat s) = Int32.ofNat e := by
  have h1 := c_and q 255 (by decide)
  have e6 : (6 : Int32) - Int32.ofNat s = Int32.ofNat (6 - s) := Jvm.Free.XT.sub32n (a := 6) (by omega)
  have e7 : (Int32.ofNat (6 - s)).toInt = ((6 - s : Nat) : Int) := Int32.toInt_ofNat_of_lt (by omega)
  have h2 := (c_iremV (q &&& 255) (Int32.ofNat (6 - s))).1 h1.1 (by rw [e7]; omega)
  rw [e6]
  rw [e7] at h2
  refine ⟨s + ((q &&& 255) % Int32.ofNat (6 - s)).toInt.toNat, by omega, by omega, ?_⟩
  have e8 : (q &&& 255) % Int32.ofNat (6 - s) = Int32.ofNat ((q &&& 255) % Int32.ofNat (6 - s)).toInt.toNat := by
    rw [o_eq, Int32.toInt_ofNat_of_lt (by omega)]; omega
  conv => lhs; rw [e8]
  exact Jvm.Free.XT.add32n _ _
theorem six_ne {s : Nat} (hs : s ≤ 5) : (6 : Int32) - Int32.ofNat s ≠ 0 := (by decide : ∀ i : Fin 6, (6 : Int32) - Int32.ofNat i.1 ≠ 0) ⟨s, by omega⟩
theorem trm_o {x i s e : Int32} (h : i < s ∨ ¬ i < e) : trm x i s e = 0 := if_pos h
theorem trm_i {x i s e k : Int32} (h : ¬ (i < s ∨ ¬ i < e)) (hk : p31 (e - 1 - i) = k) : trm x i s e = x * k := by rw [trm, if_neg h, hk]
theorem i_00 (x0 x1 x2 x3 x4 : Int32) : (0 : Int32) = 0 + 0 + 0 + 0 + 0 := by grind
theorem i_01 (x0 x1 x2 x3 x4 : Int32) : 31 * 0 + x0 = x0 * 1 + 0 + 0 + 0 + 0 := by grind
theorem i_02 (x0 x1 x2 x3 x4 : Int32) : 31 * (31 * 0 + x0) + x1 = x0 * 31 + x1 * 1 + 0 + 0 + 0 := by grind
theorem i_03 (x0 x1 x2 x3 x4 : Int32) : 31 * (31 * (31 * 0 + x0) + x1) + x2 = x0 * 961 + x1 * 31 + x2 * 1 + 0 + 0 := by grind
theorem i_04 (x0 x1 x2 x3 x4 : Int32) : 31 * (31 * (31 * (31 * 0 + x0) + x1) + x2) + x3 = x0 * 29791 + x1 * 961 + x2 * 31 + x3 * 1 + 0 := by grind
theorem i_05 (x0 x1 x2 x3 x4 : Int32) : 31 * (31 * (31 * (31 * (31 * 0 + x0) + x1) + x2) + x3) + x4 = x0 * 923521 + x1 * 29791 + x2 * 961 + x3 * 31 + x4 * 1 := by grind
theorem i_11 (x0 x1 x2 x3 x4 : Int32) : (0 : Int32) = 0 + 0 + 0 + 0 + 0 := by grind
theorem i_12 (x0 x1 x2 x3 x4 : Int32) : 31 * 0 + x1 = 0 + x1 * 1 + 0 + 0 + 0 := by grind
theorem i_13 (x0 x1 x2 x3 x4 : Int32) : 31 * (31 * 0 + x1) + x2 = 0 + x1 * 31 + x2 * 1 + 0 + 0 := by grind
theorem i_14 (x0 x1 x2 x3 x4 : Int32) : 31 * (31 * (31 * 0 + x1) + x2) + x3 = 0 + x1 * 961 + x2 * 31 + x3 * 1 + 0 := by grind
theorem i_15 (x0 x1 x2 x3 x4 : Int32) : 31 * (31 * (31 * (31 * 0 + x1) + x2) + x3) + x4 = 0 + x1 * 29791 + x2 * 961 + x3 * 31 + x4 * 1 := by grind
theorem i_22 (x0 x1 x2 x3 x4 : Int32) : (0 : Int32) = 0 + 0 + 0 + 0 + 0 := by grind
theorem i_23 (x0 x1 x2 x3 x4 : Int32) : 31 * 0 + x2 = 0 + 0 + x2 * 1 + 0 + 0 := by grind
theorem i_24 (x0 x1 x2 x3 x4 : Int32) : 31 * (31 * 0 + x2) + x3 = 0 + 0 + x2 * 31 + x3 * 1 + 0 := by grind
theorem i_25 (x0 x1 x2 x3 x4 : Int32) : 31 * (31 * (31 * 0 + x2) + x3) + x4 = 0 + 0 + x2 * 961 + x3 * 31 + x4 * 1 := by grind
theorem i_33 (x0 x1 x2 x3 x4 : Int32) : (0 : Int32) = 0 + 0 + 0 + 0 + 0 := by grind
theorem i_34 (x0 x1 x2 x3 x4 : Int32) : 31 * 0 + x3 = 0 + 0 + 0 + x3 * 1 + 0 := by grind
theorem i_35 (x0 x1 x2 x3 x4 : Int32) : 31 * (31 * 0 + x3) + x4 = 0 + 0 + 0 + x3 * 31 + x4 * 1 := by grind
theorem i_44 (x0 x1 x2 x3 x4 : Int32) : (0 : Int32) = 0 + 0 + 0 + 0 + 0 := by grind
theorem i_45 (x0 x1 x2 x3 x4 : Int32) : 31 * 0 + x4 = 0 + 0 + 0 + 0 + x4 * 1 := by grind
theorem i_55 (x0 x1 x2 x3 x4 : Int32) : (0 : Int32) = 0 + 0 + 0 + 0 + 0 := by grind
theorem law_plain (x0 x1 x2 x3 x4 : Int32) (s e : Nat) (hs : s ≤ e) (he : e ≤ 5) : hsh [x0, x1, x2, x3, x4] s (e - s) 0 = trm x0 (Int32.ofNat 0) (Int32.ofNat s) (Int32.ofNat e) + trm x1 (Int32.ofNat 1) (Int32.ofNat s) (Int32.ofNat e) + trm x2 (Int32.ofNat 2) (Int32.ofNat s) (Int32.ofNat e) + trm x3 (Int32.ofNat 3) (Int32.ofNat s) (Int32.ofNat e) + trm x4 (Int32.ofNat 4) (Int32.ofNat s) (Int32.ofNat e) := by
  match e, he, s, hs with
  | 0, _, 0, _ => rw [trm_o (x := x0) (by decide : Int32.ofNat 0 < Int32.ofNat 0 ∨ ¬ Int32.ofNat 0 < Int32.ofNat 0), trm_o (x := x1) (by decide : Int32.ofNat 1 < Int32.ofNat 0 ∨ ¬ Int32.ofNat 1 < Int32.ofNat 0), trm_o (x := x2) (by decide : Int32.ofNat 2 < Int32.ofNat 0 ∨ ¬ Int32.ofNat 2 < Int32.ofNat 0), trm_o (x := x3) (by decide : Int32.ofNat 3 < Int32.ofNat 0 ∨ ¬ Int32.ofNat 3 < Int32.ofNat 0), trm_o (x := x4) (by decide : Int32.ofNat 4 < Int32.ofNat 0 ∨ ¬ Int32.ofNat 4 < Int32.ofNat 0)]; exact i_00 x0 x1 x2 x3 x4
  | 1, _, 0, _ => rw [trm_i (x := x0) (by decide : ¬ (Int32.ofNat 0 < Int32.ofNat 0 ∨ ¬ Int32.ofNat 0 < Int32.ofNat 1)) (by decide : p31 (Int32.ofNat 1 - 1 - Int32.ofNat 0) = 1), trm_o (x := x1) (by decide : Int32.ofNat 1 < Int32.ofNat 0 ∨ ¬ Int32.ofNat 1 < Int32.ofNat 1), trm_o (x := x2) (by decide : Int32.ofNat 2 < Int32.ofNat 0 ∨ ¬ Int32.ofNat 2 < Int32.ofNat 1), trm_o (x := x3) (by decide : Int32.ofNat 3 < Int32.ofNat 0 ∨ ¬ Int32.ofNat 3 < Int32.ofNat 1), trm_o (x := x4) (by decide : Int32.ofNat 4 < Int32.ofNat 0 ∨ ¬ Int32.ofNat 4 < Int32.ofNat 1)]; exact i_01 x0 x1 x2 x3 x4
  | 2, _, 0, _ => rw [trm_i (x := x0) (by decide : ¬ (Int32.ofNat 0 < Int32.ofNat 0 ∨ ¬ Int32.ofNat 0 < Int32.ofNat 2)) (by decide : p31 (Int32.ofNat 2 - 1 - Int32.ofNat 0) = 31), trm_i (x := x1) (by decide : ¬ (Int32.ofNat 1 < Int32.ofNat 0 ∨ ¬ Int32.ofNat 1 < Int32.ofNat 2)) (by decide : p31 (Int32.ofNat 2 - 1 - Int32.ofNat 1) = 1), trm_o (x := x2) (by decide : Int32.ofNat 2 < Int32.ofNat 0 ∨ ¬ Int32.ofNat 2 < Int32.ofNat 2), trm_o (x := x3) (by decide : Int32.ofNat 3 < Int32.ofNat 0 ∨ ¬ Int32.ofNat 3 < Int32.ofNat 2), trm_o (x := x4) (by decide : Int32.ofNat 4 < Int32.ofNat 0 ∨ ¬ Int32.ofNat 4 < Int32.ofNat 2)]; exact i_02 x0 x1 x2 x3 x4
  | 3, _, 0, _ => rw [trm_i (x := x0) (by decide : ¬ (Int32.ofNat 0 < Int32.ofNat 0 ∨ ¬ Int32.ofNat 0 < Int32.ofNat 3)) (by decide : p31 (Int32.ofNat 3 - 1 - Int32.ofNat 0) = 961), trm_i (x := x1) (by decide : ¬ (Int32.ofNat 1 < Int32.ofNat 0 ∨ ¬ Int32.ofNat 1 < Int32.ofNat 3)) (by decide : p31 (Int32.ofNat 3 - 1 - Int32.ofNat 1) = 31), trm_i (x := x2) (by decide : ¬ (Int32.ofNat 2 < Int32.ofNat 0 ∨ ¬ Int32.ofNat 2 < Int32.ofNat 3)) (by decide : p31 (Int32.ofNat 3 - 1 - Int32.ofNat 2) = 1), trm_o (x := x3) (by decide : Int32.ofNat 3 < Int32.ofNat 0 ∨ ¬ Int32.ofNat 3 < Int32.ofNat 3), trm_o (x := x4) (by decide : Int32.ofNat 4 < Int32.ofNat 0 ∨ ¬ Int32.ofNat 4 < Int32.ofNat 3)]; exact i_03 x0 x1 x2 x3 x4
  | 4, _, 0, _ => rw [trm_i (x := x0) (by decide : ¬ (Int32.ofNat 0 < Int32.ofNat 0 ∨ ¬ Int32.ofNat 0 < Int32.ofNat 4)) (by decide : p31 (Int32.ofNat 4 - 1 - Int32.ofNat 0) = 29791), trm_i (x := x1) (by decide : ¬ (Int32.ofNat 1 < Int32.ofNat 0 ∨ ¬ Int32.ofNat 1 < Int32.ofNat 4)) (by decide : p31 (Int32.ofNat 4 - 1 - Int32.ofNat 1) = 961), trm_i (x := x2) (by decide : ¬ (Int32.ofNat 2 < Int32.ofNat 0 ∨ ¬ Int32.ofNat 2 < Int32.ofNat 4)) (by decide : p31 (Int32.ofNat 4 - 1 - Int32.ofNat 2) = 31), trm_i (x := x3) (by decide : ¬ (Int32.ofNat 3 < Int32.ofNat 0 ∨ ¬ Int32.ofNat 3 < Int32.ofNat 4)) (by decide : p31 (Int32.ofNat 4 - 1 - Int32.ofNat 3) = 1), trm_o (x := x4) (by decide : Int32.ofNat 4 < Int32.ofNat 0 ∨ ¬ Int32.ofNat 4 < Int32.ofNat 4)]; exact i_04 x0 x1 x2 x3 x4
  | 5, _, 0, _ => rw [trm_i (x := x0) (by decide : ¬ (Int32.ofNat 0 < Int32.ofNat 0 ∨ ¬ Int32.ofNat 0 < Int32.ofNat 5)) (by decide : p31 (Int32.ofNat 5 - 1 - Int32.ofNat 0) = 923521), trm_i (x := x1) (by decide : ¬ (Int32.ofNat 1 < Int32.ofNat 0 ∨ ¬ Int32.ofNat 1 < Int32.ofNat 5)) (by decide : p31 (Int32.ofNat 5 - 1 - Int32.ofNat 1) = 29791), trm_i (x := x2) (by decide : ¬ (Int32.ofNat 2 < Int32.ofNat 0 ∨ ¬ Int32.ofNat 2 < Int32.ofNat 5)) (by decide : p31 (Int32.ofNat 5 - 1 - Int32.ofNat 2) = 961), trm_i (x := x3) (by decide : ¬ (Int32.ofNat 3 < Int32.ofNat 0 ∨ ¬ Int32.ofNat 3 < Int32.ofNat 5)) (by decide : p31 (Int32.ofNat 5 - 1 - Int32.ofNat 3) = 31), trm_i (x := x4) (by decide : ¬ (Int32.ofNat 4 < Int32.ofNat 0 ∨ ¬ Int32.ofNat 4 < Int32.ofNat 5)) (by decide : p31 (Int32.ofNat 5 - 1 - Int32.ofNat 4) = 1)]; exact i_05 x0 x1 x2 x3 x4
  | 1, _, 1, _ => rw [trm_o (x := x0) (by decide : Int32.ofNat 0 < Int32.ofNat 1 ∨ ¬ Int32.ofNat 0 < Int32.ofNat 1), trm_o (x := x1) (by decide : Int32.ofNat 1 < Int32.ofNat 1 ∨ ¬ Int32.ofNat 1 < Int32.ofNat 1), trm_o (x := x2) (by decide : Int32.ofNat 2 < Int32.ofNat 1 ∨ ¬ Int32.ofNat 2 < Int32.ofNat 1), trm_o (x := x3) (by decide : Int32.ofNat 3 < Int32.ofNat 1 ∨ ¬ Int32.ofNat 3 < Int32.ofNat 1), trm_o (x := x4) (by decide : Int32.ofNat 4 < Int32.ofNat 1 ∨ ¬ Int32.ofNat 4 < Int32.ofNat 1)]; exact i_11 x0 x1 x2 x3 x4
  | 2, _, 1, _ => rw [trm_o (x := x0) (by decide : Int32.ofNat 0 < Int32.ofNat 1 ∨ ¬ Int32.ofNat 0 < Int32.ofNat 2), trm_i (x := x1) (by decide : ¬ (Int32.ofNat 1 < Int32.ofNat 1 ∨ ¬ Int32.ofNat 1 < Int32.ofNat 2)) (by decide : p31 (Int32.ofNat 2 - 1 - Int32.ofNat 1) = 1), trm_o (x := x2) (by decide : Int32.ofNat 2 < Int32.ofNat 1 ∨ ¬ Int32.ofNat 2 < Int32.ofNat 2), trm_o (x := x3) (by decide : Int32.ofNat 3 < Int32.ofNat 1 ∨ ¬ Int32.ofNat 3 < Int32.ofNat 2), trm_o (x := x4) (by decide : Int32.ofNat 4 < Int32.ofNat 1 ∨ ¬ Int32.ofNat 4 < Int32.ofNat 2)]; exact i_12 x0 x1 x2 x3 x4
  | 3, _, 1, _ => rw [trm_o (x := x0) (by decide : Int32.ofNat 0 < Int32.ofNat 1 ∨ ¬ Int32.ofNat 0 < Int32.ofNat 3), trm_i (x := x1) (by decide : ¬ (Int32.ofNat 1 < Int32.ofNat 1 ∨ ¬ Int32.ofNat 1 < Int32.ofNat 3)) (by decide : p31 (Int32.ofNat 3 - 1 - Int32.ofNat 1) = 31), trm_i (x := x2) (by decide : ¬ (Int32.ofNat 2 < Int32.ofNat 1 ∨ ¬ Int32.ofNat 2 < Int32.ofNat 3)) (by decide : p31 (Int32.ofNat 3 - 1 - Int32.ofNat 2) = 1), trm_o (x := x3) (by decide : Int32.ofNat 3 < Int32.ofNat 1 ∨ ¬ Int32.ofNat 3 < Int32.ofNat 3), trm_o (x := x4) (by decide : Int32.ofNat 4 < Int32.ofNat 1 ∨ ¬ Int32.ofNat 4 < Int32.ofNat 3)]; exact i_13 x0 x1 x2 x3 x4
  | 4, _, 1, _ => rw [trm_o (x := x0) (by decide : Int32.ofNat 0 < Int32.ofNat 1 ∨ ¬ Int32.ofNat 0 < Int32.ofNat 4), trm_i (x := x1) (by decide : ¬ (Int32.ofNat 1 < Int32.ofNat 1 ∨ ¬ Int32.ofNat 1 < Int32.ofNat 4)) (by decide : p31 (Int32.ofNat 4 - 1 - Int32.ofNat 1) = 961), trm_i (x := x2) (by decide : ¬ (Int32.ofNat 2 < Int32.ofNat 1 ∨ ¬ Int32.ofNat 2 < Int32.ofNat 4)) (by decide : p31 (Int32.ofNat 4 - 1 - Int32.ofNat 2) = 31), trm_i (x := x3) (by decide : ¬ (Int32.ofNat 3 < Int32.ofNat 1 ∨ ¬ Int32.ofNat 3 < Int32.ofNat 4)) (by decide : p31 (Int32.ofNat 4 - 1 - Int32.ofNat 3) = 1), trm_o (x := x4) (by decide : Int32.ofNat 4 < Int32.ofNat 1 ∨ ¬ Int32.ofNat 4 < Int32.ofNat 4)]; exact i_14 x0 x1 x2 x3 x4
  | 5, _, 1, _ => rw [trm_o (x := x0) (by decide : Int32.ofNat 0 < Int32.ofNat 1 ∨ ¬ Int32.ofNat 0 < Int32.ofNat 5), trm_i (x := x1) (by decide : ¬ (Int32.ofNat 1 < Int32.ofNat 1 ∨ ¬ Int32.ofNat 1 < Int32.ofNat 5)) (by decide : p31 (Int32.ofNat 5 - 1 - Int32.ofNat 1) = 29791), trm_i (x := x2) (by decide : ¬ (Int32.ofNat 2 < Int32.ofNat 1 ∨ ¬ Int32.ofNat 2 < Int32.ofNat 5)) (by decide : p31 (Int32.ofNat 5 - 1 - Int32.ofNat 2) = 961), trm_i (x := x3) (by decide : ¬ (Int32.ofNat 3 < Int32.ofNat 1 ∨ ¬ Int32.ofNat 3 < Int32.ofNat 5)) (by decide : p31 (Int32.ofNat 5 - 1 - Int32.ofNat 3) = 31), trm_i (x := x4) (by decide : ¬ (Int32.ofNat 4 < Int32.ofNat 1 ∨ ¬ Int32.ofNat 4 < Int32.ofNat 5)) (by decide : p31 (Int32.ofNat 5 - 1 - Int32.ofNat 4) = 1)]; exact i_15 x0 x1 x2 x3 x4
  | 2, _, 2, _ => rw [trm_o (x := x0) (by decide : Int32.ofNat 0 < Int32.ofNat 2 ∨ ¬ Int32.ofNat 0 < Int32.ofNat 2), trm_o (x := x1) (by decide : Int32.ofNat 1 < Int32.ofNat 2 ∨ ¬ Int32.ofNat 1 < Int32.ofNat 2), trm_o (x := x2) (by decide : Int32.ofNat 2 < Int32.ofNat 2 ∨ ¬ Int32.ofNat 2 < Int32.ofNat 2), trm_o (x := x3) (by decide : Int32.ofNat 3 < Int32.ofNat 2 ∨ ¬ Int32.ofNat 3 < Int32.ofNat 2), trm_o (x := x4) (by decide : Int32.ofNat 4 < Int32.ofNat 2 ∨ ¬ Int32.ofNat 4 < Int32.ofNat 2)]; exact i_22 x0 x1 x2 x3 x4
  | 3, _, 2, _ => rw [trm_o (x := x0) (by decide : Int32.ofNat 0 < Int32.ofNat 2 ∨ ¬ Int32.ofNat 0 < Int32.ofNat 3), trm_o (x := x1) (by decide : Int32.ofNat 1 < Int32.ofNat 2 ∨ ¬ Int32.ofNat 1 < Int32.ofNat 3), trm_i (x := x2) (by decide : ¬ (Int32.ofNat 2 < Int32.ofNat 2 ∨ ¬ Int32.ofNat 2 < Int32.ofNat 3)) (by decide : p31 (Int32.ofNat 3 - 1 - Int32.ofNat 2) = 1), trm_o (x := x3) (by decide : Int32.ofNat 3 < Int32.ofNat 2 ∨ ¬ Int32.ofNat 3 < Int32.ofNat 3), trm_o (x := x4) (by decide : Int32.ofNat 4 < Int32.ofNat 2 ∨ ¬ Int32.ofNat 4 < Int32.ofNat 3)]; exact i_23 x0 x1 x2 x3 x4
  | 4, _, 2, _ => rw [trm_o (x := x0) (by decide : Int32.ofNat 0 < Int32.ofNat 2 ∨ ¬ Int32.ofNat 0 < Int32.ofNat 4), trm_o (x := x1) (by decide : Int32.ofNat 1 < Int32.ofNat 2 ∨ ¬ Int32.ofNat 1 < Int32.ofNat 4), trm_i (x := x2) (by decide : ¬ (Int32.ofNat 2 < Int32.ofNat 2 ∨ ¬ Int32.ofNat 2 < Int32.ofNat 4)) (by decide : p31 (Int32.ofNat 4 - 1 - Int32.ofNat 2) = 31), trm_i (x := x3) (by decide : ¬ (Int32.ofNat 3 < Int32.ofNat 2 ∨ ¬ Int32.ofNat 3 < Int32.ofNat 4)) (by decide : p31 (Int32.ofNat 4 - 1 - Int32.ofNat 3) = 1), trm_o (x := x4) (by decide : Int32.ofNat 4 < Int32.ofNat 2 ∨ ¬ Int32.ofNat 4 < Int32.ofNat 4)]; exact i_24 x0 x1 x2 x3 x4
  | 5, _, 2, _ => rw [trm_o (x := x0) (by decide : Int32.ofNat 0 < Int32.ofNat 2 ∨ ¬ Int32.ofNat 0 < Int32.ofNat 5), trm_o (x := x1) (by decide : Int32.ofNat 1 < Int32.ofNat 2 ∨ ¬ Int32.ofNat 1 < Int32.ofNat 5), trm_i (x := x2) (by decide : ¬ (Int32.ofNat 2 < Int32.ofNat 2 ∨ ¬ Int32.ofNat 2 < Int32.ofNat 5)) (by decide : p31 (Int32.ofNat 5 - 1 - Int32.ofNat 2) = 961), trm_i (x := x3) (by decide : ¬ (Int32.ofNat 3 < Int32.ofNat 2 ∨ ¬ Int32.ofNat 3 < Int32.ofNat 5)) (by decide : p31 (Int32.ofNat 5 - 1 - Int32.ofNat 3) = 31), trm_i (x := x4) (by decide : ¬ (Int32.ofNat 4 < Int32.ofNat 2 ∨ ¬ Int32.ofNat 4 < Int32.ofNat 5)) (by decide : p31 (Int32.ofNat 5 - 1 - Int32.ofNat 4) = 1)]; exact i_25 x0 x1 x2 x3 x4
  | 3, _, 3, _ => rw [trm_o (x := x0) (by decide : Int32.ofNat 0 < Int32.ofNat 3 ∨ ¬ Int32.ofNat 0 < Int32.ofNat 3), trm_o (x := x1) (by decide : Int32.ofNat 1 < Int32.ofNat 3 ∨ ¬ Int32.ofNat 1 < Int32.ofNat 3), trm_o (x := x2) (by decide : Int32.ofNat 2 < Int32.ofNat 3 ∨ ¬ Int32.ofNat 2 < Int32.ofNat 3), trm_o (x := x3) (by decide : Int32.ofNat 3 < Int32.ofNat 3 ∨ ¬ Int32.ofNat 3 < Int32.ofNat 3), trm_o (x := x4) (by decide : Int32.ofNat 4 < Int32.ofNat 3 ∨ ¬ Int32.ofNat 4 < Int32.ofNat 3)]; exact i_33 x0 x1 x2 x3 x4
  | 4, _, 3, _ => rw [trm_o (x := x0) (by decide : Int32.ofNat 0 < Int32.ofNat 3 ∨ ¬ Int32.ofNat 0 < Int32.ofNat 4), trm_o (x := x1) (by decide : Int32.ofNat 1 < Int32.ofNat 3 ∨ ¬ Int32.ofNat 1 < Int32.ofNat 4), trm_o (x := x2) (by decide : Int32.ofNat 2 < Int32.ofNat 3 ∨ ¬ Int32.ofNat 2 < Int32.ofNat 4), trm_i (x := x3) (by decide : ¬ (Int32.ofNat 3 < Int32.ofNat 3 ∨ ¬ Int32.ofNat 3 < Int32.ofNat 4)) (by decide : p31 (Int32.ofNat 4 - 1 - Int32.ofNat 3) = 1), trm_o (x := x4) (by decide : Int32.ofNat 4 < Int32.ofNat 3 ∨ ¬ Int32.ofNat 4 < Int32.ofNat 4)]; exact i_34 x0 x1 x2 x3 x4
  | 5, _, 3, _ => rw [trm_o (x := x0) (by decide : Int32.ofNat 0 < Int32.ofNat 3 ∨ ¬ Int32.ofNat 0 < Int32.ofNat 5), trm_o (x := x1) (by decide : Int32.ofNat 1 < Int32.ofNat 3 ∨ ¬ Int32.ofNat 1 < Int32.ofNat 5), trm_o (x := x2) (by decide : Int32.ofNat 2 < Int32.ofNat 3 ∨ ¬ Int32.ofNat 2 < Int32.ofNat 5), trm_i (x := x3) (by decide : ¬ (Int32.ofNat 3 < Int32.ofNat 3 ∨ ¬ Int32.ofNat 3 < Int32.ofNat 5)) (by decide : p31 (Int32.ofNat 5 - 1 - Int32.ofNat 3) = 31), trm_i (x := x4) (by decide : ¬ (Int32.ofNat 4 < Int32.ofNat 3 ∨ ¬ Int32.ofNat 4 < Int32.ofNat 5)) (by decide : p31 (Int32.ofNat 5 - 1 - Int32.ofNat 4) = 1)]; exact i_35 x0 x1 x2 x3 x4
  | 4, _, 4, _ => rw [trm_o (x := x0) (by decide : Int32.ofNat 0 < Int32.ofNat 4 ∨ ¬ Int32.ofNat 0 < Int32.ofNat 4), trm_o (x := x1) (by decide : Int32.ofNat 1 < Int32.ofNat 4 ∨ ¬ Int32.ofNat 1 < Int32.ofNat 4), trm_o (x := x2) (by decide : Int32.ofNat 2 < Int32.ofNat 4 ∨ ¬ Int32.ofNat 2 < Int32.ofNat 4), trm_o (x := x3) (by decide : Int32.ofNat 3 < Int32.ofNat 4 ∨ ¬ Int32.ofNat 3 < Int32.ofNat 4), trm_o (x := x4) (by decide : Int32.ofNat 4 < Int32.ofNat 4 ∨ ¬ Int32.ofNat 4 < Int32.ofNat 4)]; exact i_44 x0 x1 x2 x3 x4
  | 5, _, 4, _ => rw [trm_o (x := x0) (by decide : Int32.ofNat 0 < Int32.ofNat 4 ∨ ¬ Int32.ofNat 0 < Int32.ofNat 5), trm_o (x := x1) (by decide : Int32.ofNat 1 < Int32.ofNat 4 ∨ ¬ Int32.ofNat 1 < Int32.ofNat 5), trm_o (x := x2) (by decide : Int32.ofNat 2 < Int32.ofNat 4 ∨ ¬ Int32.ofNat 2 < Int32.ofNat 5), trm_o (x := x3) (by decide : Int32.ofNat 3 < Int32.ofNat 4 ∨ ¬ Int32.ofNat 3 < Int32.ofNat 5), trm_i (x := x4) (by decide : ¬ (Int32.ofNat 4 < Int32.ofNat 4 ∨ ¬ Int32.ofNat 4 < Int32.ofNat 5)) (by decide : p31 (Int32.ofNat 5 - 1 - Int32.ofNat 4) = 1)]; exact i_45 x0 x1 x2 x3 x4
  | 5, _, 5, _ => rw [trm_o (x := x0) (by decide : Int32.ofNat 0 < Int32.ofNat 5 ∨ ¬ Int32.ofNat 0 < Int32.ofNat 5), trm_o (x := x1) (by decide : Int32.ofNat 1 < Int32.ofNat 5 ∨ ¬ Int32.ofNat 1 < Int32.ofNat 5), trm_o (x := x2) (by decide : Int32.ofNat 2 < Int32.ofNat 5 ∨ ¬ Int32.ofNat 2 < Int32.ofNat 5), trm_o (x := x3) (by decide : Int32.ofNat 3 < Int32.ofNat 5 ∨ ¬ Int32.ofNat 3 < Int32.ofNat 5), trm_o (x := x4) (by decide : Int32.ofNat 4 < Int32.ofNat 5 ∨ ¬ Int32.ofNat 4 < Int32.ofNat 5)]; exact i_55 x0 x1 x2 x3 x4
set_option maxRecDepth 65536 in
set_option maxHeartbeats 4000000 in
theorem rm0 (l : Launch) {Z : State} {a0 : Array Value} (G : OG Z a0) (n0 : Nat) (a b c r : Int32) (h0 : Heap) : oCon l Z n0 x i0 #[.int a, .int b, .int c, .int r] h0 (fun v h => v = some (.int 1)) := by
  obtain ⟨hw, ⟨cmp, hC, hc0⟩, ⟨fm, hfm, hF⟩, hAs, hHi, hLo⟩ := id G
  refine oCon.mk (plainFor_of_name pn0) rfl rfl (ef0 a b c r) fun C hCl => ?_
  refine s_iconst (x := (5 : Int32)) (pc' := 1) at_0 rfl rfl ?_
  refine s_newA 5 (hw _ (List.mem_of_getElem? (i := 0) rfl)) (pc' := 3) at_1 rfl (by decide) (by decide) (by decide) (Nat.le_of_ble_eq_true rfl) (Nat.le_of_ble_eq_true rfl) (fun h1 b1 k1 g1 nb1 E1 A1 => ?_)
  have AA := o_padTo A1 5
  refine s_astore (pc' := 5) at_3 rfl rfl (o_st rfl (by first | exact One.u | exact One.val rfl | assumption) rfl) ?_
  dsimp only [List.set_cons_succ, List.set_cons_zero]
  refine s_aload (pc' := 7) at_5 rfl rfl rfl ?_
  refine s_iconst (x := (0 : Int32)) (pc' := 8) at_7 rfl rfl ?_
  refine s_iloadN (pc' := 9) at_8 rfl rfl ?_
  refine s_ldcI (x := (65535 : Int32)) (hw _ (List.mem_of_getElem? (i := 1) rfl)) (pc' := 11) at_9 rfl ?_
  refine s_iand (pc' := 12) at_11 rfl ?_
  refine s_i2c (pc' := 13) at_12 rfl ?_
  rw [i2c16 (r_and16 _)]
  refine s_castore AA nb1 (by decide) (by decide) 0 rfl (by simp) (pc' := 14) at_13 rfl (fun h13 W13 A13 => ?_)
  rw [nar16 (r_and16 _)] at A13
  clear AA
  have AA := A13
  refine s_aload (pc' := 16) at_14 rfl rfl rfl ?_
  refine s_iconst (x := (1 : Int32)) (pc' := 17) at_16 rfl rfl ?_
  refine s_iloadN (pc' := 18) at_17 rfl rfl ?_
  refine s_bipush (x := (16 : Int32)) (pc' := 20) at_18 rfl rfl ?_
  refine s_iushr (pc' := 21) at_20 rfl ?_
  refine s_ldcI (x := (65535 : Int32)) (hw _ (List.mem_of_getElem? (i := 1) rfl)) (pc' := 23) at_21 rfl ?_
  refine s_iand (pc' := 24) at_23 rfl ?_
  refine s_i2c (pc' := 25) at_24 rfl ?_
  rw [i2c16 (r_and16 _)]
  refine s_castore AA nb1 (by decide) (by decide) 1 rfl (by simp) (pc' := 26) at_25 rfl (fun h25 W25 A25 => ?_)
  rw [nar16 (r_and16 _)] at A25
  clear AA
  have AA := A25
  refine s_aload (pc' := 28) at_26 rfl rfl rfl ?_
  refine s_iconst (x := (2 : Int32)) (pc' := 29) at_28 rfl rfl ?_
  refine s_iloadN (pc' := 30) at_29 rfl rfl ?_
  refine s_ldcI (x := (65535 : Int32)) (hw _ (List.mem_of_getElem? (i := 1) rfl)) (pc' := 32) at_30 rfl ?_
  refine s_iand (pc' := 33) at_32 rfl ?_
  refine s_i2c (pc' := 34) at_33 rfl ?_
  rw [i2c16 (r_and16 _)]
  refine s_castore AA nb1 (by decide) (by decide) 2 rfl (by simp) (pc' := 35) at_34 rfl (fun h34 W34 A34 => ?_)
  rw [nar16 (r_and16 _)] at A34
  clear AA
  have AA := A34
  refine s_aload (pc' := 37) at_35 rfl rfl rfl ?_
  refine s_iconst (x := (3 : Int32)) (pc' := 38) at_37 rfl rfl ?_
  refine s_iloadN (pc' := 39) at_38 rfl rfl ?_
  refine s_bipush (x := (16 : Int32)) (pc' := 41) at_39 rfl rfl ?_
  refine s_iushr (pc' := 42) at_41 rfl ?_
  refine s_ldcI (x := (65535 : Int32)) (hw _ (List.mem_of_getElem? (i := 1) rfl)) (pc' := 44) at_42 rfl ?_
  refine s_iand (pc' := 45) at_44 rfl ?_
  refine s_i2c (pc' := 46) at_45 rfl ?_
  rw [i2c16 (r_and16 _)]
  refine s_castore AA nb1 (by decide) (by decide) 3 rfl (by simp) (pc' := 47) at_46 rfl (fun h46 W46 A46 => ?_)
  rw [nar16 (r_and16 _)] at A46
  clear AA
  have AA := A46
  refine s_aload (pc' := 49) at_47 rfl rfl rfl ?_
  refine s_iconst (x := (4 : Int32)) (pc' := 50) at_49 rfl rfl ?_
  refine s_iloadN (pc' := 51) at_50 rfl rfl ?_
  refine s_ldcI (x := (65535 : Int32)) (hw _ (List.mem_of_getElem? (i := 1) rfl)) (pc' := 53) at_51 rfl ?_
  refine s_iand (pc' := 54) at_53 rfl ?_
  refine s_i2c (pc' := 55) at_54 rfl ?_
  rw [i2c16 (r_and16 _)]
  refine s_castore AA nb1 (by decide) (by decide) 4 rfl (by simp) (pc' := 56) at_55 rfl (fun h55 W55 A55 => ?_)
  rw [nar16 (r_and16 _)] at A55
  clear AA
  have AA := A55
  refine s_iloadN (pc' := 57) at_56 rfl rfl ?_
  refine s_sipush (x := (255 : Int32)) (pc' := 60) at_57 rfl rfl ?_
  refine s_iand (pc' := 61) at_60 rfl ?_
  refine s_bipush (x := (6 : Int32)) (pc' := 63) at_61 rfl rfl ?_
  refine s_irem (pc' := 64) at_63 rfl (by decide) ?_
  obtain ⟨s, hs, es⟩ := s_r r
  rw [es]
  refine s_istore (pc' := 66) at_64 rfl (o_st rfl (by first | exact One.u | exact One.val rfl | assumption) rfl) ?_
  dsimp only [List.set_cons_succ, List.set_cons_zero]
  refine s_iload (pc' := 68) at_66 rfl rfl ?_
  refine s_iloadN (pc' := 69) at_68 rfl rfl ?_
  refine s_bipush (x := (8 : Int32)) (pc' := 71) at_69 rfl rfl ?_
  refine s_iushr (pc' := 72) at_71 rfl ?_
  refine s_sipush (x := (255 : Int32)) (pc' := 75) at_72 rfl rfl ?_
  refine s_iand (pc' := 76) at_75 rfl ?_
  refine s_bipush (x := (6 : Int32)) (pc' := 78) at_76 rfl rfl ?_
  refine s_iload (pc' := 80) at_78 rfl rfl ?_
  refine s_isub (pc' := 81) at_80 rfl ?_
  refine s_irem (pc' := 82) at_81 rfl (six_ne hs) ?_
  refine s_iadd (pc' := 83) at_82 rfl ?_
  obtain ⟨e, hse, he, ee⟩ := e_r (XT.ushr r 8) hs
  rw [ee]
  refine s_istore (pc' := 85) at_83 rfl (o_st rfl (by first | exact One.u | exact One.val rfl | assumption) rfl) ?_
  dsimp only [List.set_cons_succ, List.set_cons_zero]
  obtain ⟨x0, e0⟩ : ∃ z, z = a &&& 65535 := ⟨_, rfl⟩
  obtain ⟨x1, e1⟩ : ∃ z, z = XT.ushr a 16 &&& 65535 := ⟨_, rfl⟩
  obtain ⟨x2, e2⟩ : ∃ z, z = b &&& 65535 := ⟨_, rfl⟩
  obtain ⟨x3, e3⟩ : ∃ z, z = XT.ushr b 16 &&& 65535 := ⟨_, rfl⟩
  obtain ⟨x4, e4⟩ : ∃ z, z = c &&& 65535 := ⟨_, rfl⟩
  have hch : C16 [x0, x1, x2, x3, x4] := by
    intro z hz; simp at hz; rcases hz with rfl | rfl | rfl | rfl | rfl
    · rw [e0]; exact r_and16 _
    · rw [e1]; exact r_and16 _
    · rw [e2]; exact r_and16 _
    · rw [e3]; exact r_and16 _
    · rw [e4]; exact r_and16 _
  have AB : Arv Z h55 b1 k1 .char 5 ([x0, x1, x2, x3, x4].map .int) (.int 0) := by rw [e0, e1, e2, e3, e4]; exact AA
  refine s_new (hw _ (List.mem_of_getElem? (i := 2) rfl)) (hw _ (List.mem_of_getElem? (i := 3) rfl)) (hw _ (List.mem_of_getElem? (i := 4) rfl)) (pc' := 88) at_85 rfl (Nat.le_of_ble_eq_true rfl) (Nat.le_of_ble_eq_true rfl) (fun h85 b85 g85 nb85 E85 A85 D85 => ?_)
  refine s_dup (pc' := 89) at_88 rfl rfl ?_
  refine s_aload (pc' := 91) at_89 rfl rfl rfl ?_
  refine s_callI1 (rmsC C.l G n0 b85 b1 k1 [x0, x1, x2, x3, x4] _ _ rfl hch (AB.ext E85) A85 (D85 (Or.inr (hw _ (List.mem_of_getElem? (i := 30) rfl))) (ty := .array .byte) (by decide)) (D85 (Or.inr (hw _ (List.mem_of_getElem? (i := 28) rfl))) (ty := .byte) (by decide)) nb85) rfl rfl (hw _ (List.mem_of_getElem? (i := 5) rfl)) (hw _ (List.mem_of_getElem? (i := 6) rfl)) (hw _ (List.mem_of_getElem? (i := 4) rfl)) (hw _ (List.mem_of_getElem? (i := 7) rfl)) (by decide) (o_len pdsC rfl) rfl (pc' := 94) at_91 rfl (Nat.le_of_ble_eq_true rfl) (Nat.le_of_ble_eq_true rfl) (Nat.le_of_ble_eq_true rfl) (Nat.le_of_ble_eq_true rfl) (fun v91 h91 hQ91 => ?_)
  obtain ⟨rfl, K91, T⟩ := hQ91
  dsimp only [oPush]
  have l1 : b1 ≠ b85 := o_fresh AB.lt g85
  replace AB := (AB.ext E85).keep K91 (ninS l1 nin0)
  refine s_astore (pc' := 96) at_94 rfl rfl (o_st rfl (by first | exact One.u | exact One.val rfl | assumption) rfl) ?_
  dsimp only [List.set_cons_succ, List.set_cons_zero]
  refine s_new (hw _ (List.mem_of_getElem? (i := 31) rfl)) (hw _ (List.mem_of_getElem? (i := 32) rfl)) (hw _ (List.mem_of_getElem? (i := 33) rfl)) (pc' := 99) at_96 rfl (Nat.le_of_ble_eq_true rfl) (Nat.le_of_ble_eq_true rfl) (fun h96 b96 g96 nb96 E96 A96 D96 => ?_)
  refine s_dup (pc' := 100) at_99 rfl rfl ?_
  refine s_aload (pc' := 102) at_100 rfl rfl rfl ?_
  refine s_iload (pc' := 104) at_102 rfl rfl ?_
  refine s_iload (pc' := 106) at_104 rfl rfl ?_
  refine s_callI3 (rmvi C.l G n0 b96 b85 _ _ (Int32.ofNat s) (Int32.ofNat e) _ (T.ext E96) (nn (by omega)) (nlt' (by omega) hse) (nlt' (a := 5) (by omega) he) A96 (D96 (Or.inr (hw _ (List.mem_of_getElem? (i := 62) rfl))) (ty := .object "java/lang/String") (by decide)) (D96 (Or.inr (hw _ (List.mem_of_getElem? (i := 64) rfl))) (ty := .int) (by decide)) (D96 (Or.inr (hw _ (List.mem_of_getElem? (i := 66) rfl))) (ty := .int) (by decide)) nb96) rfl rfl (hw _ (List.mem_of_getElem? (i := 34) rfl)) (hw _ (List.mem_of_getElem? (i := 35) rfl)) (hw _ (List.mem_of_getElem? (i := 33) rfl)) (hw _ (List.mem_of_getElem? (i := 36) rfl)) (by decide) (o_len pdvi rfl) rfl (pc' := 109) at_106 rfl (Nat.le_of_ble_eq_true rfl) (Nat.le_of_ble_eq_true rfl) (Nat.le_of_ble_eq_true rfl) (Nat.le_of_ble_eq_true rfl) (fun v106 h106 hQ106 => ?_)
  obtain ⟨rfl, K106, XV, F0, F1, F2⟩ := hQ106
  dsimp only [oPush]
  have l2 : b1 ≠ b96 := o_fresh AB.lt g96
  replace AB := (AB.ext E96).keep K106 (ninS l2 nin0)
  replace T := (T.ext E96).keep K106 (allS (Nat.le_of_eq g96.symm) all0)
  refine s_astore (pc' := 111) at_109 rfl rfl (o_st rfl (by first | exact One.u | exact One.val rfl | assumption) rfl) ?_
  dsimp only [List.set_cons_succ, List.set_cons_zero]
  refine s_aload (pc' := 113) at_111 rfl rfl rfl ?_
  refine s_iconst (x := (0 : Int32)) (pc' := 114) at_113 rfl rfl ?_
  refine s_iload (pc' := 116) at_114 rfl rfl ?_
  refine s_iload (pc' := 118) at_116 rfl rfl ?_
  refine s_callS4 (rmtm C.l G n0 b1 k1 [x0, x1, x2, x3, x4] _ 0 x0 (Int32.ofNat s) (Int32.ofNat e) _ (by decide) rfl AB) (hw _ (List.mem_of_getElem? (i := 67) rfl)) (hw _ (List.mem_of_getElem? (i := 68) rfl)) (hw _ (List.mem_of_getElem? (i := 69) rfl)) (hw _ (List.mem_of_getElem? (i := 70) rfl)) (by decide) (o_len pdtm rfl) rfl (pc' := 121) at_118 rfl (Nat.le_of_ble_eq_true rfl) (Nat.le_of_ble_eq_true rfl) (Nat.le_of_ble_eq_true rfl) (Nat.le_of_ble_eq_true rfl) (fun v118 h118 hQ118 => ?_)
  obtain ⟨rfl, rfl⟩ := hQ118
  dsimp only [oPush]
  refine s_aload (pc' := 123) at_121 rfl rfl rfl ?_
  refine s_iconst (x := (1 : Int32)) (pc' := 124) at_123 rfl rfl ?_
  refine s_iload (pc' := 126) at_124 rfl rfl ?_
  refine s_iload (pc' := 128) at_126 rfl rfl ?_
  refine s_callS4 (rmtm C.l G n0 b1 k1 [x0, x1, x2, x3, x4] _ 1 x1 (Int32.ofNat s) (Int32.ofNat e) _ (by decide) rfl AB) (hw _ (List.mem_of_getElem? (i := 67) rfl)) (hw _ (List.mem_of_getElem? (i := 68) rfl)) (hw _ (List.mem_of_getElem? (i := 69) rfl)) (hw _ (List.mem_of_getElem? (i := 70) rfl)) (by decide) (o_len pdtm rfl) rfl (pc' := 131) at_128 rfl (Nat.le_of_ble_eq_true rfl) (Nat.le_of_ble_eq_true rfl) (Nat.le_of_ble_eq_true rfl) (Nat.le_of_ble_eq_true rfl) (fun v128 h128 hQ128 => ?_)
  obtain ⟨rfl, rfl⟩ := hQ128
  dsimp only [oPush]
  refine s_iadd (pc' := 132) at_131 rfl ?_
  refine s_aload (pc' := 134) at_132 rfl rfl rfl ?_
  refine s_iconst (x := (2 : Int32)) (pc' := 135) at_134 rfl rfl ?_
  refine s_iload (pc' := 137) at_135 rfl rfl ?_
  refine s_iload (pc' := 139) at_137 rfl rfl ?_
  refine s_callS4 (rmtm C.l G n0 b1 k1 [x0, x1, x2, x3, x4] _ 2 x2 (Int32.ofNat s) (Int32.ofNat e) _ (by decide) rfl AB) (hw _ (List.mem_of_getElem? (i := 67) rfl)) (hw _ (List.mem_of_getElem? (i := 68) rfl)) (hw _ (List.mem_of_getElem? (i := 69) rfl)) (hw _ (List.mem_of_getElem? (i := 70) rfl)) (by decide) (o_len pdtm rfl) rfl (pc' := 142) at_139 rfl (Nat.le_of_ble_eq_true rfl) (Nat.le_of_ble_eq_true rfl) (Nat.le_of_ble_eq_true rfl) (Nat.le_of_ble_eq_true rfl) (fun v139 h139 hQ139 => ?_)
  obtain ⟨rfl, rfl⟩ := hQ139
  dsimp only [oPush]
  refine s_iadd (pc' := 143) at_142 rfl ?_
  refine s_aload (pc' := 145) at_143 rfl rfl rfl ?_
  refine s_iconst (x := (3 : Int32)) (pc' := 146) at_145 rfl rfl ?_
  refine s_iload (pc' := 148) at_146 rfl rfl ?_
  refine s_iload (pc' := 150) at_148 rfl rfl ?_
  refine s_callS4 (rmtm C.l G n0 b1 k1 [x0, x1, x2, x3, x4] _ 3 x3 (Int32.ofNat s) (Int32.ofNat e) _ (by decide) rfl AB) (hw _ (List.mem_of_getElem? (i := 67) rfl)) (hw _ (List.mem_of_getElem? (i := 68) rfl)) (hw _ (List.mem_of_getElem? (i := 69) rfl)) (hw _ (List.mem_of_getElem? (i := 70) rfl)) (by decide) (o_len pdtm rfl) rfl (pc' := 153) at_150 rfl (Nat.le_of_ble_eq_true rfl) (Nat.le_of_ble_eq_true rfl) (Nat.le_of_ble_eq_true rfl) (Nat.le_of_ble_eq_true rfl) (fun v150 h150 hQ150 => ?_)
  obtain ⟨rfl, rfl⟩ := hQ150
  dsimp only [oPush]
  refine s_iadd (pc' := 154) at_153 rfl ?_
  refine s_aload (pc' := 156) at_154 rfl rfl rfl ?_
  refine s_iconst (x := (4 : Int32)) (pc' := 157) at_156 rfl rfl ?_
  refine s_iload (pc' := 159) at_157 rfl rfl ?_
  refine s_iload (pc' := 161) at_159 rfl rfl ?_
  refine s_callS4 (rmtm C.l G n0 b1 k1 [x0, x1, x2, x3, x4] _ 4 x4 (Int32.ofNat s) (Int32.ofNat e) _ (by decide) rfl AB) (hw _ (List.mem_of_getElem? (i := 67) rfl)) (hw _ (List.mem_of_getElem? (i := 68) rfl)) (hw _ (List.mem_of_getElem? (i := 69) rfl)) (hw _ (List.mem_of_getElem? (i := 70) rfl)) (by decide) (o_len pdtm rfl) rfl (pc' := 164) at_161 rfl (Nat.le_of_ble_eq_true rfl) (Nat.le_of_ble_eq_true rfl) (Nat.le_of_ble_eq_true rfl) (Nat.le_of_ble_eq_true rfl) (fun v161 h161 hQ161 => ?_)
  obtain ⟨rfl, rfl⟩ := hQ161
  dsimp only [oPush]
  refine s_iadd (pc' := 165) at_164 rfl ?_
  refine s_istore (pc' := 167) at_165 rfl (o_st rfl (by first | exact One.u | exact One.val rfl | assumption) rfl) ?_
  dsimp only [List.set_cons_succ, List.set_cons_zero]
  refine s_aload (pc' := 169) at_167 rfl rfl rfl ?_
  refine s_callV0 (rmhc C.l G n0 b96 b85 _ _ s e _ rfl hch hse he F0 F1 F2 T) XV (hw _ (List.mem_of_getElem? (i := 71) rfl)) (hw _ (List.mem_of_getElem? (i := 72) rfl)) (hw _ (List.mem_of_getElem? (i := 74) rfl)) (hw _ (List.mem_of_getElem? (i := 73) rfl)) (o_nf (hw _ (List.mem_of_getElem? (i := 74) rfl)) rfl) (hw _ (List.mem_of_getElem? (i := 33) rfl)) (hw _ (List.mem_of_getElem? (i := 75) rfl)) (by decide) (o_len pdhc rfl) rfl (pc' := 172) at_169 rfl (Nat.le_of_ble_eq_true rfl) (Nat.le_of_ble_eq_true rfl) (Nat.le_of_ble_eq_true rfl) (Nat.le_of_ble_eq_true rfl) (fun v169 h169 hQ169 => ?_)
  obtain ⟨rfl, rfl⟩ := hQ169
  dsimp only [oPush]
  refine s_iload (pc' := 174) at_172 rfl rfl ?_
  refine s_icmp (pc' := 177) (pc'' := 181) at_174 rfl (by decide) rfl (fun hc174 => ?_) (fun hc174 => ?_)
  · replace hc174 := b_ne hc174
    exact absurd (law_plain x0 x1 x2 x3 x4 s e hse he) hc174
  · replace hc174 := b_neF hc174
    refine s_iconst (x := (1 : Int32)) (pc' := 178) at_177 rfl rfl ?_
    refine s_goto (pc' := 182) at_178 (by decide) rfl ?_
    exact s_nret (t := .boolean) rfl (by simp) at_182 (Nat.le_of_ble_eq_true rfl) (Nat.le_of_ble_eq_true rfl) rfl
set_option maxRecDepth 65536 in
set_option maxHeartbeats 4000000 in
theorem comes_1 {Post : Tables → Env → Array Value → State → Outcome → State → Prop} (hpost : ∀ tb e args s v u, (limb_1_1.after args s (.returned v) u = true ∧ limb_1_2.after args s (.returned v) u = true ∧ True) → FrameEnd s (.returned v) u (Jvm.fieldLocs frame_1_writes args s ++ Jvm.arrayLocs frame_1_arrays args s ++ Jvm.staticLocs frame_1_statics s) 24 128 → Post tb e args s (.returned v) u) :
    ArmFor flags0 classFile x code maxLocals ret World_1 tables_1 room_1 Calls_1 rest_1 Pre_1 Post := by
  intro l hfl _ _ p e ha hc hk s m args below hf hA hF happ hP
  obtain ⟨hcalls, hrest, hpre⟩ := hP
  obtain ⟨-, -, -, hnamed, -, -, -, hat⟩ := (Spec.applies_iff hf).mp happ
  obtain ⟨hg, hn⟩ := and_e (Cond.before_iff.mp (show (Jvm.Cond.and given_1 narrow_1).before args s = true from hpre))
  obtain ⟨hcount, hr0⟩ := and_e hg
  obtain ⟨ha0, hr1⟩ := and_e hr0
  obtain ⟨ha1, hr2⟩ := and_e hr1
  obtain ⟨ha2, hr3⟩ := and_e hr2
  have ha3 := hr3
  obtain ⟨w0, w1, w2, w3, rfl⟩ : ∃ w0 w1 w2 w3 : Value, args = #[w0, w1, w2, w3] := by
    have hs : args.size = 4 := by simpa [Cond.value, given_1] using hcount
    obtain ⟨L⟩ := args
    match L, hs with
    | [w0, w1, w2, w3], _ => exact ⟨w0, w1, w2, w3, rfl⟩
  have hw := fun d (hd : d ∈ tables_1) => atoms_spec (ws := Jvm.Cond.code x code maxLocals ret :: tables_1) hat d (List.mem_cons_of_mem _ hd)
  obtain ⟨hsets, hown0⟩ := atoms_of _ (rest_1_c_eq ▸ (show rest_1_c.before _ s = true from hrest))
  have hfit : Fit s := fun {y c} hc i hi => by
    obtain ⟨ha, rfl⟩ := Array.getElem?_eq_some_iff.mp hc
    have q := List.all_eq_true.mp ((Array.all_eq_true_iff_forall_mem.mp hF) _ (Array.getElem_mem ha)) i (List.mem_range.mpr hi)
    simpa [Array.getElem?_eq_getElem hi] using q
  obtain ⟨i0, e0⟩ := is_v ha0
  obtain rfl : w0 = (.int i0) := Option.some.inj e0
  obtain ⟨i1, e1⟩ := is_v ha1
  obtain rfl : w1 = (.int i1) := Option.some.inj e1
  obtain ⟨i2, e2⟩ := is_v ha2
  obtain rfl : w2 = (.int i2) := Option.some.inj e2
  obtain ⟨i3, e3⟩ := is_v ha3
  obtain rfl : w3 = (.int i3) := Option.some.inj e3
  have n2 := not_v (Cond.before_iff.mp (hsets _ (List.mem_of_getElem? (i := 2) rfl)))
  obtain ⟨cmp, ec⟩ := is_v (Cond.before_iff.mp (hsets _ (List.mem_of_getElem? (i := 1) rfl)))
  have hC : Sta s s.heap "java/lang/String" "COMPACT_STRINGS" "Z" (.int cmp) := Sta.start ec (Or.inl (hsets _ (List.mem_of_getElem? (i := 0) rfl)))
  have hc0 : ¬ cmp = 0 := gotF (Cond.eq_ints ec (Term.int_eval 0)) n2
  obtain ⟨fm, ef, hfm⟩ := isR_v (Cond.before_iff.mp (hsets _ (List.mem_of_getElem? (i := 8) rfl)))
  have hF : Sta s s.heap "jdk/internal/util/Preconditions" "SIOOBE_FORMATTER" "Ljava/util/function/BiFunction;" fm := Sta.start ef (Or.inl (hsets _ (List.mem_of_getElem? (i := 7) rfl)))
  have hAs : Sta s s.heap "java/lang/StringUTF16" "$assertionsDisabled" "Z" (.int 1) := Sta.start (eqv_i (Term.int_eval 1) (Cond.before_iff.mp (hsets _ (List.mem_of_getElem? (i := 12) rfl)))) (Or.inl (hsets _ (List.mem_of_getElem? (i := 11) rfl)))
  have hHi : Sta s s.heap "java/lang/StringUTF16" "HI_BYTE_SHIFT" "I" (.int 0) := Sta.start (eqv_i (Term.int_eval 0) (Cond.before_iff.mp (hsets _ (List.mem_of_getElem? (i := 15) rfl)))) (Or.inl (hsets _ (List.mem_of_getElem? (i := 14) rfl)))
  have hLo : Sta s s.heap "java/lang/StringUTF16" "LO_BYTE_SHIFT" "I" (.int 8) := Sta.start (eqv_i (Term.int_eval 8) (Cond.before_iff.mp (hsets _ (List.mem_of_getElem? (i := 18) rfl)))) (Or.inl (hsets _ (List.mem_of_getElem? (i := 17) rfl)))
  have G : OG s _ := ⟨hw, ⟨cmp, hC, hc0⟩, ⟨fm, hfm, hF⟩, hAs, hHi, hLo⟩
  obtain ⟨n, o, q1, q2, q3, _, L, rfl, ⟨N, -, rfl⟩, hq⟩ := (rm0 l G s.heap.size i0 i1 i2 i3 s.heap) (Old.start s) tables_1 p e ha hc hk s m _ below hf ((Spec.applies_iff_loose hf).mp happ).1 ⟨rfl, State.Warmed39.refl s, rfl⟩ trivial
  refine ⟨n, _, q1, q2, q3, hpost _ _ _ _ _ _ ⟨Cond.after_iff.mpr rfl, Cond.after_iff.mpr (eq_i res_at (Term.int_eval (1)) rfl), trivial⟩ ⟨hq.1, hq.2.1, (hq.2.2.sift fun y hy => Or.inr (N y hy)).mono (by decide) (by decide)⟩⟩
theorem main_1_1 : Claimed_1_1 := comes_1 fun _ _ _ _ _ _ h hF => ⟨h.1, hF⟩
theorem main_1_2 : Claimed_1_2 := comes_1 fun _ _ _ _ _ _ h hF => ⟨h.2.1, hF⟩
end Jvm.Pilot.@@N@@
namespace Jvm.Pilot.@@N@@
open Jvm Jvm.ClassFile Sem Op Lib Jvm.Free Jvm.Stand Jvm.Pilot.@@N@@.Jvm.D
/-! MADE BY PROGRAM (witnessworld.py) out of the Statement's table words and the real class files: 22 classes; the members and pool entries that the words name. The judged class is class 1, her method 1. -/
namespace start1
open Jvm.ClassFile
def u (s : String) : CpInfo := .utf8 (stringToUtf16 s)
/-- a pool by its gaps: so many unusable entries, then the entry; so many at the end -/
def gap : Nat → List CpInfo → List CpInfo
  | 0, r => r
  | n + 1, r => .unusable :: gap n r
def poolList (es : List (Nat × CpInfo)) (last : Nat) : List CpInfo := es.foldr (fun e r => gap e.1 (e.2 :: r)) (gap last [])
def pool (es : List (Nat × CpInfo)) (last : Nat) : Array CpInfo := ⟨poolList es last⟩
def fileOf (pool : Array CpInfo) (this : Nat) (attrs : Array Attribute := #[]) (ms : Array MethodInfo := #[]) (fl : Nat := 33) (sup : Nat := 0) (ifs : Array Nat := #[]) (fds : Array FieldInfo := #[]) : ClassFile where
  minorVersion := 0
  majorVersion := 65
  constantPool := pool
  accessFlags := fl
  thisClass := this
  superClass := sup
  interfaces := ifs
  fields := fds
  methods := ms
  attributes := attrs
def plain (name : String) (sup : Option ClassId) : Class where
  name := name
  kind := .ordinary
  loader := none
  accessFlags := 33
  super := sup
  interfaces := #[]
  cf := none
  fields := #[]
  methods := #[]
  instanceTypes := #[]
  staticTypes := #[]
  resolved := #[]
  callSites := []
  init := .initialized
  statics := none
  mirror := none

def pool0 : Array CpInfo := pool [(5, u "<init>"), (0, u "()V"), (1, .class_ 10), (1, u "java/lang/Object")] 113

def k0c0 : Code := { maxStack := 0, maxLocals := 1, code := object_method_1_code, exceptionTable := #[], attributes := #[] }
def k0m0 : Method := { name := "<init>", desc := "()V", sig := { parameters := [], returnType := none }, accessFlags := 1, code := some k0c0 }
/-- java/lang/Object -/
def k0 : Class := { plain "java/lang/Object" none with
  accessFlags := 33
  interfaces := #[]
  cf := some (fileOf pool0 8 #[] #[{ accessFlags := 1, nameIndex := 5, descriptorIndex := 6, attributes := #[] }] 33 0 #[] #[])
  fields := #[]
  methods := #[k0m0]
  instanceTypes := #[]
  staticTypes := #[]
  resolved := Array.replicate 124 none
  statics := none }

def pool1 : Array CpInfo := pool [(2, .class_ 4), (1, u "java/lang/Object"), (0, u "<init>"), (0, u "()V"), (0, .integer 65535), (0, .class_ 9), (0, u "java/lang/String"), (0, .methodref 8 11), (0, .nameAndType 5 12), (0, u "([C)V"), (0, .class_ 14), (0, u "com/example/auscult/auscult/SortValue"), (0, .methodref 13 16), (0, .nameAndType 5 17), (0, u "(Ljava/lang/String;II)V"), (0, .methodref 19 20), (0, .class_ 21), (0, .nameAndType 22 23), (0, u "com/example/auscult/auscult/SortValueHashCodePinLaw"), (0, u "term"), (0, u "([CIII)I"), (0, .methodref 13 25), (0, .nameAndType 26 27), (0, u "hashCode"), (0, u "()I"), (0, .methodref 19 29), (0, .nameAndType 30 31), (0, u "pow31"), (0, u "(I)I"), (0, .integer 923521), (2, u "law"), (0, u "(IIII)Z")] 5

def k1m0 : Method := { name := "<init>", desc := "()V", sig := { parameters := [], returnType := none }, accessFlags := 1, code := none }
def k1c1 : Code := { maxStack := 5, maxLocals := 10, code := code, exceptionTable := #[], attributes := #[] }
def k1m1 : Method := { name := "law", desc := "(IIII)Z", sig := { parameters := [.int, .int, .int, .int], returnType := some .boolean }, accessFlags := 9, code := some k1c1 }
def k1c2 : Code := { maxStack := 3, maxLocals := 4, code := method_3_code, exceptionTable := #[], attributes := #[] }
def k1m2 : Method := { name := "term", desc := "([CIII)I", sig := { parameters := [(.array .char), .int, .int, .int], returnType := some .int }, accessFlags := 10, code := some k1c2 }
def k1c3 : Code := { maxStack := 2, maxLocals := 1, code := method_4_code, exceptionTable := #[], attributes := #[] }
def k1m3 : Method := { name := "pow31", desc := "(I)I", sig := { parameters := [.int], returnType := some .int }, accessFlags := 10, code := some k1c3 }
/-- com/example/auscult/auscult/SortValueHashCodePinLaw -/
def k1 : Class := { plain "com/example/auscult/auscult/SortValueHashCodePinLaw" (some 0) with
  accessFlags := 49
  interfaces := #[]
  cf := some (fileOf pool1 19 #[] #[{ accessFlags := 1, nameIndex := 5, descriptorIndex := 6, attributes := #[] }, { accessFlags := 9, nameIndex := 35, descriptorIndex := 36, attributes := #[] }, { accessFlags := 10, nameIndex := 22, descriptorIndex := 23, attributes := #[] }, { accessFlags := 10, nameIndex := 30, descriptorIndex := 31, attributes := #[] }] 49 2 #[] #[])
  fields := #[]
  methods := #[k1m0, k1m1, k1m2, k1m3]
  instanceTypes := #[]
  staticTypes := #[]
  resolved := Array.replicate 42 none
  statics := none }

def pool2 : Array CpInfo := pool [(1, .class_ 2), (0, u "java/io/Serializable"), (0, .class_ 4), (0, u "java/lang/Object")] 2

/-- java/io/Serializable -/
def k2 : Class := { plain "java/io/Serializable" (some 0) with
  accessFlags := 1537
  interfaces := #[]
  cf := some (fileOf pool2 1 #[] #[] 1537 3 #[] #[])
  fields := #[]
  methods := #[]
  instanceTypes := #[]
  staticTypes := #[]
  resolved := Array.replicate 7 none
  statics := none }

def pool3 : Array CpInfo := pool [(1, .class_ 2), (0, u "java/lang/Comparable"), (0, .class_ 4), (0, u "java/lang/Object")] 7

/-- java/lang/Comparable -/
def k3 : Class := { plain "java/lang/Comparable" (some 0) with
  accessFlags := 1537
  interfaces := #[]
  cf := some (fileOf pool3 1 #[] #[] 1537 3 #[] #[])
  fields := #[]
  methods := #[]
  instanceTypes := #[]
  staticTypes := #[]
  resolved := Array.replicate 12 none
  statics := none }

def pool4 : Array CpInfo := pool [(2, .class_ 4), (1, u "java/lang/CharSequence"), (42, .class_ 48), (0, u "java/lang/CharSequence$1CodePointIterator"), (10, .class_ 60), (0, u "java/lang/CharSequence$1CharIterator"), (5, .class_ 67), (0, u "java/lang/Object")] 63

/-- java/lang/CharSequence -/
def k4 : Class := { plain "java/lang/CharSequence" (some 0) with
  accessFlags := 1537
  interfaces := #[]
  cf := some (fileOf pool4 2 #[.nestMembers #[47, 59]] #[] 1537 66 #[] #[])
  fields := #[]
  methods := #[]
  instanceTypes := #[]
  staticTypes := #[]
  resolved := Array.replicate 131 none
  statics := none }

def pool5 : Array CpInfo := pool [(1, .class_ 2), (0, u "java/lang/constant/Constable"), (0, .class_ 4), (0, u "java/lang/Object")] 6

/-- java/lang/constant/Constable -/
def k5 : Class := { plain "java/lang/constant/Constable" (some 0) with
  accessFlags := 1537
  interfaces := #[]
  cf := some (fileOf pool5 1 #[] #[] 1537 3 #[] #[])
  fields := #[]
  methods := #[]
  instanceTypes := #[]
  staticTypes := #[]
  resolved := Array.replicate 11 none
  statics := none }

def pool6 : Array CpInfo := pool [(1, .class_ 2), (0, u "java/lang/constant/ConstantDesc"), (0, .class_ 4), (0, u "java/lang/Object")] 32

/-- java/lang/constant/ConstantDesc -/
def k6 : Class := { plain "java/lang/constant/ConstantDesc" (some 0) with
  accessFlags := 1537
  interfaces := #[]
  cf := some (fileOf pool6 1 #[] #[] 1537 3 #[] #[])
  fields := #[]
  methods := #[]
  instanceTypes := #[]
  staticTypes := #[]
  resolved := Array.replicate 37 none
  statics := none }

def pool7 : Array CpInfo := pool [(1, .methodref 2 3), (0, .class_ 4), (0, .nameAndType 5 6), (0, u "java/lang/Object"), (0, u "<init>"), (0, u "()V"), (2, .fieldref 10 11), (0, .class_ 12), (0, .nameAndType 13 14), (0, u "java/lang/String"), (0, u "value"), (0, u "[B"), (0, .fieldref 10 16), (0, .nameAndType 17 18), (0, u "coder"), (0, u "B"), (2, u "hash"), (0, u "I"), (2, u "hashIsZero"), (0, u "Z"), (0, .methodref 10 28), (0, .nameAndType 5 29), (0, u "([CIILjava/lang/Void;)V"), (8, .fieldref 10 39), (0, .nameAndType 40 26), (0, u "COMPACT_STRINGS"), (1, .class_ 44), (1, u "java/lang/StringUTF16"), (0, u "compress"), (1, .methodref 42 48), (0, .nameAndType 49 50), (0, u "coderFromArrayLen"), (0, u "([BI)B"), (56, .class_ 109), (1, u "java/lang/StringLatin1"), (32, u "()Z"), (34, .methodref 42 178), (0, .nameAndType 45 179), (0, u "([CII)[B"), (154, u "()I"), (0, .methodref 10 336), (0, .nameAndType 17 337), (0, u "()B"), (25, u "([BI)C"), (27, u "(II)V"), (35, u "(I)C"), (64, .methodref 10 493), (0, .nameAndType 494 142), (0, u "isLatin1"), (0, .methodref 107 496), (0, .nameAndType 497 363), (0, u "charAt"), (0, .methodref 42 496), (2, u "checkIndex"), (5, u "length"), (67, .class_ 576), (0, u "java/lang/CharSequence"), (22, u "CASE_INSENSITIVE_ORDER"), (0, u "Ljava/util/Comparator;"), (409, u "([C)V"), (42, .fieldref 1054 1055), (0, .class_ 1056), (0, .nameAndType 1057 1058), (0, u "jdk/internal/util/Preconditions"), (0, u "SIOOBE_FORMATTER"), (0, u "Ljava/util/function/BiFunction;"), (0, .methodref 1054 1060), (0, .nameAndType 501 1061), (0, u "(IILjava/util/function/BiFunction;)I"), (39, u "serialPersistentFields"), (0, u "[Ljava/io/ObjectStreamField;"), (0, .class_ 1104), (0, u "java/lang/String$CaseInsensitiveComparator"), (1, .class_ 1107), (0, u "java/io/Serializable"), (0, .class_ 1109), (0, u "java/lang/Comparable"), (0, .class_ 1111), (0, u "java/lang/constant/Constable"), (0, .class_ 1113), (0, u "java/lang/constant/ConstantDesc"), (2, u "serialVersionUID"), (0, u "J"), (3, u "REPL"), (0, u "C"), (2, u "LATIN1"), (1, u "UTF16")] 323

def k7m0 : Method := { name := "<init>", desc := "()V", sig := { parameters := [], returnType := none }, accessFlags := 1, code := none }
def k7c1 : Code := { maxStack := 5, maxLocals := 2, code := jdk_42_method_3_code, exceptionTable := #[], attributes := #[] }
def k7m1 : Method := { name := "<init>", desc := "([C)V", sig := { parameters := [(.array .char)], returnType := none }, accessFlags := 1, code := some k7c1 }
def k7c2 : Code := { maxStack := 2, maxLocals := 1, code := jdk_42_method_54_code, exceptionTable := #[], attributes := #[] }
def k7m2 : Method := { name := "length", desc := "()I", sig := { parameters := [], returnType := some .int }, accessFlags := 1, code := some k7c2 }
def k7c3 : Code := { maxStack := 2, maxLocals := 2, code := jdk_42_method_56_code, exceptionTable := #[], attributes := #[] }
def k7m3 : Method := { name := "charAt", desc := "(I)C", sig := { parameters := [.int], returnType := some .char }, accessFlags := 1, code := some k7c3 }
def k7c4 : Code := { maxStack := 4, maxLocals := 6, code := jdk_42_method_149_code, exceptionTable := #[], attributes := #[] }
def k7m4 : Method := { name := "<init>", desc := "([CIILjava/lang/Void;)V", sig := { parameters := [(.array .char), .int, .int, (.object "java/lang/Void")], returnType := none }, accessFlags := 2, code := some k7c4 }
def k7c5 : Code := { maxStack := 1, maxLocals := 1, code := jdk_42_method_152_code, exceptionTable := #[], attributes := #[] }
def k7m5 : Method := { name := "coder", desc := "()B", sig := { parameters := [], returnType := some .byte }, accessFlags := 0, code := some k7c5 }
def k7c6 : Code := { maxStack := 1, maxLocals := 1, code := jdk_42_method_154_code, exceptionTable := #[], attributes := #[] }
def k7m6 : Method := { name := "isLatin1", desc := "()Z", sig := { parameters := [], returnType := some .boolean }, accessFlags := 0, code := some k7c6 }
def k7c7 : Code := { maxStack := 3, maxLocals := 2, code := jdk_42_method_155_code, exceptionTable := #[], attributes := #[] }
def k7m7 : Method := { name := "checkIndex", desc := "(II)V", sig := { parameters := [.int, .int], returnType := none }, accessFlags := 8, code := some k7c7 }
/-- java/lang/String -/
def k7 : Class := { plain "java/lang/String" (some 0) with
  accessFlags := 49
  interfaces := #[2, 3, 4, 5, 6]
  cf := some (fileOf pool7 10 #[.nestMembers #[1103]] #[{ accessFlags := 1, nameIndex := 5, descriptorIndex := 6, attributes := #[] }, { accessFlags := 1, nameIndex := 5, descriptorIndex := 1010, attributes := #[] }, { accessFlags := 1, nameIndex := 507, descriptorIndex := 334, attributes := #[] }, { accessFlags := 1, nameIndex := 497, descriptorIndex := 427, attributes := #[] }, { accessFlags := 2, nameIndex := 5, descriptorIndex := 29, attributes := #[] }, { accessFlags := 0, nameIndex := 17, descriptorIndex := 337, attributes := #[] }, { accessFlags := 0, nameIndex := 494, descriptorIndex := 142, attributes := #[] }, { accessFlags := 8, nameIndex := 501, descriptorIndex := 391, attributes := #[] }] 49 2 #[1106, 1108, 575, 1110, 1112] #[{ accessFlags := 18, nameIndex := 13, descriptorIndex := 14, attributes := #[] }, { accessFlags := 18, nameIndex := 17, descriptorIndex := 18, attributes := #[] }, { accessFlags := 2, nameIndex := 21, descriptorIndex := 22, attributes := #[] }, { accessFlags := 2, nameIndex := 25, descriptorIndex := 26, attributes := #[] }, { accessFlags := 26, nameIndex := 1116, descriptorIndex := 1117, attributes := #[] }, { accessFlags := 24, nameIndex := 40, descriptorIndex := 26, attributes := #[] }, { accessFlags := 26, nameIndex := 1101, descriptorIndex := 1102, attributes := #[] }, { accessFlags := 26, nameIndex := 1121, descriptorIndex := 1122, attributes := #[] }, { accessFlags := 25, nameIndex := 599, descriptorIndex := 600, attributes := #[] }, { accessFlags := 24, nameIndex := 1125, descriptorIndex := 18, attributes := #[] }, { accessFlags := 24, nameIndex := 1127, descriptorIndex := 18, attributes := #[] }])
  fields := #[{ name := "value", type := (.array .byte), accessFlags := 18, slot := 0, constantValue := 0 }, { name := "coder", type := .byte, accessFlags := 18, slot := 1, constantValue := 0 }, { name := "hash", type := .int, accessFlags := 2, slot := 2, constantValue := 0 }, { name := "hashIsZero", type := .boolean, accessFlags := 2, slot := 3, constantValue := 0 }, { name := "serialVersionUID", type := .long, accessFlags := 26, slot := 0, constantValue := 0 }, { name := "COMPACT_STRINGS", type := .boolean, accessFlags := 24, slot := 1, constantValue := 0 }, { name := "serialPersistentFields", type := (.array (.object "java/io/ObjectStreamField")), accessFlags := 26, slot := 2, constantValue := 0 }, { name := "REPL", type := .char, accessFlags := 26, slot := 3, constantValue := 0 }, { name := "CASE_INSENSITIVE_ORDER", type := (.object "java/util/Comparator"), accessFlags := 25, slot := 4, constantValue := 0 }, { name := "LATIN1", type := .byte, accessFlags := 24, slot := 5, constantValue := 0 }, { name := "UTF16", type := .byte, accessFlags := 24, slot := 6, constantValue := 0 }]
  methods := #[k7m0, k7m1, k7m2, k7m3, k7m4, k7m5, k7m6, k7m7]
  instanceTypes := #[(.array .byte), .byte, .int, .boolean]
  staticTypes := #[.long, .boolean, (.array (.object "java/io/ObjectStreamField")), .char, (.object "java/util/Comparator"), .byte, .byte]
  resolved := Array.replicate 1451 none
  statics := some 0 }

def pool8 : Array CpInfo := pool [(3, .class_ 4), (0, u "java/lang/String"), (1, .class_ 8), (1, u "java/lang/Object"), (0, u "<init>"), (0, u "()V"), (0, .methodref 12 13), (0, .class_ 14), (0, .nameAndType 15 16), (0, u "java/lang/StringUTF16"), (0, u "newBytesLength"), (0, u "(I)I"), (3, .integer 1073741823), (23, .fieldref 12 45), (0, .nameAndType 46 47), (0, u "$assertionsDisabled"), (0, u "Z"), (0, .methodref 12 49), (0, .nameAndType 50 51), (0, u "length"), (0, u "([B)I"), (7, .fieldref 12 60), (0, .nameAndType 61 62), (0, u "HI_BYTE_SHIFT"), (0, u "I"), (0, .fieldref 12 64), (0, .nameAndType 65 62), (0, u "LO_BYTE_SHIFT"), (1, .methodref 12 68), (0, .nameAndType 69 70), (0, u "checkIndex"), (0, u "(I[B)V"), (0, .methodref 12 72), (0, .nameAndType 73 74), (0, u "getChar"), (0, u "([BI)C"), (32, .methodref 12 108), (0, .nameAndType 109 110), (0, u "newBytesFor"), (0, u "(I)[B"), (0, .methodref 12 112), (0, .nameAndType 113 114), (0, u "putChar"), (0, u "([BII)V"), (0, .methodref 12 116), (0, .nameAndType 117 118), (0, u "compress"), (0, u "([CI[BII)I"), (0, .methodref 12 120), (0, .nameAndType 121 122), (0, u "toBytes"), (0, u "([CII)[B"), (138, u "coderFromArrayLen"), (0, u "([BI)B"), (106, .class_ 371), (1, u "java/lang/StringUTF16$LinesSpliterator"), (20, u "charAt"), (21, .methodref 3 415), (0, .nameAndType 69 416), (0, u "(II)V"), (13, u "MAX_LENGTH"), (196, .class_ 628), (0, u "java/lang/StringUTF16$CodePointsSpliterator"), (0, .class_ 630), (0, u "java/lang/StringUTF16$CharsSpliterator")] 4

def k8m0 : Method := { name := "<init>", desc := "()V", sig := { parameters := [], returnType := none }, accessFlags := 0, code := none }
def k8c1 : Code := { maxStack := 1, maxLocals := 1, code := jdk_52_method_2_code, exceptionTable := #[], attributes := #[] }
def k8m1 : Method := { name := "newBytesFor", desc := "(I)[B", sig := { parameters := [.int], returnType := some (.array .byte) }, accessFlags := 9, code := some k8c1 }
def k8c2 : Code := { maxStack := 4, maxLocals := 1, code := jdk_52_method_3_code, exceptionTable := #[], attributes := #[] }
def k8m2 : Method := { name := "newBytesLength", desc := "(I)I", sig := { parameters := [.int], returnType := some .int }, accessFlags := 9, code := some k8c2 }
def k8c3 : Code := { maxStack := 4, maxLocals := 3, code := jdk_52_method_4_code, exceptionTable := #[], attributes := #[] }
def k8m3 : Method := { name := "putChar", desc := "([BII)V", sig := { parameters := [(.array .byte), .int, .int], returnType := none }, accessFlags := 8, code := some k8c3 }
def k8c4 : Code := { maxStack := 3, maxLocals := 2, code := jdk_52_method_5_code, exceptionTable := #[], attributes := #[] }
def k8m4 : Method := { name := "getChar", desc := "([BI)C", sig := { parameters := [(.array .byte), .int], returnType := some .char }, accessFlags := 8, code := some k8c4 }
def k8c5 : Code := { maxStack := 2, maxLocals := 1, code := jdk_52_method_6_code, exceptionTable := #[], attributes := #[] }
def k8m5 : Method := { name := "length", desc := "([B)I", sig := { parameters := [(.array .byte)], returnType := some .int }, accessFlags := 9, code := some k8c5 }
def k8c6 : Code := { maxStack := 4, maxLocals := 5, code := jdk_52_method_14_code, exceptionTable := #[], attributes := #[] }
def k8m6 : Method := { name := "toBytes", desc := "([CII)[B", sig := { parameters := [(.array .char), .int, .int], returnType := some (.array .byte) }, accessFlags := 9, code := some k8c6 }
def k8c7 : Code := { maxStack := 2, maxLocals := 2, code := jdk_52_method_15_code, exceptionTable := #[], attributes := #[] }
def k8m7 : Method := { name := "coderFromArrayLen", desc := "([BI)B", sig := { parameters := [(.array .byte), .int], returnType := some .byte }, accessFlags := 8, code := some k8c7 }
def k8c8 : Code := { maxStack := 5, maxLocals := 6, code := jdk_52_method_16_code, exceptionTable := #[], attributes := #[] }
def k8m8 : Method := { name := "compress", desc := "([CII)[B", sig := { parameters := [(.array .char), .int, .int], returnType := some (.array .byte) }, accessFlags := 9, code := some k8c8 }
def k8c9 : Code := { maxStack := 3, maxLocals := 7, code := jdk_52_method_21_code, exceptionTable := #[], attributes := #[] }
def k8m9 : Method := { name := "compress", desc := "([CI[BII)I", sig := { parameters := [(.array .char), .int, (.array .byte), .int, .int], returnType := some .int }, accessFlags := 9, code := some k8c9 }
def k8c10 : Code := { maxStack := 2, maxLocals := 2, code := jdk_52_method_83_code, exceptionTable := #[], attributes := #[] }
def k8m10 : Method := { name := "charAt", desc := "([BI)C", sig := { parameters := [(.array .byte), .int], returnType := some .char }, accessFlags := 9, code := some k8c10 }
def k8c11 : Code := { maxStack := 2, maxLocals := 2, code := jdk_52_method_91_code, exceptionTable := #[], attributes := #[] }
def k8m11 : Method := { name := "checkIndex", desc := "(I[B)V", sig := { parameters := [.int, (.array .byte)], returnType := none }, accessFlags := 9, code := some k8c11 }
/-- java/lang/StringUTF16 -/
def k8 : Class := { plain "java/lang/StringUTF16" (some 0) with
  accessFlags := 48
  interfaces := #[]
  cf := some (fileOf pool8 12 #[.nestMembers #[627, 629, 369]] #[{ accessFlags := 0, nameIndex := 9, descriptorIndex := 10, attributes := #[] }, { accessFlags := 9, nameIndex := 109, descriptorIndex := 110, attributes := #[] }, { accessFlags := 9, nameIndex := 15, descriptorIndex := 16, attributes := #[] }, { accessFlags := 8, nameIndex := 113, descriptorIndex := 114, attributes := #[] }, { accessFlags := 8, nameIndex := 73, descriptorIndex := 74, attributes := #[] }, { accessFlags := 9, nameIndex := 50, descriptorIndex := 51, attributes := #[] }, { accessFlags := 9, nameIndex := 121, descriptorIndex := 122, attributes := #[] }, { accessFlags := 8, nameIndex := 261, descriptorIndex := 262, attributes := #[] }, { accessFlags := 9, nameIndex := 117, descriptorIndex := 122, attributes := #[] }, { accessFlags := 9, nameIndex := 117, descriptorIndex := 118, attributes := #[] }, { accessFlags := 9, nameIndex := 392, descriptorIndex := 74, attributes := #[] }, { accessFlags := 9, nameIndex := 69, descriptorIndex := 70, attributes := #[] }] 48 6 #[] #[{ accessFlags := 26, nameIndex := 61, descriptorIndex := 62, attributes := #[] }, { accessFlags := 26, nameIndex := 65, descriptorIndex := 62, attributes := #[] }, { accessFlags := 24, nameIndex := 430, descriptorIndex := 62, attributes := #[] }, { accessFlags := 4120, nameIndex := 46, descriptorIndex := 47, attributes := #[] }])
  fields := #[{ name := "HI_BYTE_SHIFT", type := .int, accessFlags := 26, slot := 0, constantValue := 0 }, { name := "LO_BYTE_SHIFT", type := .int, accessFlags := 26, slot := 1, constantValue := 0 }, { name := "MAX_LENGTH", type := .int, accessFlags := 24, slot := 2, constantValue := 0 }, { name := "$assertionsDisabled", type := .boolean, accessFlags := 4120, slot := 3, constantValue := 0 }]
  methods := #[k8m0, k8m1, k8m2, k8m3, k8m4, k8m5, k8m6, k8m7, k8m8, k8m9, k8m10, k8m11]
  instanceTypes := #[]
  staticTypes := #[.int, .int, .int, .boolean]
  resolved := Array.replicate 635 none
  statics := some 1 }

def pool9 : Array CpInfo := pool [(1, .methodref 2 3), (0, .class_ 4), (0, .nameAndType 5 6), (0, u "java/lang/Object"), (0, u "<init>"), (0, u "()V"), (0, .class_ 8), (0, u "java/lang/Record")] 13

def k9c0 : Code := { maxStack := 1, maxLocals := 1, code := jdk_30_method_1_code, exceptionTable := #[], attributes := #[] }
def k9m0 : Method := { name := "<init>", desc := "()V", sig := { parameters := [], returnType := none }, accessFlags := 4, code := some k9c0 }
/-- java/lang/Record -/
def k9 : Class := { plain "java/lang/Record" (some 0) with
  accessFlags := 1057
  interfaces := #[]
  cf := some (fileOf pool9 7 #[] #[{ accessFlags := 4, nameIndex := 5, descriptorIndex := 6, attributes := #[] }] 1057 2 #[] #[])
  fields := #[]
  methods := #[k9m0]
  instanceTypes := #[]
  staticTypes := #[]
  resolved := Array.replicate 22 none
  statics := none }

def pool10 : Array CpInfo := pool [(1, .methodref 2 3), (0, .class_ 4), (0, .nameAndType 5 6), (0, u "java/lang/Record"), (0, u "<init>"), (0, u "()V"), (0, .methodref 8 9), (0, .class_ 10), (0, .nameAndType 11 12), (0, u "java/lang/String"), (0, u "length"), (0, u "()I"), (0, .methodref 14 15), (0, .class_ 16), (0, .nameAndType 17 18), (0, u "java/util/Objects"), (0, u "checkFromToIndex"), (0, u "(III)I"), (0, .fieldref 20 21), (0, .class_ 22), (0, .nameAndType 23 24), (0, u "com/example/auscult/auscult/SortValue"), (0, u "key"), (0, u "Ljava/lang/String;"), (0, .fieldref 20 26), (0, .nameAndType 27 28), (0, u "start"), (0, u "I"), (0, .fieldref 20 30), (0, .nameAndType 31 28), (0, u "end"), (2, u "(Ljava/lang/String;II)V"), (10, .methodref 8 46), (0, .nameAndType 47 48), (0, u "charAt"), (0, u "(I)C"), (12, .class_ 62), (0, u "java/lang/Comparable"), (8, u "hashCode")] 7

def k10c0 : Code := { maxStack := 3, maxLocals := 4, code := prog_35_method_1_code, exceptionTable := #[], attributes := #[] }
def k10m0 : Method := { name := "<init>", desc := "(Ljava/lang/String;II)V", sig := { parameters := [(.object "java/lang/String"), .int, .int], returnType := none }, accessFlags := 0, code := some k10c0 }
def k10c1 : Code := { maxStack := 3, maxLocals := 3, code := prog_35_method_7_code, exceptionTable := #[], attributes := #[] }
def k10m1 : Method := { name := "hashCode", desc := "()I", sig := { parameters := [], returnType := some .int }, accessFlags := 1, code := some k10c1 }
/-- com/example/auscult/auscult/SortValue -/
def k10 : Class := { plain "com/example/auscult/auscult/SortValue" (some 9) with
  accessFlags := 48
  interfaces := #[3]
  cf := some (fileOf pool10 20 #[] #[{ accessFlags := 0, nameIndex := 5, descriptorIndex := 34, attributes := #[] }, { accessFlags := 1, nameIndex := 71, descriptorIndex := 12, attributes := #[] }] 48 2 #[61] #[{ accessFlags := 18, nameIndex := 23, descriptorIndex := 24, attributes := #[] }, { accessFlags := 18, nameIndex := 27, descriptorIndex := 28, attributes := #[] }, { accessFlags := 18, nameIndex := 31, descriptorIndex := 28, attributes := #[] }])
  fields := #[{ name := "key", type := (.object "java/lang/String"), accessFlags := 18, slot := 0, constantValue := 0 }, { name := "start", type := .int, accessFlags := 18, slot := 1, constantValue := 0 }, { name := "end", type := .int, accessFlags := 18, slot := 2, constantValue := 0 }]
  methods := #[k10m0, k10m1]
  instanceTypes := #[(.object "java/lang/String"), .int, .int]
  staticTypes := #[]
  resolved := Array.replicate 79 none
  statics := none }

def pool11 : Array CpInfo := pool [(2, .class_ 4), (1, u "java/lang/Object"), (0, u "<init>"), (0, u "()V"), (35, .class_ 44), (1, u "java/util/Objects"), (61, .class_ 108), (1, u "jdk/internal/util/Preconditions"), (2, .methodref 106 112), (0, .nameAndType 113 114), (0, u "checkFromToIndex"), (0, u "(IIILjava/util/function/BiFunction;)I"), (60, u "(III)I")] 8

def k11m0 : Method := { name := "<init>", desc := "()V", sig := { parameters := [], returnType := none }, accessFlags := 2, code := none }
def k11c1 : Code := { maxStack := 4, maxLocals := 3, code := jdk_31_method_18_code, exceptionTable := #[], attributes := #[] }
def k11m1 : Method := { name := "checkFromToIndex", desc := "(III)I", sig := { parameters := [.int, .int, .int], returnType := some .int }, accessFlags := 9, code := some k11c1 }
/-- java/util/Objects -/
def k11 : Class := { plain "java/util/Objects" (some 0) with
  accessFlags := 49
  interfaces := #[]
  cf := some (fileOf pool11 42 #[] #[{ accessFlags := 2, nameIndex := 5, descriptorIndex := 6, attributes := #[] }, { accessFlags := 9, nameIndex := 113, descriptorIndex := 175, attributes := #[] }] 49 2 #[] #[])
  fields := #[]
  methods := #[k11m0, k11m1]
  instanceTypes := #[]
  staticTypes := #[]
  resolved := Array.replicate 184 none
  statics := none }

def pool12 : Array CpInfo := pool [(2, .class_ 4), (1, u "java/lang/Object"), (0, u "<init>"), (0, u "()V"), (17, .class_ 26), (1, u "jdk/internal/util/Preconditions"), (6, u "checkIndex"), (13, u "checkFromToIndex"), (7, .class_ 56), (0, u "jdk/internal/util/Preconditions$4"), (57, .class_ 115), (0, u "jdk/internal/util/Preconditions$1"), (7, u "SIOOBE_FORMATTER"), (0, u "Ljava/util/function/BiFunction;"), (0, .class_ 126), (0, u "jdk/internal/util/Preconditions$2"), (3, u "AIOOBE_FORMATTER"), (0, .class_ 132), (0, u "jdk/internal/util/Preconditions$3"), (3, u "IOOBE_FORMATTER"), (41, u "(IILjava/util/function/BiFunction;)I"), (4, u "(IIILjava/util/function/BiFunction;)I")] 10

def k12m0 : Method := { name := "<init>", desc := "()V", sig := { parameters := [], returnType := none }, accessFlags := 1, code := none }
def k12c1 : Code := { maxStack := 3, maxLocals := 3, code := jdk_41_method_11_code, exceptionTable := #[], attributes := #[] }
def k12m1 : Method := { name := "checkIndex", desc := "(IILjava/util/function/BiFunction;)I", sig := { parameters := [.int, .int, (.object "java/util/function/BiFunction")], returnType := some .int }, accessFlags := 9, code := some k12c1 }
def k12c2 : Code := { maxStack := 4, maxLocals := 4, code := jdk_41_method_12_code, exceptionTable := #[], attributes := #[] }
def k12m2 : Method := { name := "checkFromToIndex", desc := "(IIILjava/util/function/BiFunction;)I", sig := { parameters := [.int, .int, .int, (.object "java/util/function/BiFunction")], returnType := some .int }, accessFlags := 9, code := some k12c2 }
/-- jdk/internal/util/Preconditions -/
def k12 : Class := { plain "jdk/internal/util/Preconditions" (some 0) with
  accessFlags := 33
  interfaces := #[]
  cf := some (fileOf pool12 24 #[.nestMembers #[55, 131, 125, 114]] #[{ accessFlags := 1, nameIndex := 5, descriptorIndex := 6, attributes := #[] }, { accessFlags := 9, nameIndex := 33, descriptorIndex := 178, attributes := #[] }, { accessFlags := 9, nameIndex := 47, descriptorIndex := 183, attributes := #[] }] 33 2 #[] #[{ accessFlags := 25, nameIndex := 123, descriptorIndex := 124, attributes := #[] }, { accessFlags := 25, nameIndex := 130, descriptorIndex := 124, attributes := #[] }, { accessFlags := 25, nameIndex := 136, descriptorIndex := 124, attributes := #[] }])
  fields := #[{ name := "SIOOBE_FORMATTER", type := (.object "java/util/function/BiFunction"), accessFlags := 25, slot := 0, constantValue := 0 }, { name := "AIOOBE_FORMATTER", type := (.object "java/util/function/BiFunction"), accessFlags := 25, slot := 1, constantValue := 0 }, { name := "IOOBE_FORMATTER", type := (.object "java/util/function/BiFunction"), accessFlags := 25, slot := 2, constantValue := 0 }]
  methods := #[k12m0, k12m1, k12m2]
  instanceTypes := #[]
  staticTypes := #[(.object "java/util/function/BiFunction"), (.object "java/util/function/BiFunction"), (.object "java/util/function/BiFunction")]
  resolved := Array.replicate 194 none
  statics := some 2 }

def pool13 : Array CpInfo := pool [(1, .class_ 2), (0, u "java/lang/String"), (1, .class_ 6), (1, u "java/lang/Object"), (0, u "<init>"), (0, u "()V"), (0, .methodref 1 10), (0, .nameAndType 11 12), (0, u "checkIndex"), (0, u "(II)V"), (1, .class_ 16), (1, u "java/lang/StringLatin1"), (36, u "([BI)C"), (67, u "$assertionsDisabled"), (0, u "Z"), (98, .class_ 223), (1, u "java/lang/StringLatin1$LinesSpliterator"), (28, u "charAt"), (137, .class_ 391), (0, u "java/lang/StringLatin1$CharsSpliterator")] 3

def k13m0 : Method := { name := "<init>", desc := "()V", sig := { parameters := [], returnType := none }, accessFlags := 0, code := none }
def k13c1 : Code := { maxStack := 2, maxLocals := 2, code := jdk_43_method_2_code, exceptionTable := #[], attributes := #[] }
def k13m1 : Method := { name := "charAt", desc := "([BI)C", sig := { parameters := [(.array .byte), .int], returnType := some .char }, accessFlags := 9, code := some k13c1 }
/-- java/lang/StringLatin1 -/
def k13 : Class := { plain "java/lang/StringLatin1" (some 0) with
  accessFlags := 48
  interfaces := #[]
  cf := some (fileOf pool13 14 #[.nestMembers #[390, 221]] #[{ accessFlags := 0, nameIndex := 7, descriptorIndex := 8, attributes := #[] }, { accessFlags := 9, nameIndex := 252, descriptorIndex := 53, attributes := #[] }] 48 4 #[] #[{ accessFlags := 4120, nameIndex := 121, descriptorIndex := 122, attributes := #[] }])
  fields := #[{ name := "$assertionsDisabled", type := .boolean, accessFlags := 4120, slot := 0, constantValue := 0 }]
  methods := #[k13m0, k13m1]
  instanceTypes := #[]
  staticTypes := #[.boolean]
  resolved := Array.replicate 395 none
  statics := none }

def pool14 : Array CpInfo := pool [(9, u "<init>"), (6, .class_ 18), (1, u "java/lang/Object"), (0, u "()V"), (1, .class_ 23), (1, u "jdk/internal/util/ArraysSupport"), (0, u "LOG2_ARRAY_LONG_INDEX_SCALE"), (0, u "I"), (2, u "U"), (0, u "Ljdk/internal/misc/Unsafe;"), (8, u "BIG_ENDIAN"), (0, u "Z"), (8, u "LOG2_BYTE_BIT_SIZE"), (4, u "LOG2_ARRAY_INT_INDEX_SCALE"), (54, u "JLA"), (0, u "Ljdk/internal/access/JavaLangAccess;"), (11, u "LOG2_ARRAY_BOOLEAN_INDEX_SCALE"), (9, u "LOG2_ARRAY_BYTE_INDEX_SCALE"), (5, u "LOG2_ARRAY_CHAR_INDEX_SCALE"), (5, u "LOG2_ARRAY_SHORT_INDEX_SCALE"), (18, u "LOG2_ARRAY_FLOAT_INDEX_SCALE"), (24, u "LOG2_ARRAY_DOUBLE_INDEX_SCALE"), (89, u "T_BOOLEAN"), (2, u "T_CHAR"), (1, u "T_FLOAT"), (1, u "T_DOUBLE"), (1, u "T_BYTE"), (1, u "T_SHORT"), (1, u "T_INT"), (1, u "T_LONG"), (1, u "SOFT_MAX_ARRAY_LENGTH")] 83

def k14m0 : Method := { name := "<init>", desc := "()V", sig := { parameters := [], returnType := none }, accessFlags := 2, code := none }
/-- jdk/internal/util/ArraysSupport -/
def k14 : Class := { plain "jdk/internal/util/ArraysSupport" (some 0) with
  accessFlags := 33
  interfaces := #[]
  cf := some (fileOf pool14 21 #[] #[{ accessFlags := 2, nameIndex := 9, descriptorIndex := 19, attributes := #[] }] 33 16 #[] #[{ accessFlags := 24, nameIndex := 28, descriptorIndex := 29, attributes := #[] }, { accessFlags := 26, nameIndex := 38, descriptorIndex := 39, attributes := #[] }, { accessFlags := 25, nameIndex := 121, descriptorIndex := 25, attributes := #[] }, { accessFlags := 25, nameIndex := 131, descriptorIndex := 25, attributes := #[] }, { accessFlags := 25, nameIndex := 137, descriptorIndex := 25, attributes := #[] }, { accessFlags := 25, nameIndex := 143, descriptorIndex := 25, attributes := #[] }, { accessFlags := 25, nameIndex := 53, descriptorIndex := 25, attributes := #[] }, { accessFlags := 25, nameIndex := 24, descriptorIndex := 25, attributes := #[] }, { accessFlags := 25, nameIndex := 162, descriptorIndex := 25, attributes := #[] }, { accessFlags := 25, nameIndex := 187, descriptorIndex := 25, attributes := #[] }, { accessFlags := 26, nameIndex := 48, descriptorIndex := 25, attributes := #[] }, { accessFlags := 25, nameIndex := 277, descriptorIndex := 25, attributes := #[] }, { accessFlags := 25, nameIndex := 280, descriptorIndex := 25, attributes := #[] }, { accessFlags := 25, nameIndex := 282, descriptorIndex := 25, attributes := #[] }, { accessFlags := 25, nameIndex := 284, descriptorIndex := 25, attributes := #[] }, { accessFlags := 25, nameIndex := 286, descriptorIndex := 25, attributes := #[] }, { accessFlags := 25, nameIndex := 288, descriptorIndex := 25, attributes := #[] }, { accessFlags := 25, nameIndex := 290, descriptorIndex := 25, attributes := #[] }, { accessFlags := 25, nameIndex := 292, descriptorIndex := 25, attributes := #[] }, { accessFlags := 26, nameIndex := 108, descriptorIndex := 109, attributes := #[] }, { accessFlags := 25, nameIndex := 294, descriptorIndex := 25, attributes := #[] }])
  fields := #[{ name := "U", type := (.object "jdk/internal/misc/Unsafe"), accessFlags := 24, slot := 0, constantValue := 0 }, { name := "BIG_ENDIAN", type := .boolean, accessFlags := 26, slot := 1, constantValue := 0 }, { name := "LOG2_ARRAY_BOOLEAN_INDEX_SCALE", type := .int, accessFlags := 25, slot := 2, constantValue := 0 }, { name := "LOG2_ARRAY_BYTE_INDEX_SCALE", type := .int, accessFlags := 25, slot := 3, constantValue := 0 }, { name := "LOG2_ARRAY_CHAR_INDEX_SCALE", type := .int, accessFlags := 25, slot := 4, constantValue := 0 }, { name := "LOG2_ARRAY_SHORT_INDEX_SCALE", type := .int, accessFlags := 25, slot := 5, constantValue := 0 }, { name := "LOG2_ARRAY_INT_INDEX_SCALE", type := .int, accessFlags := 25, slot := 6, constantValue := 0 }, { name := "LOG2_ARRAY_LONG_INDEX_SCALE", type := .int, accessFlags := 25, slot := 7, constantValue := 0 }, { name := "LOG2_ARRAY_FLOAT_INDEX_SCALE", type := .int, accessFlags := 25, slot := 8, constantValue := 0 }, { name := "LOG2_ARRAY_DOUBLE_INDEX_SCALE", type := .int, accessFlags := 25, slot := 9, constantValue := 0 }, { name := "LOG2_BYTE_BIT_SIZE", type := .int, accessFlags := 26, slot := 10, constantValue := 0 }, { name := "T_BOOLEAN", type := .int, accessFlags := 25, slot := 11, constantValue := 0 }, { name := "T_CHAR", type := .int, accessFlags := 25, slot := 12, constantValue := 0 }, { name := "T_FLOAT", type := .int, accessFlags := 25, slot := 13, constantValue := 0 }, { name := "T_DOUBLE", type := .int, accessFlags := 25, slot := 14, constantValue := 0 }, { name := "T_BYTE", type := .int, accessFlags := 25, slot := 15, constantValue := 0 }, { name := "T_SHORT", type := .int, accessFlags := 25, slot := 16, constantValue := 0 }, { name := "T_INT", type := .int, accessFlags := 25, slot := 17, constantValue := 0 }, { name := "T_LONG", type := .int, accessFlags := 25, slot := 18, constantValue := 0 }, { name := "JLA", type := (.object "jdk/internal/access/JavaLangAccess"), accessFlags := 26, slot := 19, constantValue := 0 }, { name := "SOFT_MAX_ARRAY_LENGTH", type := .int, accessFlags := 25, slot := 20, constantValue := 0 }]
  methods := #[k14m0]
  instanceTypes := #[]
  staticTypes := #[(.object "jdk/internal/misc/Unsafe"), .boolean, .int, .int, .int, .int, .int, .int, .int, .int, .int, .int, .int, .int, .int, .int, .int, .int, .int, (.object "jdk/internal/access/JavaLangAccess"), .int]
  resolved := Array.replicate 378 none
  statics := none }

def pool15 : Array CpInfo := pool [(1, u "java/lang/Cloneable"), (0, .class_ 1), (0, u "java/lang/Object"), (0, .class_ 3)] 3

/-- java/lang/Cloneable -/
def k15 : Class := { plain "java/lang/Cloneable" (some 0) with
  accessFlags := 1537
  interfaces := #[]
  cf := some (fileOf pool15 2 #[] #[] 1537 4 #[] #[])
  fields := #[]
  methods := #[]
  instanceTypes := #[]
  staticTypes := #[]
  resolved := Array.replicate 8 none
  statics := none }

/-- the primitive byte -/
def k16 : Class := { plain "byte" none with kind := .primitive 'B', accessFlags := 0x411 }
/-- [B -/
def k17 : Class := { plain "[B" (some 0) with kind := .array 16 .byte, interfaces := #[15, 2], accessFlags := 1041 }

/-- the primitive char -/
def k18 : Class := { plain "char" none with kind := .primitive 'C', accessFlags := 0x411 }
/-- [C -/
def k19 : Class := { plain "[C" (some 0) with kind := .array 18 .char, interfaces := #[15, 2], accessFlags := 1041 }

/-- the primitive int -/
def k20 : Class := { plain "int" none with kind := .primitive 'I', accessFlags := 0x411 }
/-- [I -/
def k21 : Class := { plain "[I" (some 0) with kind := .array 20 .int, interfaces := #[15, 2], accessFlags := 1041 }

def heap : Heap := #[{ cls := 7, slots := #[.long 0, .int 1, .null, .int 0, .null, .int 0, .int 0], vm := .statics 7 },
  { cls := 8, slots := #[.int 0, .int 8, .int 0, .int 1], vm := .statics 8 },
  { cls := 12, slots := #[.null, .null, .null], vm := .statics 12 }]
def classes : Array Class := #[k0, k1, k2, k3, k4, k5, k6, k7, k8, k9, k10, k11, k12, k13, k14, k15, k16, k17, k18, k19, k20, k21]
def interned : List (Array UInt16 × Addr) := []
def slotsUsed : Nat := 14
def theMethod : MethodId := ⟨1, 1⟩
def args0 : Array Value := #[.int 5, .int 3, .int 5, .int 1]
def aboutOver (below : List Frame) : State where
  vm := { classes := classes, interned := interned.toArray }
  heap := heap
  slotsUsed := slotsUsed
  threads := #[{ frames := .invoking theMethod args0 :: below }]
def below0 : List Frame := [.native { method := ⟨0, 0⟩, args := #[] }]
def about1 : State := aboutOver below0
def p0 : Program := .bare "" "" ""
def e0 : Env := launch0.env 0 0 0
theorem w_frames : about1.frames = Frame.invoking theMethod args0 :: below0 := rfl
set_option maxRecDepth 65536 in
theorem w_args : argsFit about1.vm theMethod args0 = true := by decide +kernel
set_option maxRecDepth 65536 in
theorem w_heap : heapFits about1 = true := by decide +kernel
set_option maxRecDepth 65536 in
theorem w_runnable : about1.curStatus? = some .runnable := by decide +kernel
set_option maxRecDepth 65536 in
theorem w_alone : about1.alone = true := by decide +kernel
set_option maxRecDepth 65536 in
theorem w_named : about1.methodNamed? x = some theMethod := by decide +kernel
set_option maxRecDepth 65536 in
theorem w_hears : about1.hears theMethod below0 = true := by decide +kernel
set_option maxRecDepth 65536 in
theorem w_ripe : about1.ripe theMethod args0 below0 = true := by decide +kernel
theorem w_running : about1.status = .running := rfl
set_option maxRecDepth 65536 in
theorem w_room : about1.hasRoom e0.platform room_1 = true :=
  launch0.hasRoom_least _ room_1 (by decide +kernel) (by decide +kernel) (by decide +kernel) (by decide +kernel) (by decide +kernel) (by decide +kernel)
theorem allAtoms_all (ts : List Jvm.Cond) (a : Array Jvm.Value) (st : Jvm.State) : (allAtoms ts).before a st = ts.all (fun c => c.before a st) := by
  induction ts with
  | nil => rfl
  | cons c t ih =>
    show (Jvm.Cond.and c (allAtoms t)).before a st = _
    rw [Jvm.Cond.before_and, ih, List.all_cons]
def words1 : List Jvm.Cond := Jvm.Cond.code x code maxLocals ret :: tables_1
/-- a 'code' word, met by the world's own term for the bytes: nothing is compared byte by byte -/
theorem code_word {y : MethodName} {bytes : ByteArray} {mx : Nat} {rt : Option FieldType} {a : Array Value} {s : State} {m : MethodId} {meth : Method} {c : Code} (h1 : s.methodNamed? y = some m) (h2 : s.vm.method? m = some meth) (h3 : meth.code = some c) (h4 : c.code = bytes)
    (h5 : (c.maxLocals == mx && c.exceptionTable.isEmpty && decide (c.maxStack ≤ mostOperands) && decide (meth.sig.returnType = rt) && !meth.locks && decide (parseMethodDescriptor y.desc = some meth.sig)) = true) : (Jvm.Cond.code y bytes mx rt).before a s = true := by
  simp only [Bool.and_eq_true, beq_iff_eq, Bool.not_eq_true', decide_eq_true_eq] at h5
  obtain ⟨⟨⟨⟨⟨g1, g2⟩, g3⟩, g4⟩, g5⟩, g6⟩ := h5
  simp [Cond.before, Cond.holds, Cond.value, h1, h2, h3, h4, g1, g2, g3, g4, g5, g6]
def isCode : Jvm.Cond → Bool
  | .code _ _ _ _ => true
  | _ => false
theorem all_split {L : List Jvm.Cond} {P : Jvm.Cond → Bool} (h1 : L.all (fun c => isCode c || P c) = true) (h2 : ∀ c ∈ L.filter isCode, P c = true) : L.all P = true := by
  refine List.all_eq_true.mpr fun c hc => ?_
  have h := List.all_eq_true.mp h1 c hc
  rcases Bool.eq_false_or_eq_true (isCode c) with hi | hi
  · exact h2 c (List.mem_filter.mpr ⟨hc, hi⟩)
  · simpa [hi] using h
set_option maxRecDepth 65536 in
theorem w_c0 : (Jvm.Cond.code x code maxLocals ret).before args0 about1 = true := code_word (m := ⟨1, 1⟩) (meth := k1m1) (c := k1c1) (by decide +kernel) rfl rfl rfl (by decide +kernel)
set_option maxRecDepth 65536 in
theorem w_c1 : (Jvm.Cond.code ({ cls := "java/lang/String", name := "<init>", desc := "([C)V" } : Jvm.MethodName) jdk_42_method_3_code (2 : Nat) (Option.none : Option Jvm.ClassFile.FieldType)).before args0 about1 = true := code_word (m := ⟨7, 1⟩) (meth := k7m1) (c := k7c1) (by decide +kernel) rfl rfl rfl (by decide +kernel)
set_option maxRecDepth 65536 in
theorem w_c2 : (Jvm.Cond.code ({ cls := "java/lang/String", name := "<init>", desc := "([CIILjava/lang/Void;)V" } : Jvm.MethodName) jdk_42_method_149_code (6 : Nat) (Option.none : Option Jvm.ClassFile.FieldType)).before args0 about1 = true := code_word (m := ⟨7, 4⟩) (meth := k7m4) (c := k7c4) (by decide +kernel) rfl rfl rfl (by decide +kernel)
set_option maxRecDepth 65536 in
theorem w_c3 : (Jvm.Cond.code ({ cls := "java/lang/Object", name := "<init>", desc := "()V" } : Jvm.MethodName) object_method_1_code (1 : Nat) (Option.none : Option Jvm.ClassFile.FieldType)).before args0 about1 = true := code_word (m := ⟨0, 0⟩) (meth := k0m0) (c := k0c0) (by decide +kernel) rfl rfl rfl (by decide +kernel)
set_option maxRecDepth 65536 in
theorem w_c4 : (Jvm.Cond.code ({ cls := "java/lang/StringUTF16", name := "compress", desc := "([CII)[B" } : Jvm.MethodName) jdk_52_method_16_code (6 : Nat) (Option.some (Jvm.ClassFile.FieldType.array Jvm.ClassFile.FieldType.byte))).before args0 about1 = true := code_word (m := ⟨8, 8⟩) (meth := k8m8) (c := k8c8) (by decide +kernel) rfl rfl rfl (by decide +kernel)
set_option maxRecDepth 65536 in
theorem w_c5 : (Jvm.Cond.code ({ cls := "java/lang/StringUTF16", name := "compress", desc := "([CI[BII)I" } : Jvm.MethodName) jdk_52_method_21_code (7 : Nat) (Option.some Jvm.ClassFile.FieldType.int)).before args0 about1 = true := code_word (m := ⟨8, 9⟩) (meth := k8m9) (c := k8c9) (by decide +kernel) rfl rfl rfl (by decide +kernel)
set_option maxRecDepth 65536 in
theorem w_c6 : (Jvm.Cond.code ({ cls := "java/lang/StringUTF16", name := "coderFromArrayLen", desc := "([BI)B" } : Jvm.MethodName) jdk_52_method_15_code (2 : Nat) (Option.some Jvm.ClassFile.FieldType.byte)).before args0 about1 = true := code_word (m := ⟨8, 7⟩) (meth := k8m7) (c := k8c7) (by decide +kernel) rfl rfl rfl (by decide +kernel)
set_option maxRecDepth 65536 in
theorem w_c7 : (Jvm.Cond.code ({ cls := "com/example/auscult/auscult/SortValue", name := "<init>", desc := "(Ljava/lang/String;II)V" } : Jvm.MethodName) prog_35_method_1_code (4 : Nat) (Option.none : Option Jvm.ClassFile.FieldType)).before args0 about1 = true := code_word (m := ⟨10, 0⟩) (meth := k10m0) (c := k10c0) (by decide +kernel) rfl rfl rfl (by decide +kernel)
set_option maxRecDepth 65536 in
theorem w_c8 : (Jvm.Cond.code ({ cls := "java/lang/Record", name := "<init>", desc := "()V" } : Jvm.MethodName) jdk_30_method_1_code (1 : Nat) (Option.none : Option Jvm.ClassFile.FieldType)).before args0 about1 = true := code_word (m := ⟨9, 0⟩) (meth := k9m0) (c := k9c0) (by decide +kernel) rfl rfl rfl (by decide +kernel)
set_option maxRecDepth 65536 in
theorem w_c9 : (Jvm.Cond.code ({ cls := "java/lang/String", name := "length", desc := "()I" } : Jvm.MethodName) jdk_42_method_54_code (1 : Nat) (Option.some Jvm.ClassFile.FieldType.int)).before args0 about1 = true := code_word (m := ⟨7, 2⟩) (meth := k7m2) (c := k7c2) (by decide +kernel) rfl rfl rfl (by decide +kernel)
set_option maxRecDepth 65536 in
theorem w_c10 : (Jvm.Cond.code ({ cls := "java/lang/String", name := "coder", desc := "()B" } : Jvm.MethodName) jdk_42_method_152_code (1 : Nat) (Option.some Jvm.ClassFile.FieldType.byte)).before args0 about1 = true := code_word (m := ⟨7, 5⟩) (meth := k7m5) (c := k7c5) (by decide +kernel) rfl rfl rfl (by decide +kernel)
set_option maxRecDepth 65536 in
theorem w_c11 : (Jvm.Cond.code ({ cls := "java/util/Objects", name := "checkFromToIndex", desc := "(III)I" } : Jvm.MethodName) jdk_31_method_18_code (3 : Nat) (Option.some Jvm.ClassFile.FieldType.int)).before args0 about1 = true := code_word (m := ⟨11, 1⟩) (meth := k11m1) (c := k11c1) (by decide +kernel) rfl rfl rfl (by decide +kernel)
set_option maxRecDepth 65536 in
theorem w_c12 : (Jvm.Cond.code ({ cls := "jdk/internal/util/Preconditions", name := "checkFromToIndex", desc := "(IIILjava/util/function/BiFunction;)I" } : Jvm.MethodName) jdk_41_method_12_code (4 : Nat) (Option.some Jvm.ClassFile.FieldType.int)).before args0 about1 = true := code_word (m := ⟨12, 2⟩) (meth := k12m2) (c := k12c2) (by decide +kernel) rfl rfl rfl (by decide +kernel)
set_option maxRecDepth 65536 in
theorem w_c13 : (Jvm.Cond.code ({ cls := "com/example/auscult/auscult/SortValueHashCodePinLaw", name := "term", desc := "([CIII)I" } : Jvm.MethodName) method_3_code (4 : Nat) (Option.some Jvm.ClassFile.FieldType.int)).before args0 about1 = true := code_word (m := ⟨1, 2⟩) (meth := k1m2) (c := k1c2) (by decide +kernel) rfl rfl rfl (by decide +kernel)
set_option maxRecDepth 65536 in
theorem w_c14 : (Jvm.Cond.code ({ cls := "com/example/auscult/auscult/SortValue", name := "hashCode", desc := "()I" } : Jvm.MethodName) prog_35_method_7_code (3 : Nat) (Option.some Jvm.ClassFile.FieldType.int)).before args0 about1 = true := code_word (m := ⟨10, 1⟩) (meth := k10m1) (c := k10c1) (by decide +kernel) rfl rfl rfl (by decide +kernel)
set_option maxRecDepth 65536 in
theorem w_c15 : (Jvm.Cond.code ({ cls := "java/lang/StringUTF16", name := "toBytes", desc := "([CII)[B" } : Jvm.MethodName) jdk_52_method_14_code (5 : Nat) (Option.some (Jvm.ClassFile.FieldType.array Jvm.ClassFile.FieldType.byte))).before args0 about1 = true := code_word (m := ⟨8, 6⟩) (meth := k8m6) (c := k8c6) (by decide +kernel) rfl rfl rfl (by decide +kernel)
set_option maxRecDepth 65536 in
theorem w_c16 : (Jvm.Cond.code ({ cls := "java/lang/StringUTF16", name := "newBytesFor", desc := "(I)[B" } : Jvm.MethodName) jdk_52_method_2_code (1 : Nat) (Option.some (Jvm.ClassFile.FieldType.array Jvm.ClassFile.FieldType.byte))).before args0 about1 = true := code_word (m := ⟨8, 1⟩) (meth := k8m1) (c := k8c1) (by decide +kernel) rfl rfl rfl (by decide +kernel)
set_option maxRecDepth 65536 in
theorem w_c17 : (Jvm.Cond.code ({ cls := "java/lang/StringUTF16", name := "newBytesLength", desc := "(I)I" } : Jvm.MethodName) jdk_52_method_3_code (1 : Nat) (Option.some Jvm.ClassFile.FieldType.int)).before args0 about1 = true := code_word (m := ⟨8, 2⟩) (meth := k8m2) (c := k8c2) (by decide +kernel) rfl rfl rfl (by decide +kernel)
set_option maxRecDepth 65536 in
theorem w_c18 : (Jvm.Cond.code ({ cls := "java/lang/StringUTF16", name := "putChar", desc := "([BII)V" } : Jvm.MethodName) jdk_52_method_4_code (3 : Nat) (Option.none : Option Jvm.ClassFile.FieldType)).before args0 about1 = true := code_word (m := ⟨8, 3⟩) (meth := k8m3) (c := k8c3) (by decide +kernel) rfl rfl rfl (by decide +kernel)
set_option maxRecDepth 65536 in
theorem w_c19 : (Jvm.Cond.code ({ cls := "java/lang/StringUTF16", name := "getChar", desc := "([BI)C" } : Jvm.MethodName) jdk_52_method_5_code (2 : Nat) (Option.some Jvm.ClassFile.FieldType.char)).before args0 about1 = true := code_word (m := ⟨8, 4⟩) (meth := k8m4) (c := k8c4) (by decide +kernel) rfl rfl rfl (by decide +kernel)
set_option maxRecDepth 65536 in
theorem w_c20 : (Jvm.Cond.code ({ cls := "com/example/auscult/auscult/SortValueHashCodePinLaw", name := "pow31", desc := "(I)I" } : Jvm.MethodName) method_4_code (1 : Nat) (Option.some Jvm.ClassFile.FieldType.int)).before args0 about1 = true := code_word (m := ⟨1, 3⟩) (meth := k1m3) (c := k1c3) (by decide +kernel) rfl rfl rfl (by decide +kernel)
set_option maxRecDepth 65536 in
theorem w_c21 : (Jvm.Cond.code ({ cls := "java/lang/String", name := "charAt", desc := "(I)C" } : Jvm.MethodName) jdk_42_method_56_code (2 : Nat) (Option.some Jvm.ClassFile.FieldType.char)).before args0 about1 = true := code_word (m := ⟨7, 3⟩) (meth := k7m3) (c := k7c3) (by decide +kernel) rfl rfl rfl (by decide +kernel)
set_option maxRecDepth 65536 in
theorem w_c22 : (Jvm.Cond.code ({ cls := "java/lang/String", name := "isLatin1", desc := "()Z" } : Jvm.MethodName) jdk_42_method_154_code (1 : Nat) (Option.some Jvm.ClassFile.FieldType.boolean)).before args0 about1 = true := code_word (m := ⟨7, 6⟩) (meth := k7m6) (c := k7c6) (by decide +kernel) rfl rfl rfl (by decide +kernel)
set_option maxRecDepth 65536 in
theorem w_c23 : (Jvm.Cond.code ({ cls := "java/lang/StringUTF16", name := "charAt", desc := "([BI)C" } : Jvm.MethodName) jdk_52_method_83_code (2 : Nat) (Option.some Jvm.ClassFile.FieldType.char)).before args0 about1 = true := code_word (m := ⟨8, 10⟩) (meth := k8m10) (c := k8c10) (by decide +kernel) rfl rfl rfl (by decide +kernel)
set_option maxRecDepth 65536 in
theorem w_c24 : (Jvm.Cond.code ({ cls := "java/lang/StringUTF16", name := "checkIndex", desc := "(I[B)V" } : Jvm.MethodName) jdk_52_method_91_code (2 : Nat) (Option.none : Option Jvm.ClassFile.FieldType)).before args0 about1 = true := code_word (m := ⟨8, 11⟩) (meth := k8m11) (c := k8c11) (by decide +kernel) rfl rfl rfl (by decide +kernel)
set_option maxRecDepth 65536 in
theorem w_c25 : (Jvm.Cond.code ({ cls := "java/lang/StringUTF16", name := "length", desc := "([B)I" } : Jvm.MethodName) jdk_52_method_6_code (1 : Nat) (Option.some Jvm.ClassFile.FieldType.int)).before args0 about1 = true := code_word (m := ⟨8, 5⟩) (meth := k8m5) (c := k8c5) (by decide +kernel) rfl rfl rfl (by decide +kernel)
set_option maxRecDepth 65536 in
theorem w_c26 : (Jvm.Cond.code ({ cls := "java/lang/String", name := "checkIndex", desc := "(II)V" } : Jvm.MethodName) jdk_42_method_155_code (2 : Nat) (Option.none : Option Jvm.ClassFile.FieldType)).before args0 about1 = true := code_word (m := ⟨7, 7⟩) (meth := k7m7) (c := k7c7) (by decide +kernel) rfl rfl rfl (by decide +kernel)
set_option maxRecDepth 65536 in
theorem w_c27 : (Jvm.Cond.code ({ cls := "jdk/internal/util/Preconditions", name := "checkIndex", desc := "(IILjava/util/function/BiFunction;)I" } : Jvm.MethodName) jdk_41_method_11_code (3 : Nat) (Option.some Jvm.ClassFile.FieldType.int)).before args0 about1 = true := code_word (m := ⟨12, 1⟩) (meth := k12m1) (c := k12c1) (by decide +kernel) rfl rfl rfl (by decide +kernel)
set_option maxRecDepth 65536 in
theorem w_c28 : (Jvm.Cond.code ({ cls := "java/lang/StringLatin1", name := "charAt", desc := "([BI)C" } : Jvm.MethodName) jdk_43_method_2_code (2 : Nat) (Option.some Jvm.ClassFile.FieldType.char)).before args0 about1 = true := code_word (m := ⟨13, 1⟩) (meth := k13m1) (c := k13c1) (by decide +kernel) rfl rfl rfl (by decide +kernel)
def codes1 : List Jvm.Cond := [Jvm.Cond.code x code maxLocals ret, Jvm.Cond.code ({ cls := "java/lang/String", name := "<init>", desc := "([C)V" } : Jvm.MethodName) jdk_42_method_3_code (2 : Nat) (Option.none : Option Jvm.ClassFile.FieldType), Jvm.Cond.code ({ cls := "java/lang/String", name := "<init>", desc := "([CIILjava/lang/Void;)V" } : Jvm.MethodName) jdk_42_method_149_code (6 : Nat) (Option.none : Option Jvm.ClassFile.FieldType), Jvm.Cond.code ({ cls := "java/lang/Object", name := "<init>", desc := "()V" } : Jvm.MethodName) object_method_1_code (1 : Nat) (Option.none : Option Jvm.ClassFile.FieldType), Jvm.Cond.code ({ cls := "java/lang/StringUTF16", name := "compress", desc := "([CII)[B" } : Jvm.MethodName) jdk_52_method_16_code (6 : Nat) (Option.some (Jvm.ClassFile.FieldType.array Jvm.ClassFile.FieldType.byte)), Jvm.Cond.code ({ cls := "java/lang/StringUTF16", name := "compress", desc := "([CI[BII)I" } : Jvm.MethodName) jdk_52_method_21_code (7 : Nat) (Option.some Jvm.ClassFile.FieldType.int), Jvm.Cond.code ({ cls := "java/lang/StringUTF16", name := "coderFromArrayLen", desc := "([BI)B" } : Jvm.MethodName) jdk_52_method_15_code (2 : Nat) (Option.some Jvm.ClassFile.FieldType.byte), Jvm.Cond.code ({ cls := "com/example/auscult/auscult/SortValue", name := "<init>", desc := "(Ljava/lang/String;II)V" } : Jvm.MethodName) prog_35_method_1_code (4 : Nat) (Option.none : Option Jvm.ClassFile.FieldType), Jvm.Cond.code ({ cls := "java/lang/Record", name := "<init>", desc := "()V" } : Jvm.MethodName) jdk_30_method_1_code (1 : Nat) (Option.none : Option Jvm.ClassFile.FieldType), Jvm.Cond.code ({ cls := "java/lang/String", name := "length", desc := "()I" } : Jvm.MethodName) jdk_42_method_54_code (1 : Nat) (Option.some Jvm.ClassFile.FieldType.int), Jvm.Cond.code ({ cls := "java/lang/String", name := "coder", desc := "()B" } : Jvm.MethodName) jdk_42_method_152_code (1 : Nat) (Option.some Jvm.ClassFile.FieldType.byte), Jvm.Cond.code ({ cls := "java/util/Objects", name := "checkFromToIndex", desc := "(III)I" } : Jvm.MethodName) jdk_31_method_18_code (3 : Nat) (Option.some Jvm.ClassFile.FieldType.int), Jvm.Cond.code ({ cls := "jdk/internal/util/Preconditions", name := "checkFromToIndex", desc := "(IIILjava/util/function/BiFunction;)I" } : Jvm.MethodName) jdk_41_method_12_code (4 : Nat) (Option.some Jvm.ClassFile.FieldType.int), Jvm.Cond.code ({ cls := "com/example/auscult/auscult/SortValueHashCodePinLaw", name := "term", desc := "([CIII)I" } : Jvm.MethodName) method_3_code (4 : Nat) (Option.some Jvm.ClassFile.FieldType.int), Jvm.Cond.code ({ cls := "com/example/auscult/auscult/SortValue", name := "hashCode", desc := "()I" } : Jvm.MethodName) prog_35_method_7_code (3 : Nat) (Option.some Jvm.ClassFile.FieldType.int), Jvm.Cond.code ({ cls := "java/lang/StringUTF16", name := "toBytes", desc := "([CII)[B" } : Jvm.MethodName) jdk_52_method_14_code (5 : Nat) (Option.some (Jvm.ClassFile.FieldType.array Jvm.ClassFile.FieldType.byte)), Jvm.Cond.code ({ cls := "java/lang/StringUTF16", name := "newBytesFor", desc := "(I)[B" } : Jvm.MethodName) jdk_52_method_2_code (1 : Nat) (Option.some (Jvm.ClassFile.FieldType.array Jvm.ClassFile.FieldType.byte)), Jvm.Cond.code ({ cls := "java/lang/StringUTF16", name := "newBytesLength", desc := "(I)I" } : Jvm.MethodName) jdk_52_method_3_code (1 : Nat) (Option.some Jvm.ClassFile.FieldType.int), Jvm.Cond.code ({ cls := "java/lang/StringUTF16", name := "putChar", desc := "([BII)V" } : Jvm.MethodName) jdk_52_method_4_code (3 : Nat) (Option.none : Option Jvm.ClassFile.FieldType), Jvm.Cond.code ({ cls := "java/lang/StringUTF16", name := "getChar", desc := "([BI)C" } : Jvm.MethodName) jdk_52_method_5_code (2 : Nat) (Option.some Jvm.ClassFile.FieldType.char), Jvm.Cond.code ({ cls := "com/example/auscult/auscult/SortValueHashCodePinLaw", name := "pow31", desc := "(I)I" } : Jvm.MethodName) method_4_code (1 : Nat) (Option.some Jvm.ClassFile.FieldType.int), Jvm.Cond.code ({ cls := "java/lang/String", name := "charAt", desc := "(I)C" } : Jvm.MethodName) jdk_42_method_56_code (2 : Nat) (Option.some Jvm.ClassFile.FieldType.char), Jvm.Cond.code ({ cls := "java/lang/String", name := "isLatin1", desc := "()Z" } : Jvm.MethodName) jdk_42_method_154_code (1 : Nat) (Option.some Jvm.ClassFile.FieldType.boolean), Jvm.Cond.code ({ cls := "java/lang/StringUTF16", name := "charAt", desc := "([BI)C" } : Jvm.MethodName) jdk_52_method_83_code (2 : Nat) (Option.some Jvm.ClassFile.FieldType.char), Jvm.Cond.code ({ cls := "java/lang/StringUTF16", name := "checkIndex", desc := "(I[B)V" } : Jvm.MethodName) jdk_52_method_91_code (2 : Nat) (Option.none : Option Jvm.ClassFile.FieldType), Jvm.Cond.code ({ cls := "java/lang/StringUTF16", name := "length", desc := "([B)I" } : Jvm.MethodName) jdk_52_method_6_code (1 : Nat) (Option.some Jvm.ClassFile.FieldType.int), Jvm.Cond.code ({ cls := "java/lang/String", name := "checkIndex", desc := "(II)V" } : Jvm.MethodName) jdk_42_method_155_code (2 : Nat) (Option.none : Option Jvm.ClassFile.FieldType), Jvm.Cond.code ({ cls := "jdk/internal/util/Preconditions", name := "checkIndex", desc := "(IILjava/util/function/BiFunction;)I" } : Jvm.MethodName) jdk_41_method_11_code (3 : Nat) (Option.some Jvm.ClassFile.FieldType.int), Jvm.Cond.code ({ cls := "java/lang/StringLatin1", name := "charAt", desc := "([BI)C" } : Jvm.MethodName) jdk_43_method_2_code (2 : Nat) (Option.some Jvm.ClassFile.FieldType.char)]
set_option maxRecDepth 65536 in
theorem codes_eq : words1.filter isCode = codes1 := rfl
theorem w_codes : ∀ c ∈ words1.filter isCode, c.before args0 about1 = true := by
  rw [codes_eq]
  intro c hc
  simp only [codes1, List.mem_cons, List.not_mem_nil, or_false] at hc
  rcases hc with rfl | rfl | rfl | rfl | rfl | rfl | rfl | rfl | rfl | rfl | rfl | rfl | rfl | rfl | rfl | rfl | rfl | rfl | rfl | rfl | rfl | rfl | rfl | rfl | rfl | rfl | rfl | rfl | rfl
  · exact w_c0
  · exact w_c1
  · exact w_c2
  · exact w_c3
  · exact w_c4
  · exact w_c5
  · exact w_c6
  · exact w_c7
  · exact w_c8
  · exact w_c9
  · exact w_c10
  · exact w_c11
  · exact w_c12
  · exact w_c13
  · exact w_c14
  · exact w_c15
  · exact w_c16
  · exact w_c17
  · exact w_c18
  · exact w_c19
  · exact w_c20
  · exact w_c21
  · exact w_c22
  · exact w_c23
  · exact w_c24
  · exact w_c25
  · exact w_c26
  · exact w_c27
  · exact w_c28
set_option maxRecDepth 65536 in
theorem w_t1 : (words1.take 24).all (fun c => isCode c || c.before args0 about1) = true := by decide +kernel
set_option maxRecDepth 65536 in
theorem w_t2 : ((words1.drop 24).take 24).all (fun c => isCode c || c.before args0 about1) = true := by decide +kernel
set_option maxRecDepth 65536 in
theorem w_t3 : (((words1.drop 24).drop 24).take 24).all (fun c => isCode c || c.before args0 about1) = true := by decide +kernel
set_option maxRecDepth 65536 in
theorem w_t4 : ((((words1.drop 24).drop 24).drop 24).take 24).all (fun c => isCode c || c.before args0 about1) = true := by decide +kernel
set_option maxRecDepth 65536 in
theorem w_t5 : (((((words1.drop 24).drop 24).drop 24).drop 24).take 24).all (fun c => isCode c || c.before args0 about1) = true := by decide +kernel
set_option maxRecDepth 65536 in
theorem w_t6 : (((((words1.drop 24).drop 24).drop 24).drop 24).drop 24).all (fun c => isCode c || c.before args0 about1) = true := by decide +kernel
theorem w_tables : (allAtoms (Jvm.Cond.code x code maxLocals ret :: tables_1)).before args0 about1 = true := by
  rw [allAtoms_all]
  show words1.all (fun c => c.before args0 about1) = true
  refine all_split ?_ w_codes
  rw [← List.take_append_drop 24 words1, List.all_append, w_t1, ← List.take_append_drop 24 (words1.drop 24), List.all_append, w_t2, ← List.take_append_drop 24 ((words1.drop 24).drop 24), List.all_append, w_t3, ← List.take_append_drop 24 (((words1.drop 24).drop 24).drop 24), List.all_append, w_t4, ← List.take_append_drop 24 ((((words1.drop 24).drop 24).drop 24).drop 24), List.all_append, w_t5, w_t6]
  rfl
set_option maxRecDepth 65536 in
theorem w_rest : rest_1_c.before args0 about1 = true := by decide +kernel
set_option maxRecDepth 65536 in
theorem w_case : (Jvm.Cond.and given_1 narrow_1).before args0 about1 = true := by decide +kernel
theorem w_applies : (headSpec (Jvm.Cond.code x code maxLocals ret :: tables_1) room_1).applies x e0.platform about1 = true :=
  (Spec.applies_iff w_frames).mpr ⟨w_running, w_runnable, w_alone, w_named, w_hears, w_ripe, w_room, w_tables⟩
theorem atStart : AtStart classFile x code maxLocals ret World_1 tables_1 room_1 Calls_1 rest_1 Pre_1 launch0 p0 e0 about1 theMethod args0 below0 :=
  ⟨lists_1, trivial, launch0.admits_env _ _ _, launch0.least_env, fairChoices_fair.cas, fairChoices_fair.clock, w_frames, w_args, w_heap, w_applies, trivial, w_rest, w_case⟩
end start1
theorem witness_1 : WitnessClaimed_1 := ⟨start1.p0, start1.e0, start1.about1, start1.theMethod, start1.args0, start1.below0, start1.atStart⟩
end Jvm.Pilot.@@N@@
