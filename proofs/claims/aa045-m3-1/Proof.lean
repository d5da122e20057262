import JvmDerived
import JvmDerived.Pilot.@@N@@Statement
import JvmDerived.Pilot.@@N@@Code
set_option linter.unusedVariables false
set_option linter.unusedSimpArgs false
namespace Jvm.RoadKit
open Sem ClassFile Op Lib Jvm.Stand Jvm.Free Jvm.LawKit
section New
variable {p : Program} {l : Launch} {e : Env} {R : Room} {s : State} {m : MethodId} {args : Array Value} {below : List Frame} {meth : Method} {c : Code} {T : State} {locs : List Loc} {cells slots : Nat}
theorem retI (X : Stand p l e R s m args below meth c T locs cells slots) (hx : p.tables.exec = Jvm.exec) {pc : Nat} {Ls : Array Slot} {z : Int32} {rest : List Value} (hret : meth.sig.returnType = some .int) (hd : decode c.code pc = .ok (.ireturn, 1)) {fs : List Frame}
    (hl : ∀ (f : JFrame) (acts : List Action), f.method = m → f.locked = none → f.entered = [] → (doReturn e (T.setTop f) acts (some (.int z))).1 = T.setFrames fs) : Steps p.tables e below (T.setTop (mkF m pc Ls (.int z :: rest))) (T.setFrames fs) := by
  have hm' : T.vm.method? m = some meth := X.method'
  have hn : narrow .int (.int z) = .int z := rfl
  show Steps p.tables e below (T.setTop { method := m, pc := pc, locals := Ls, stack := _ :: rest, locked := none }) _
  jvm_step X.here [X.here.top, hx, hd, hm', hret, hn]
  first | (intro acts; rw [hl _ acts rfl rfl rfl]) | rw [hl _ _ rfl rfl rfl]
  exact Steps.refl _
end New
end Jvm.RoadKit
namespace Jvm.Pilot.@@N@@
open Jvm Jvm.ClassFile Sem Op Lib Jvm.Free Jvm.Stand Jvm.LawKit Jvm.RoadKit Bundle Jvm.Pilot.@@N@@.Jvm.D
-- OWN CORE: a calculus of runs over the library's Stand (lawnew's family)
abbrev OCtx := Program × Launch × Env × State × MethodId × Array Value × List Frame × Method × Code
def OCtx.p (C : OCtx) : Program := C.1
def OCtx.l (C : OCtx) : Launch := C.2.1
def OCtx.e (C : OCtx) : Env := C.2.2.1
def OCtx.s (C : OCtx) : State := C.2.2.2.1
def OCtx.m (C : OCtx) : MethodId := C.2.2.2.2.1
def OCtx.args (C : OCtx) : Array Value := C.2.2.2.2.2.1
def OCtx.below (C : OCtx) : List Frame := C.2.2.2.2.2.2.1
def OCtx.meth (C : OCtx) : Method := C.2.2.2.2.2.2.2.1
def OCtx.c (C : OCtx) : Code := C.2.2.2.2.2.2.2.2
-- a body: its class, bytes, locals, return type, name, room
abbrev OInfo := String × ByteArray × Nat × Option FieldType × String × Room
abbrev OInfo.own (I : OInfo) : String := I.1
abbrev OInfo.bytes (I : OInfo) : ByteArray := I.2.1
abbrev OInfo.ml (I : OInfo) : Nat := I.2.2.1
abbrev OInfo.ret (I : OInfo) : Option FieldType := I.2.2.2.1
abbrev OInfo.mn (I : OInfo) : String := I.2.2.2.2.1
abbrev OInfo.R (I : OInfo) : Room := I.2.2.2.2.2
-- where a run stands
def oK (C : OCtx) (s0 : State) (Z : State) (n0 : Nat) (I : OInfo) (T : State) (locs : List Loc) (cs sl : Nat) (h : Heap) : Prop :=
  Stand C.p C.l C.e I.R s0 C.m C.args C.below C.meth C.c T locs cs sl ∧ C.p.tables.exec = Jvm.exec ∧ Z.Warmed39 s0.vm ∧ s0.vm.findClass I.own = some C.m.cls ∧ C.c.code = I.bytes ∧ C.c.maxLocals = I.ml ∧
  C.meth.sig.returnType = I.ret ∧ C.meth.name = I.mn ∧ C.meth.locks = false ∧ T.heap = h ∧ Fr n0 locs ∧ Old Z n0 h
theorem o_fresh {a b : Addr} {h : Heap} (q : a < h.size) (g : b = h.size) : a ≠ b := fun e => by subst e; rw [g] at q; exact Nat.lt_irrefl _ q
theorem o_fresh' {a b : Addr} {n : Nat} (q : a < n) (g : n ≤ b) : a ≠ b := fun e => by subst e; exact Nat.lt_irrefl _ (Nat.lt_of_lt_of_le q g)
theorem o_le {Z : State} {n0 : Nat} {h : Heap} (O : Old Z n0 h) : n0 ≤ h.size := O.1 ▸ O.2.1
-- what a run from there comes to
def oRun (C : OCtx) (Z : State) (n0 : Nat) (I : OInfo) (Q : Option Value → Heap → Prop) (h : Heap) (cs sl : Nat) (g : JFrame) : Prop :=
  ∀ T locs, oK C C.s Z n0 I T locs cs sl h → ∃ t o, Steps C.p.tables C.e C.below (T.setTop g) t ∧ t.status = .running ∧ Ended t C.below o ∧ (∃ v L, o = .returned v ∧ (Fr n0 L ∧ Old Z n0 t.heap ∧ Q v t.heap) ∧ FrameEnd C.s o t L I.R.cells I.R.slots)
-- a body's contract
def oCon (l : Launch) (Z : State) (n0 : Nat) (y : MethodName) (I : OInfo) (as' : Array Value) (h0 : Heap) (Q : Option Value → Heap → Prop) : Prop :=
  Old Z n0 h0 → ∀ ws, MetFree l y (head1 (Jvm.Cond.code y I.bytes I.ml I.ret :: ws) I.R) (fun a U => a = as' ∧ Z.Warmed39 U.vm ∧ U.heap = h0) (fun _ _ _ _ _ => True)
    (fun _ U o U' => ∃ v L, o = .returned v ∧ (Fr n0 L ∧ Old Z n0 U'.heap ∧ Q v U'.heap) ∧ FrameEnd U o U' L I.R.cells I.R.slots)
theorem oCon.mk {l : Launch} {Z : State} {n0 : Nat} {y : MethodName} {I : OInfo} {as' : Array Value} {h0 : Heap} {Q : Option Value → Heap → Prop} (hp : plainFor y = true) (hy1 : y.cls = I.own) (hy2 : y.name = I.mn) {Ls : Array Slot} (ef : ∀ m, entryFrame m as' I.ml = mkF m 0 Ls [])
    (body : ∀ C : OCtx, C.l = l → oRun C Z n0 I Q h0 0 0 (mkF C.m 0 Ls [])) : oCon l Z n0 y I as' h0 Q := by
  intro hn ws
  refine MetFree.of_bodySF hp hisR ?_
  intro p e s m args below meth c s₁ Bd hml0 hP hK
  obtain ⟨rfl, hZ, hh⟩ := hP
  have hown : s.vm.findClass I.own = some m.cls := by rw [← hy1]; exact findClass_of_methodNamed Bd.named
  have hnm : meth.name = I.mn := by rw [← hy2]; exact (name_of_methodNamed Bd.named Bd.method).1
  have e0 : s₁.heap = h0 := by rw [← hh, Bd.state]; rfl
  have X0 : Stand p l e I.R s m args below meth c s₁ [] 0 0 := Stand.of_body Bd
  have r := body (p, l, e, s, m, args, below, meth, c) rfl s₁ [] ⟨X0, Bd.exec, hZ, hown, Bd.bytes, hml0, Bd.returns, hnm, Bd.notSynchronized, e0, Fr.nil n0, hn⟩
  obtain ⟨t, o, h1, h2, h3, h4⟩ := r
  refine ⟨t, o, castTop (ef m) h1, h2, h3, h4⟩
theorem oCon.mono {l : Launch} {Z : State} {n0 : Nat} {y : MethodName} {I : OInfo} {as' : Array Value} {h0 : Heap} {Q Q' : Option Value → Heap → Prop} (K : oCon l Z n0 y I as' h0 Q) (q : ∀ v h, Q v h → Q' v h) : oCon l Z n0 y I as' h0 Q' := by
  intro hn ws p e ha hc hk s m args below hf happ hP hK
  obtain ⟨n, o, h1, h2, h3, v, L, h4, ⟨h5, h6, h7⟩, h8⟩ := K hn ws p e ha hc hk s m args below hf happ hP hK
  exact ⟨n, o, h1, h2, h3, v, L, h4, ⟨h5, h6, q _ _ h7⟩, h8⟩
section OwnCore
variable {C : OCtx} {Z : State} {n0 : Nat} {I : OInfo} {Q : Option Value → Heap → Prop} {h : Heap} {cs sl pc pc' : Nat} {L : Array Slot} {S : List Value} {x y : Int32}
theorem oStep {g g' : JFrame} (st : ∀ {s0 : State} T locs, oK C s0 Z n0 I T locs cs sl h → ∀ t, Steps C.p.tables C.e C.below (T.setTop g') t → Steps C.p.tables C.e C.below (T.setTop g) t) (r : oRun C Z n0 I Q h cs sl g') : oRun C Z n0 I Q h cs sl g := by
  intro T locs K
  obtain ⟨t, o, h1, h2⟩ := r T locs K
  exact ⟨t, o, st T locs K t h1, h2⟩
theorem oMove {g g' : JFrame} (st : ∀ {s0 : State} T locs, oK C s0 Z n0 I T locs cs sl h → ∃ T' locs', oK C s0 Z n0 I T' locs' cs sl h ∧ ∀ t, Steps C.p.tables C.e C.below (T'.setTop g') t → Steps C.p.tables C.e C.below (T.setTop g) t) (r : oRun C Z n0 I Q h cs sl g') : oRun C Z n0 I Q h cs sl g := by
  intro T locs K
  obtain ⟨T', locs', K', st'⟩ := st T locs K
  obtain ⟨t, o, h1, h2⟩ := r T' locs' K'
  exact ⟨t, o, st' t h1, h2⟩
theorem s_aloadN {k : Fin 4} {v : Value} (hd : decode I.bytes pc = .ok (.aload_n k, 1)) (hq : pc + 1 = pc') (hl : L[k.val]? = some (.val v)) (hv : v.isRef = true) (r : oRun C Z n0 I Q h cs sl (mkF C.m pc' L (v :: S))) : oRun C Z n0 I Q h cs sl (mkF C.m pc L S) := by
  subst hq; exact oStep (fun T locs K t kt => XS.aloadN K.1.here K.2.1 rfl (hb K.2.2.2.2.1 hd) hl hv kt) r
theorem s_aload {k : Nat} {v : Value} (hd : decode I.bytes pc = .ok (.aload k, 2)) (hq : pc + 2 = pc') (hl : L[k]? = some (.val v)) (hv : v.isRef = true) (r : oRun C Z n0 I Q h cs sl (mkF C.m pc' L (v :: S))) : oRun C Z n0 I Q h cs sl (mkF C.m pc L S) := by
  subst hq; exact oStep (fun T locs K t kt => XS.aload K.1.here K.2.1 rfl (hb K.2.2.2.2.1 hd) hl hv kt) r
theorem s_iloadN {k : Fin 4} (hd : decode I.bytes pc = .ok (.iload_n k, 1)) (hq : pc + 1 = pc') (hl : L[k.val]? = some (.val (.int x))) (r : oRun C Z n0 I Q h cs sl (mkF C.m pc' L (.int x :: S))) : oRun C Z n0 I Q h cs sl (mkF C.m pc L S) := by
  subst hq; exact oStep (fun T locs K t kt => XS.iloadN K.1.here K.2.1 rfl (hb K.2.2.2.2.1 hd) hl kt) r
theorem s_iload {k : Nat} (hd : decode I.bytes pc = .ok (.iload k, 2)) (hq : pc + 2 = pc') (hl : L[k]? = some (.val (.int x))) (r : oRun C Z n0 I Q h cs sl (mkF C.m pc' L (.int x :: S))) : oRun C Z n0 I Q h cs sl (mkF C.m pc L S) := by
  subst hq; exact oStep (fun T locs K t kt => XS.iload K.1.here K.2.1 rfl (hb K.2.2.2.2.1 hd) hl kt) r
theorem s_iconst {i : Int} (hd : decode I.bytes pc = .ok (.iconst i, 1)) (hq : pc + 1 = pc') (hx : Int32.ofInt i = x) (r : oRun C Z n0 I Q h cs sl (mkF C.m pc' L (.int x :: S))) : oRun C Z n0 I Q h cs sl (mkF C.m pc L S) := by
  subst hq hx; exact oStep (fun T locs K t kt => XS.iconst K.1.here K.2.1 rfl (hb K.2.2.2.2.1 hd) kt) r
theorem s_bipush {i : Int} (hd : decode I.bytes pc = .ok (.bipush i, 2)) (hq : pc + 2 = pc') (hx : (Int8.ofInt i).toInt32 = x) (r : oRun C Z n0 I Q h cs sl (mkF C.m pc' L (.int x :: S))) : oRun C Z n0 I Q h cs sl (mkF C.m pc L S) := by
  subst hq hx; exact oStep (fun T locs K t kt => XS.bipush K.1.here K.2.1 rfl (hb K.2.2.2.2.1 hd) kt) r
theorem s_sipush {i : Int} (hd : decode I.bytes pc = .ok (.sipush i, 3)) (hq : pc + 3 = pc') (hx : (Int16.ofInt i).toInt32 = x) (r : oRun C Z n0 I Q h cs sl (mkF C.m pc' L (.int x :: S))) : oRun C Z n0 I Q h cs sl (mkF C.m pc L S) := by
  subst hq hx; exact oStep (fun T locs K t kt => XS.sipush K.1.here K.2.1 rfl (hb K.2.2.2.2.1 hd) kt) r
theorem s_null (hd : decode I.bytes pc = .ok (.aconst_null, 1)) (hq : pc + 1 = pc') (r : oRun C Z n0 I Q h cs sl (mkF C.m pc' L (.null :: S))) : oRun C Z n0 I Q h cs sl (mkF C.m pc L S) := by
  subst hq; exact oStep (fun T locs K t kt => XS.aconstNull K.1.here K.2.1 rfl (hb K.2.2.2.2.1 hd) kt) r
theorem s_iadd (hd : decode I.bytes pc = .ok (.iadd, 1)) (hq : pc + 1 = pc') (r : oRun C Z n0 I Q h cs sl (mkF C.m pc' L (.int (x + y) :: S))) : oRun C Z n0 I Q h cs sl (mkF C.m pc L (.int y :: .int x :: S)) := by
  subst hq; exact oStep (fun T locs K t kt => XS.iadd K.1.here K.2.1 rfl (hb K.2.2.2.2.1 hd) rfl kt) r
theorem s_isub (hd : decode I.bytes pc = .ok (.isub, 1)) (hq : pc + 1 = pc') (r : oRun C Z n0 I Q h cs sl (mkF C.m pc' L (.int (x - y) :: S))) : oRun C Z n0 I Q h cs sl (mkF C.m pc L (.int y :: .int x :: S)) := by
  subst hq; exact oStep (fun T locs K t kt => XS.isub K.1.here K.2.1 rfl (hb K.2.2.2.2.1 hd) rfl kt) r
theorem s_imul (hd : decode I.bytes pc = .ok (.imul, 1)) (hq : pc + 1 = pc') (r : oRun C Z n0 I Q h cs sl (mkF C.m pc' L (.int (x * y) :: S))) : oRun C Z n0 I Q h cs sl (mkF C.m pc L (.int y :: .int x :: S)) := by
  subst hq; exact oStep (fun T locs K t kt => XS.imul K.1.here K.2.1 rfl (hb K.2.2.2.2.1 hd) rfl kt) r
theorem s_idiv (hd : decode I.bytes pc = .ok (.idiv, 1)) (hq : pc + 1 = pc') (hy : y ≠ 0) (r : oRun C Z n0 I Q h cs sl (mkF C.m pc' L (.int (x / y) :: S))) : oRun C Z n0 I Q h cs sl (mkF C.m pc L (.int y :: .int x :: S)) := by
  subst hq; exact oStep (fun T locs K t kt => XS.idiv K.1.here K.2.1 rfl (hb K.2.2.2.2.1 hd) rfl hy kt) r
theorem o_rem (x y : Int32) : x - (x / y) * y = x % y := irem_eq_mod x y
theorem s_irem (hd : decode I.bytes pc = .ok (.irem, 1)) (hq : pc + 1 = pc') (hy : y ≠ 0) (r : oRun C Z n0 I Q h cs sl (mkF C.m pc' L (.int (x % y) :: S))) : oRun C Z n0 I Q h cs sl (mkF C.m pc L (.int y :: .int x :: S)) := by
  subst hq; rw [← o_rem] at r; exact oStep (fun T locs K t kt => XS.irem K.1.here K.2.1 rfl (hb K.2.2.2.2.1 hd) rfl hy kt) r
theorem s_ineg (hd : decode I.bytes pc = .ok (.ineg, 1)) (hq : pc + 1 = pc') (r : oRun C Z n0 I Q h cs sl (mkF C.m pc' L (.int (-x) :: S))) : oRun C Z n0 I Q h cs sl (mkF C.m pc L (.int x :: S)) := by
  subst hq; exact oStep (fun T locs K t kt => XS.ineg K.1.here K.2.1 rfl (hb K.2.2.2.2.1 hd) rfl kt) r
theorem s_iand (hd : decode I.bytes pc = .ok (.iand, 1)) (hq : pc + 1 = pc') (r : oRun C Z n0 I Q h cs sl (mkF C.m pc' L (.int (x &&& y) :: S))) : oRun C Z n0 I Q h cs sl (mkF C.m pc L (.int y :: .int x :: S)) := by
  subst hq; exact oStep (fun T locs K t kt => XS.iand K.1.here K.2.1 rfl (hb K.2.2.2.2.1 hd) rfl kt) r
theorem s_ior (hd : decode I.bytes pc = .ok (.ior, 1)) (hq : pc + 1 = pc') (r : oRun C Z n0 I Q h cs sl (mkF C.m pc' L (.int (x ||| y) :: S))) : oRun C Z n0 I Q h cs sl (mkF C.m pc L (.int y :: .int x :: S)) := by
  subst hq; exact oStep (fun T locs K t kt => XT.ior K.1.here K.2.1 rfl (hb K.2.2.2.2.1 hd) rfl kt) r
theorem s_ixor (hd : decode I.bytes pc = .ok (.ixor, 1)) (hq : pc + 1 = pc') (r : oRun C Z n0 I Q h cs sl (mkF C.m pc' L (.int (x ^^^ y) :: S))) : oRun C Z n0 I Q h cs sl (mkF C.m pc L (.int y :: .int x :: S)) := by
  subst hq; exact oStep (fun T locs K t kt => XT.ixor K.1.here K.2.1 rfl (hb K.2.2.2.2.1 hd) rfl kt) r
theorem s_ishl (hd : decode I.bytes pc = .ok (.ishl, 1)) (hq : pc + 1 = pc') (r : oRun C Z n0 I Q h cs sl (mkF C.m pc' L (.int (x <<< (y &&& 31)) :: S))) : oRun C Z n0 I Q h cs sl (mkF C.m pc L (.int y :: .int x :: S)) := by
  subst hq; exact oStep (fun T locs K t kt => XT.ishl K.1.here K.2.1 rfl (hb K.2.2.2.2.1 hd) rfl kt) r
theorem s_ishr (hd : decode I.bytes pc = .ok (.ishr, 1)) (hq : pc + 1 = pc') (r : oRun C Z n0 I Q h cs sl (mkF C.m pc' L (.int (x >>> (y &&& 31)) :: S))) : oRun C Z n0 I Q h cs sl (mkF C.m pc L (.int y :: .int x :: S)) := by
  subst hq; exact oStep (fun T locs K t kt => XT.ishr K.1.here K.2.1 rfl (hb K.2.2.2.2.1 hd) rfl kt) r
theorem s_iushr (hd : decode I.bytes pc = .ok (.iushr, 1)) (hq : pc + 1 = pc') (r : oRun C Z n0 I Q h cs sl (mkF C.m pc' L (.int (XT.ushr x y) :: S))) : oRun C Z n0 I Q h cs sl (mkF C.m pc L (.int y :: .int x :: S)) := by
  subst hq; exact oStep (fun T locs K t kt => XT.iushr K.1.here K.2.1 rfl (hb K.2.2.2.2.1 hd) rfl kt) r
theorem s_i2c (hd : decode I.bytes pc = .ok (.i2c, 1)) (hq : pc + 1 = pc') (r : oRun C Z n0 I Q h cs sl (mkF C.m pc' L (.int (x.toUInt32.toUInt16.toUInt32.toInt32) :: S))) : oRun C Z n0 I Q h cs sl (mkF C.m pc L (.int x :: S)) := by
  subst hq; exact oStep (fun T locs K t kt => XT.i2c K.1.here K.2.1 rfl (hb K.2.2.2.2.1 hd) rfl kt) r
theorem s_i2b (hd : decode I.bytes pc = .ok (.i2b, 1)) (hq : pc + 1 = pc') (r : oRun C Z n0 I Q h cs sl (mkF C.m pc' L (.int (x.toInt8.toInt32) :: S))) : oRun C Z n0 I Q h cs sl (mkF C.m pc L (.int x :: S)) := by
  subst hq; exact oStep (fun T locs K t kt => XT.i2b K.1.here K.2.1 rfl (hb K.2.2.2.2.1 hd) rfl kt) r
theorem s_dup {v : Value} (hd : decode I.bytes pc = .ok (.dup, 1)) (hq : pc + 1 = pc') (hc : v.category = 1) (r : oRun C Z n0 I Q h cs sl (mkF C.m pc' L (v :: v :: S))) : oRun C Z n0 I Q h cs sl (mkF C.m pc L (v :: S)) := by
  subst hq; exact oStep (fun T locs K t kt => XS.dup K.1.here K.2.1 rfl (hb K.2.2.2.2.1 hd) rfl hc kt) r
theorem s_pop {v : Value} (hd : decode I.bytes pc = .ok (.pop, 1)) (hq : pc + 1 = pc') (hc : v.category = 1) (r : oRun C Z n0 I Q h cs sl (mkF C.m pc' L S)) : oRun C Z n0 I Q h cs sl (mkF C.m pc L (v :: S)) := by
  subst hq; exact oStep (fun T locs K t kt => XT.pop K.1.here K.2.1 rfl (hb K.2.2.2.2.1 hd) rfl hc kt) r
theorem s_istoreN {k : Fin 4} {kn : Nat} {L : List Slot} (hk : k.val = kn) (hd : decode I.bytes pc = .ok (.istore_n k, 1)) (hq : pc + 1 = pc') (hl : storeLocals L.toArray kn (.int x) = some (L.set kn (.val (.int x))).toArray) (r : oRun C Z n0 I Q h cs sl (mkF C.m pc' (L.set kn (.val (.int x))).toArray S)) : oRun C Z n0 I Q h cs sl (mkF C.m pc L.toArray (.int x :: S)) := by
  subst hq hk; exact oStep (fun T locs K t kt => XS.istoreN K.1.here K.2.1 rfl (hb K.2.2.2.2.1 hd) rfl hl kt) r
theorem s_istore {k : Nat} {L : List Slot} (hd : decode I.bytes pc = .ok (.istore k, 2)) (hq : pc + 2 = pc') (hl : storeLocals L.toArray k (.int x) = some (L.set k (.val (.int x))).toArray) (r : oRun C Z n0 I Q h cs sl (mkF C.m pc' (L.set k (.val (.int x))).toArray S)) : oRun C Z n0 I Q h cs sl (mkF C.m pc L.toArray (.int x :: S)) := by
  subst hq; exact oStep (fun T locs K t kt => XS.istore K.1.here K.2.1 rfl (hb K.2.2.2.2.1 hd) rfl hl kt) r
theorem s_astoreN {k : Fin 4} {kn : Nat} {v : Value} {L : List Slot} (hk : k.val = kn) (hd : decode I.bytes pc = .ok (.astore_n k, 1)) (hq : pc + 1 = pc') (hv : v.isRef = true) (hl : storeLocals L.toArray kn v = some (L.set kn (.val v)).toArray) (r : oRun C Z n0 I Q h cs sl (mkF C.m pc' (L.set kn (.val v)).toArray S)) : oRun C Z n0 I Q h cs sl (mkF C.m pc L.toArray (v :: S)) := by
  subst hq hk; exact oStep (fun T locs K t kt => XS.astoreN K.1.here K.2.1 rfl (hb K.2.2.2.2.1 hd) rfl hv hl kt) r
theorem s_astore {k : Nat} {v : Value} {L : List Slot} (hd : decode I.bytes pc = .ok (.astore k, 2)) (hq : pc + 2 = pc') (hv : v.isRef = true) (hl : storeLocals L.toArray k v = some (L.set k (.val v)).toArray) (r : oRun C Z n0 I Q h cs sl (mkF C.m pc' (L.set k (.val v)).toArray S)) : oRun C Z n0 I Q h cs sl (mkF C.m pc L.toArray (v :: S)) := by
  subst hq; exact oStep (fun T locs K t kt => XS.astore K.1.here K.2.1 rfl (hb K.2.2.2.2.1 hd) rfl hv hl kt) r
theorem s_iinc {k : Nat} {i : Int} {L : List Slot} (hd : decode I.bytes pc = .ok (.iinc k i, 3)) (hq : pc + 3 = pc') (hi : Int32.ofInt i = y) (hl0 : L.toArray[k]? = some (.val (.int x))) (hl : storeLocals L.toArray k (.int (x + y)) = some (L.set k (.val (.int (x + y)))).toArray) (r : oRun C Z n0 I Q h cs sl (mkF C.m pc' (L.set k (.val (.int (x + y)))).toArray S)) : oRun C Z n0 I Q h cs sl (mkF C.m pc L.toArray S) := by
  subst hq hi; exact oStep (fun T locs K t kt => XS.iinc K.1.here K.2.1 rfl (hb K.2.2.2.2.1 hd) hl0 hl kt) r
theorem o_st {L : List Slot} {k : Nat} {s : Slot} {v : Value} (hk : L[k]? = some s) (hs : One s) (hv : v.category = 1) : storeLocals L.toArray k v = some (L.set k (.val v)).toArray := by
  have hlt : k < L.length := (List.getElem?_eq_some_iff.mp hk).1
  have hka : L.toArray[k]? = some s := by simpa using hk
  have e : storeSelf L.toArray k v = some (L.set k (.val v)).toArray := by simp [storeSelf, setAt, hv, hlt]
  rcases hs with rfl | ⟨w, rfl, hw⟩
  · simp only [storeLocals, hka, Option.bind_eq_bind, Option.bind_some]; exact e
  · simp only [storeLocals, hka, Option.bind_eq_bind, Option.bind_some, hw]; exact e
theorem s_goto {o : Int} (hd : decode I.bytes pc = .ok (.goto o, 3)) (ho : 0 ≤ (pc : Int) + o) (hq : ((pc : Int) + o).toNat = pc') (r : oRun C Z n0 I Q h cs sl (mkF C.m pc' L S)) : oRun C Z n0 I Q h cs sl (mkF C.m pc L S) :=
  oStep (fun T locs K t kt => XS.goto K.1.here K.2.1 rfl (pc0 := pc) rfl (hb K.2.2.2.2.1 hd) ho hq kt) r
theorem s_if {cd : ClassFile.Cond} {o : Int} {pc'' : Nat} (hd : decode I.bytes pc = .ok (.ifCond cd o, 3)) (hq : pc + 3 = pc') (ho : 0 ≤ (pc : Int) + o) (hq' : ((pc : Int) + o).toNat = pc'')
    (rt : if_icmp.holds cd x 0 = true → oRun C Z n0 I Q h cs sl (mkF C.m pc'' L S)) (rf : if_icmp.holds cd x 0 = false → oRun C Z n0 I Q h cs sl (mkF C.m pc' L S)) : oRun C Z n0 I Q h cs sl (mkF C.m pc L (.int x :: S)) := by
  subst hq
  cases hh : if_icmp.holds cd x 0
  · exact oStep (fun T locs K t kt => XS.ifNo K.1.here K.2.1 rfl (hb K.2.2.2.2.1 hd) rfl ((if0 _ _).trans hh) kt) (rf hh)
  · exact oStep (fun T locs K t kt => XS.ifYes K.1.here K.2.1 rfl (pc0 := pc) rfl (hb K.2.2.2.2.1 hd) rfl ((if0 _ _).trans hh) ho hq' kt) (rt hh)
theorem s_icmp {cd : ClassFile.Cond} {o : Int} {pc'' : Nat} (hd : decode I.bytes pc = .ok (.if_icmp cd o, 3)) (hq : pc + 3 = pc') (ho : 0 ≤ (pc : Int) + o) (hq' : ((pc : Int) + o).toNat = pc'')
    (rt : if_icmp.holds cd x y = true → oRun C Z n0 I Q h cs sl (mkF C.m pc'' L S)) (rf : if_icmp.holds cd x y = false → oRun C Z n0 I Q h cs sl (mkF C.m pc' L S)) : oRun C Z n0 I Q h cs sl (mkF C.m pc L (.int y :: .int x :: S)) := by
  subst hq
  cases hh : if_icmp.holds cd x y
  · exact oStep (fun T locs K t kt => XS.icmpNo K.1.here K.2.1 rfl (hb K.2.2.2.2.1 hd) rfl hh kt) (rf hh)
  · exact oStep (fun T locs K t kt => XS.icmpYes K.1.here K.2.1 rfl (pc0 := pc) rfl (hb K.2.2.2.2.1 hd) rfl hh ho hq' kt) (rt hh)
theorem b_eq (h : if_icmp.holds .eq x y = true) : x = y := by simpa [if_icmp.holds] using h
theorem b_eqF (h : if_icmp.holds .eq x y = false) : ¬ x = y := by simpa [if_icmp.holds] using h
theorem b_ne (h : if_icmp.holds .ne x y = true) : ¬ x = y := by simpa [if_icmp.holds] using h
theorem b_neF (h : if_icmp.holds .ne x y = false) : x = y := by simpa [if_icmp.holds] using h
theorem b_lt (h : if_icmp.holds .lt x y = true) : x < y := by simpa [if_icmp.holds] using h
theorem b_ltF (h : if_icmp.holds .lt x y = false) : ¬ x < y := by simpa [if_icmp.holds] using h
theorem b_ge (h : if_icmp.holds .ge x y = true) : ¬ x < y := by simpa [if_icmp.holds, Int32.not_lt] using h
theorem b_geF (h : if_icmp.holds .ge x y = false) : x < y := by simpa [if_icmp.holds, Int32.not_le] using h
theorem b_gt (h : if_icmp.holds .gt x y = true) : y < x := by simpa [if_icmp.holds] using h
theorem b_gtF (h : if_icmp.holds .gt x y = false) : ¬ y < x := by simpa [if_icmp.holds] using h
theorem b_le (h : if_icmp.holds .le x y = true) : ¬ y < x := by simpa [if_icmp.holds, Int32.not_lt] using h
theorem b_leF (h : if_icmp.holds .le x y = false) : y < x := by simpa [if_icmp.holds, Int32.not_le] using h
-- the heap's steps
theorem s_getF {a0 : Array Value} {R0 O n d host : String} {index : Nat} {a : Addr} {v : Value} (F : Fld Z h a O n d v) (w : (Jvm.Cond.fieldLink I.own index R0 n d).before a0 Z = true ∨ (Jvm.Cond.fieldLinkNest I.own index R0 n d host).before a0 Z = true) (via : Via Z R0 O n d) (hd : decode I.bytes pc = .ok (.getfield index, 3)) (hq : pc + 3 = pc')
    (r : oRun C Z n0 I Q h cs sl (mkF C.m pc' L (v :: S))) : oRun C Z n0 I Q h cs sl (mkF C.m pc L (.ref a :: S)) := by
  subst hq
  refine oMove (fun T locs K => ?_) r
  obtain ⟨X, k1, k2, k3, k4, k5, k6, k7, k8, k9, k10, k11⟩ := K
  obtain ⟨T', X', e', st⟩ := getF X k1 k2 k3 w via k9 F (g := mkF C.m pc L (.ref a :: S)) rfl rfl (hb k4 hd)
  exact ⟨T', locs, ⟨X', k1, k2, k3, k4, k5, k6, k7, k8, e', k10, k11⟩, st⟩
theorem s_putF {a0 : Array Value} {R0 O n d host C' : String} {index kk : Nat} {ty : FieldType} {a : Addr} {v old : Value} (F : Fld Z h a O n d old) (E : Exa Z h a C') (ha : n0 ≤ a) (w : (Jvm.Cond.fieldLink I.own index R0 n d).before a0 Z = true ∨ (Jvm.Cond.fieldLinkNest I.own index R0 n d host).before a0 Z = true) (via : Via Z R0 O n d)
    (Lw : (Jvm.Cond.lays C' O n d).before a0 Z = true ∨ ((Jvm.Cond.laysFinal C' O n d).before a0 Z = true ∧ I.own = O ∧ I.mn = "<init>")) (wi : (Jvm.Cond.instantiable C' kk).before a0 Z = true)
    (hty : parseFieldDescriptor d = some ty) (hn : narrow ty v = v) (hf : fits ty v = true) (hd : decode I.bytes pc = .ok (.putfield index, 3)) (hq : pc + 3 = pc')
    (r : ∀ h', Wr h h' a (Jvm.RoadKit.slotOf Z O n d) v → oRun C Z n0 I Q h' cs sl (mkF C.m pc' L S)) : oRun C Z n0 I Q h cs sl (mkF C.m pc L (v :: .ref a :: S)) := by
  subst hq
  intro T locs K
  obtain ⟨X, k1, k2, k3, k4, k5, k6, k7, k8, k9, k10, k11⟩ := K
  obtain ⟨T', h', X', e', W, st⟩ := putF X k1 k2 k3 w via k9 F E (Lw.imp id fun q => ⟨q.1, q.2.1, k7.trans q.2.2⟩) wi hty hn hf (g := mkF C.m pc L (v :: .ref a :: S)) rfl rfl (hb k4 hd)
  obtain ⟨t, o, h1, h2⟩ := r h' W T' _ ⟨X', k1, k2, k3, k4, k5, k6, k7, k8, e', Fr.snoc X' k10 ha, k11.wr W ha⟩
  exact ⟨t, o, st t h1, h2⟩
theorem s_getS {a0 : Array Value} {R0 O n d : String} {index : Nat} {v : Value} (F : Sta Z Z.heap O n d v) (w : (Jvm.Cond.fieldLink I.own index R0 n d).before a0 Z = true) (via : Via Z R0 O n d) (hd : decode I.bytes pc = .ok (.getstatic index, 3)) (hq : pc + 3 = pc')
    (r : oRun C Z n0 I Q h cs sl (mkF C.m pc' L (v :: S))) : oRun C Z n0 I Q h cs sl (mkF C.m pc L S) := by
  subst hq
  refine oMove (fun T locs K => ?_) r
  obtain ⟨X, k1, k2, k3, k4, k5, k6, k7, k8, k9, k10, k11⟩ := K
  obtain ⟨T', X', e', st⟩ := getS (host := "") X k1 k2 k3 w via k9 (F.ext k11.2) (g := mkF C.m pc L S) rfl (hb k4 hd)
  exact ⟨T', locs, ⟨X', k1, k2, k3, k4, k5, k6, k7, k8, e', k10, k11⟩, st⟩
theorem s_new {a0 : Array Value} {C' : String} {index n : Nat} (w : (Jvm.Cond.classLink I.own index C').before a0 Z = true) (wi : (Jvm.Cond.instantiable C' n).before a0 Z = true) (wz : (Jvm.Cond.initialized C').before a0 Z = true) (hd : decode I.bytes pc = .ok (.new index, 3)) (hq : pc + 3 = pc') (hc : cs + 1 ≤ I.R.cells) (hl : sl + n ≤ I.R.slots)
    (r : ∀ h' a, a = h.size → n0 ≤ a → Ext h h' → Exa Z h' a C' → (∀ {O nm d : String} {ty : FieldType}, Laid Z a0 C' O nm d → parseFieldDescriptor d = some ty → Fld Z h' a O nm d (defaultValue ty)) → oRun C Z n0 I Q h' (cs + 1) (sl + n) (mkF C.m pc' L (.ref a :: S))) : oRun C Z n0 I Q h cs sl (mkF C.m pc L S) := by
  subst hq
  intro T locs K
  obtain ⟨X, k1, k2, k3, k4, k5, k6, k7, k8, k9, k10, k11⟩ := K
  obtain ⟨T', h', X', e', E, A, D, -, st⟩ := newO X k1 k2 k3 w wi wz k9 (g := mkF C.m pc L S) rfl (hb k4 hd) hc hl
  obtain ⟨t, o, h1, h2⟩ := r h' _ rfl (o_le k11) E A D T' _ ⟨X', k1, k2, k3, k4, k5, k6, k7, k8, e', k10, k11.ext E⟩
  exact ⟨t, o, st t h1, h2⟩
theorem s_newA {a0 : Array Value} {aty : ArrayType} {n : Int32} (cap : Nat) (w : (Jvm.Cond.arrayClass (newarray.typeOf aty)).before a0 Z = true) (hd : decode I.bytes pc = .ok (.newarray aty, 2)) (hq : pc + 2 = pc') (hn : ¬ n < 0) (hcap : n.toNatClampNeg ≤ cap) (hb' : cap * 8 ≤ 536870912) (hc : cs + 1 ≤ I.R.cells) (hl : sl + cap ≤ I.R.slots)
    (r : ∀ h' a k, a = h.size → n0 ≤ a → Ext h h' → Arv Z h' a k (newarray.typeOf aty) n [] (defaultValue (newarray.typeOf aty)) → oRun C Z n0 I Q h' (cs + 1) (sl + cap) (mkF C.m pc' L (.ref a :: S))) : oRun C Z n0 I Q h cs sl (mkF C.m pc L (.int n :: S)) := by
  subst hq
  intro T locs K
  obtain ⟨X, k1, k2, k3, k4, k5, k6, k7, k8, k9, k10, k11⟩ := K
  obtain ⟨T', h', kA, X', e', E, A, st⟩ := newP X k1 k2 w k9 (g := mkF C.m pc L (.int n :: S)) rfl (hb k4 hd) rfl hn hcap hb' hc hl
  obtain ⟨t, o, h1, h2⟩ := r h' _ kA rfl (o_le k11) E (Arv.new A hn) T' _ ⟨X', k1, k2, k3, k4, k5, k6, k7, k8, e', k10, k11.ext E⟩
  exact ⟨t, o, st t h1, h2⟩
theorem s_alen {a : Addr} {k : ClassId} {ty : FieldType} {n : Int32} {vs : List Value} {dv : Value} (A : Arv Z h a k ty n vs dv) (hd : decode I.bytes pc = .ok (.arraylength, 1)) (hq : pc + 1 = pc') (r : oRun C Z n0 I Q h cs sl (mkF C.m pc' L (.int n :: S))) : oRun C Z n0 I Q h cs sl (mkF C.m pc L (.ref a :: S)) := by
  subst hq
  refine oStep (fun T locs K t kt => ?_) r
  obtain ⟨X, k1, k2, k3, k4, k5, k6, k7, k8, k9, k10, k11⟩ := K
  obtain ⟨c, A1, A2, A3, A4, -⟩ := A
  refine X.arraylength k1 (by rw [k9]; exact A1.1) (State.isArrayOf_alike k2.alike A1.2.1) (g := mkF C.m pc L (.ref a :: S)) rfl rfl (hb k4 hd) _ ?_
  rw [len_of A3 A4]; exact kt
theorem o_at {a : Addr} {k : ClassId} {ty : FieldType} {n j : Int32} {vs : List Value} {dv v : Value} (A : Arv Z h a k ty n vs dv) (j0 : ¬ j < 0) (j1 : j < n) (hv : vs.getD j.toNatClampNeg dv = v) : ∃ c, Arr Z h a c ty ∧ ¬ (j < 0 ∨ c.slots.size ≤ j.toNatClampNeg) ∧ c.slots[j.toNatClampNeg]? = some v := by
  obtain ⟨c, A1, A2, A3, A4, A5, A6⟩ := A
  have q := inb_of A3 ⟨j0, j1⟩
  exact ⟨c, A1, q, A5.at q hv⟩
theorem s_iaload {a : Addr} {k : ClassId} {n j : Int32} {vs : List Value} {dv v : Value} (A : Arv Z h a k .int n vs dv) (j0 : ¬ j < 0) (j1 : j < n) (hv : vs.getD j.toNatClampNeg dv = v) (hd : decode I.bytes pc = .ok (.iaload, 1)) (hq : pc + 1 = pc') (r : oRun C Z n0 I Q h cs sl (mkF C.m pc' L (v :: S))) : oRun C Z n0 I Q h cs sl (mkF C.m pc L (.int j :: .ref a :: S)) := by
  subst hq
  refine oStep (fun T locs K t kt => ?_) r
  obtain ⟨X, k1, k2, k3, k4, k5, k6, k7, k8, k9, k10, k11⟩ := K
  obtain ⟨c, A1, q, A2⟩ := o_at A j0 j1 hv
  exact X.iaload k1 (by rw [k9]; exact A1.1) (State.isArrayOf_alike k2.alike A1.2.1) A1.2.2 q A2 (g := mkF C.m pc L (.int j :: .ref a :: S)) rfl rfl (hb k4 hd) _ kt
theorem s_caload {a : Addr} {k : ClassId} {n j : Int32} {vs : List Value} {dv v : Value} (A : Arv Z h a k .char n vs dv) (j0 : ¬ j < 0) (j1 : j < n) (hv : vs.getD j.toNatClampNeg dv = v) (hd : decode I.bytes pc = .ok (.caload, 1)) (hq : pc + 1 = pc') (r : oRun C Z n0 I Q h cs sl (mkF C.m pc' L (v :: S))) : oRun C Z n0 I Q h cs sl (mkF C.m pc L (.int j :: .ref a :: S)) := by
  subst hq
  refine oStep (fun T locs K t kt => ?_) r
  obtain ⟨X, k1, k2, k3, k4, k5, k6, k7, k8, k9, k10, k11⟩ := K
  obtain ⟨c, A1, q, A2⟩ := o_at A j0 j1 hv
  exact X.caload k1 (by rw [k9]; exact A1.1) (State.isArrayOf_alike k2.alike A1.2.1) A1.2.2 q A2 (g := mkF C.m pc L (.int j :: .ref a :: S)) rfl rfl (hb k4 hd) _ kt
theorem s_baload {a : Addr} {k : ClassId} {n j : Int32} {vs : List Value} {dv v : Value} (A : Arv Z h a k .byte n vs dv) (j0 : ¬ j < 0) (j1 : j < n) (hv : vs.getD j.toNatClampNeg dv = v) (hd : decode I.bytes pc = .ok (.baload, 1)) (hq : pc + 1 = pc') (r : oRun C Z n0 I Q h cs sl (mkF C.m pc' L (v :: S))) : oRun C Z n0 I Q h cs sl (mkF C.m pc L (.int j :: .ref a :: S)) := by
  subst hq
  refine oStep (fun T locs K t kt => ?_) r
  obtain ⟨X, k1, k2, k3, k4, k5, k6, k7, k8, k9, k10, k11⟩ := K
  obtain ⟨c, A1, q, A2⟩ := o_at A j0 j1 hv
  exact X.baloadBytes k1 (by rw [k9]; exact A1.1) (State.isArrayOf_alike k2.alike A1.2.1) A1.2.2 q A2 (g := mkF C.m pc L (.int j :: .ref a :: S)) rfl rfl (hb k4 hd) _ kt
theorem o_padTo {a : Addr} {k : ClassId} {ty : FieldType} {n : Int32} {vs : List Value} {dv : Value} (A : Arv Z h a k ty n vs dv) (N : Nat) : Arv Z h a k ty n (vs ++ List.replicate N dv) dv := A.pad (pad_rep vs dv N)
theorem s_iastore {a : Addr} {k : ClassId} {n j : Int32} {vs : List Value} {dv : Value} (A : Arv Z h a k .int n vs dv) (ha : n0 ≤ a) (j0 : ¬ j < 0) (j1 : j < n) (i : Nat) (hi : j.toNatClampNeg = i) (hl : i < vs.length) (hd : decode I.bytes pc = .ok (.iastore, 1)) (hq : pc + 1 = pc')
    (r : ∀ h', Wr h h' a i (.int x) → Arv Z h' a k .int n (vs.set i (.int x)) dv → oRun C Z n0 I Q h' cs sl (mkF C.m pc' L S)) : oRun C Z n0 I Q h cs sl (mkF C.m pc L (.int x :: .int j :: .ref a :: S)) := by
  subst hq
  intro T locs K
  obtain ⟨X, k1, k2, k3, k4, k5, k6, k7, k8, k9, k10, k11⟩ := K
  obtain ⟨c, A1, A2, A3, A4, A5, A6⟩ := A
  obtain ⟨T', h', X', e', W, st⟩ := stI X k1 k2 k9 A1 (inb_of A3 ⟨j0, j1⟩) (g := mkF C.m pc L (.int x :: .int j :: .ref a :: S)) rfl rfl (hb k4 hd)
  obtain ⟨t, o, h1, h2⟩ := r h' (hi ▸ W) (Arv.set A1 A2 A3 A4 A5 A6 rfl W i hi hl) T' _ ⟨X', k1, k2, k3, k4, k5, k6, k7, k8, e', Fr.snoc X' k10 ha, k11.wr W ha⟩
  exact ⟨t, o, st t h1, h2⟩
theorem s_castore {a : Addr} {k : ClassId} {n j : Int32} {vs : List Value} {dv : Value} (A : Arv Z h a k .char n vs dv) (ha : n0 ≤ a) (j0 : ¬ j < 0) (j1 : j < n) (i : Nat) (hi : j.toNatClampNeg = i) (hl : i < vs.length) (hd : decode I.bytes pc = .ok (.castore, 1)) (hq : pc + 1 = pc')
    (r : ∀ h', Wr h h' a i (.int (nar .char x)) → Arv Z h' a k .char n (vs.set i (.int (nar .char x))) dv → oRun C Z n0 I Q h' cs sl (mkF C.m pc' L S)) : oRun C Z n0 I Q h cs sl (mkF C.m pc L (.int x :: .int j :: .ref a :: S)) := by
  subst hq
  intro T locs K
  obtain ⟨X, k1, k2, k3, k4, k5, k6, k7, k8, k9, k10, k11⟩ := K
  obtain ⟨c, A1, A2, A3, A4, A5, A6⟩ := A
  obtain ⟨T', h', X', e', W, st⟩ := stC X k1 k2 k9 A1 (inb_of A3 ⟨j0, j1⟩) (g := mkF C.m pc L (.int x :: .int j :: .ref a :: S)) rfl rfl (hb k4 hd)
  obtain ⟨t, o, h1, h2⟩ := r h' (hi ▸ W) (Arv.set A1 A2 A3 A4 A5 A6 (fits_nar_char _) W i hi hl) T' _ ⟨X', k1, k2, k3, k4, k5, k6, k7, k8, e', Fr.snoc X' k10 ha, k11.wr W ha⟩
  exact ⟨t, o, st t h1, h2⟩
theorem s_bastore {a : Addr} {k : ClassId} {n j : Int32} {vs : List Value} {dv : Value} (A : Arv Z h a k .byte n vs dv) (ha : n0 ≤ a) (j0 : ¬ j < 0) (j1 : j < n) (i : Nat) (hi : j.toNatClampNeg = i) (hl : i < vs.length) (hd : decode I.bytes pc = .ok (.bastore, 1)) (hq : pc + 1 = pc')
    (r : ∀ h', Wr h h' a i (.int (nar .byte x)) → Arv Z h' a k .byte n (vs.set i (.int (nar .byte x))) dv → oRun C Z n0 I Q h' cs sl (mkF C.m pc' L S)) : oRun C Z n0 I Q h cs sl (mkF C.m pc L (.int x :: .int j :: .ref a :: S)) := by
  subst hq
  intro T locs K
  obtain ⟨X, k1, k2, k3, k4, k5, k6, k7, k8, k9, k10, k11⟩ := K
  obtain ⟨c, A1, A2, A3, A4, A5, A6⟩ := A
  obtain ⟨T', h', X', e', W, st⟩ := stB X k1 k2 k9 A1 (inb_of A3 ⟨j0, j1⟩) (g := mkF C.m pc L (.int x :: .int j :: .ref a :: S)) rfl rfl (hb k4 hd)
  obtain ⟨t, o, h1, h2⟩ := r h' (hi ▸ W) (Arv.set A1 A2 A3 A4 A5 A6 (fits_nar_byte _) W i hi hl) T' _ ⟨X', k1, k2, k3, k4, k5, k6, k7, k8, e', Fr.snoc X' k10 ha, k11.wr W ha⟩
  exact ⟨t, o, st t h1, h2⟩
theorem s_copy {a0 : Array Value} {index : Nat} {a b : Addr} {k k' : ClassId} {ty : FieldType} {z z' sp dp nn : Int32} {vs vd : List Value} {dv dd : Value} (A : Arv Z h a k ty z vs dv) (B : Arv Z h b k' ty z' vd dd) (hty : refKind ty = false) (hgb : n0 ≤ b)
    (w1 : (Jvm.Cond.methodLink I.own index Jvm.Stand.acN).before a0 Z = true) (w2 : (Jvm.Cond.native Jvm.Stand.acN).before a0 Z = true) (w3 : (Jvm.Cond.static Jvm.Stand.acN).before a0 Z = true) (w4 : (Jvm.Cond.initialized "java/lang/System").before a0 Z = true)
    (h1 : ¬ sp < 0) (h2 : ¬ dp < 0) (h3 : ¬ nn < 0) (h4 : sp.toNatClampNeg + nn.toNatClampNeg ≤ z.toNatClampNeg) (h5 : dp.toNatClampNeg + nn.toNatClampNeg ≤ z'.toNatClampNeg) (hl : dp.toNatClampNeg + nn.toNatClampNeg ≤ vd.length)
    (hsz : L.size = I.ml) (hd : decode I.bytes pc = .ok (.invokestatic index, 3)) (hq : pc + 3 = pc') (hf : 1 ≤ I.R.frames) (hlo : (S.map fun v => v.category).sum + (nativeFrameWords "java/lang/System" "arraycopy" 5 + 11) ≤ I.R.locals)
    (r : ∀ h', Keep h h' [b] → Arv Z h' b k' ty z' (vd.take dp.toNatClampNeg ++ ((List.range nn.toNatClampNeg).map fun i => vs.getD (sp.toNatClampNeg + i) dv) ++ vd.drop (dp.toNatClampNeg + nn.toNatClampNeg)) dd → oRun C Z n0 I Q h' cs sl (mkF C.m pc' L S)) :
    oRun C Z n0 I Q h cs sl (mkF C.m pc L (.int nn :: .int dp :: .ref b :: .int sp :: .ref a :: S)) := by
  subst hq
  intro T locs K
  obtain ⟨X, k1, k2, k3, k4, k5, k6, k7, k8, k9, k10, k11⟩ := K
  obtain ⟨T', h', L', X', e', N', K', A', st⟩ := cpA X k1 k2 k3 w1 w2 w3 w4 k9 A B (Or.inl ⟨rfl, hty⟩) h1 h2 h3 h4 h5 rfl hl k10 hgb (g := mkF C.m pc L (.int nn :: .int dp :: .ref b :: .int sp :: .ref a :: S)) rfl (hsz.trans k5.symm) rfl (hb k4 hd) hf (W := (S.map fun v => v.category).sum) (by show 2 * 0 + _ ≤ _; simp) hlo
  obtain ⟨t, o, q1, q2⟩ := r h' K' A' T' _ ⟨X', k1, k2, k3, k4, k5, k6, k7, k8, e', N', k11.keep K' (allS hgb all0)⟩
  exact ⟨t, o, st t q1, q2⟩
theorem s_initO {a0 : Array Value} {idx : Nat} {a : Addr} (w1 : (Jvm.Cond.methodLink I.own idx Lib.objectInit).before a0 Z = true) (w2 : (Jvm.Cond.instanceMethod Lib.objectInit).before a0 Z = true) (w3 : (Jvm.Cond.code Lib.objectInit ⟨#[0xb1]⟩ 1 none).before a0 Z = true) (hsz : L.size = I.ml) (hd : decode I.bytes pc = .ok (.invokespecial idx, 3)) (hq : pc + 3 = pc') (hf : 1 ≤ I.R.frames) (hlo : (S.map fun v => v.category).sum + 12 ≤ I.R.locals)
    (r : oRun C Z n0 I Q h cs sl (mkF C.m pc' L S)) : oRun C Z n0 I Q h cs sl (mkF C.m pc L (.ref a :: S)) := by
  subst hq
  refine oMove (fun T locs K => ?_) r
  obtain ⟨X, k1, k2, k3, k4, k5, k6, k7, k8, k9, k10, k11⟩ := K
  obtain ⟨T', X', e', st⟩ := initO X k1 k2 k3 w1 w2 w3 k9 (g := mkF C.m pc L (.ref a :: S)) rfl (hsz.trans k5.symm) rfl (hb k4 hd) hf (W := (S.map fun v => v.category).sum) (by show 2 * 0 + _ ≤ _; simp) hlo
  exact ⟨T', locs, ⟨X', k1, k2, k3, k4, k5, k6, k7, k8, e', k10, k11⟩, st⟩
theorem s_ldcI {a0 : Array Value} {idx : Nat} (w : (Jvm.Cond.constant I.own idx x).before a0 Z = true) (hd : decode I.bytes pc = .ok (.ldc idx, 2)) (hq : pc + 2 = pc') (r : oRun C Z n0 I Q h cs sl (mkF C.m pc' L (.int x :: S))) : oRun C Z n0 I Q h cs sl (mkF C.m pc L S) := by
  subst hq
  refine oStep (fun T locs K t kt => ?_) r
  obtain ⟨X, k1, k2, k3, k4, k5, k6, k7, k8, k9, k10, k11⟩ := K
  exact X.ldcInt k1 k3 (mvT k2 w) (g := mkF C.m pc L S) rfl (hb k4 hd) _ kt
theorem s_acmpNe {o : Int} {pc'' : Nat} {v w : Value} (hv : v.isRef = true) (hw : w.isRef = true) (hd : decode I.bytes pc = .ok (.if_acmp .ne o, 3)) (hq : pc + 3 = pc') (ho : 0 ≤ (pc : Int) + o) (hq' : ((pc : Int) + o).toNat = pc'')
    (rt : ¬ v = w → oRun C Z n0 I Q h cs sl (mkF C.m pc'' L S)) (rf : v = w → oRun C Z n0 I Q h cs sl (mkF C.m pc' L S)) : oRun C Z n0 I Q h cs sl (mkF C.m pc L (w :: v :: S)) := by
  subst hq
  by_cases hh : v = w
  · exact oStep (fun T locs K t kt => XT.acmpNo K.1.here K.2.1 rfl (hb K.2.2.2.2.1 hd) rfl hv hw (by simp [XT.acmp, hh]) kt) (rf hh)
  · exact oStep (fun T locs K t kt => XT.acmpYes K.1.here K.2.1 rfl (pc0 := pc) rfl (hb K.2.2.2.2.1 hd) rfl hv hw (by simp [XT.acmp, hh]) ho hq' kt) (rt hh)
theorem s_acmpEq {o : Int} {pc'' : Nat} {v w : Value} (hv : v.isRef = true) (hw : w.isRef = true) (hd : decode I.bytes pc = .ok (.if_acmp .eq o, 3)) (hq : pc + 3 = pc') (ho : 0 ≤ (pc : Int) + o) (hq' : ((pc : Int) + o).toNat = pc'')
    (rt : v = w → oRun C Z n0 I Q h cs sl (mkF C.m pc'' L S)) (rf : ¬ v = w → oRun C Z n0 I Q h cs sl (mkF C.m pc' L S)) : oRun C Z n0 I Q h cs sl (mkF C.m pc L (w :: v :: S)) := by
  subst hq
  by_cases hh : v = w
  · exact oStep (fun T locs K t kt => XT.acmpYes K.1.here K.2.1 rfl (pc0 := pc) rfl (hb K.2.2.2.2.1 hd) rfl hv hw (by simp [XT.acmp, hh]) ho hq' kt) (rt hh)
  · exact oStep (fun T locs K t kt => XT.acmpNo K.1.here K.2.1 rfl (hb K.2.2.2.2.1 hd) rfl hv hw (by simp [XT.acmp, hh]) kt) (rf hh)
theorem s_nnY {o : Int} {b : Addr} (hd : decode I.bytes pc = .ok (.ifnonnull o, 3)) (ho : 0 ≤ (pc : Int) + o) (hq' : ((pc : Int) + o).toNat = pc') (r : oRun C Z n0 I Q h cs sl (mkF C.m pc' L S)) : oRun C Z n0 I Q h cs sl (mkF C.m pc L (.ref b :: S)) :=
  oStep (fun T locs K t kt => XT.ifnonnullYes K.1.here K.2.1 rfl (pc0 := pc) rfl (hb K.2.2.2.2.1 hd) rfl ho hq' kt) r
theorem s_nnN {o : Int} (hd : decode I.bytes pc = .ok (.ifnonnull o, 3)) (hq : pc + 3 = pc') (r : oRun C Z n0 I Q h cs sl (mkF C.m pc' L S)) : oRun C Z n0 I Q h cs sl (mkF C.m pc L (.null :: S)) := by
  subst hq; exact oStep (fun T locs K t kt => XT.ifnonnullNo K.1.here K.2.1 rfl (hb K.2.2.2.2.1 hd) rfl kt) r
theorem s_nuY {o : Int} (hd : decode I.bytes pc = .ok (.ifnull o, 3)) (ho : 0 ≤ (pc : Int) + o) (hq' : ((pc : Int) + o).toNat = pc') (r : oRun C Z n0 I Q h cs sl (mkF C.m pc' L S)) : oRun C Z n0 I Q h cs sl (mkF C.m pc L (.null :: S)) :=
  oStep (fun T locs K t kt => XS.ifnullYes K.1.here K.2.1 rfl (pc0 := pc) rfl (hb K.2.2.2.2.1 hd) rfl ho hq' kt) r
theorem s_nuN {o : Int} {b : Addr} (hd : decode I.bytes pc = .ok (.ifnull o, 3)) (hq : pc + 3 = pc') (r : oRun C Z n0 I Q h cs sl (mkF C.m pc' L S)) : oRun C Z n0 I Q h cs sl (mkF C.m pc L (.ref b :: S)) := by
  subst hq; exact oStep (fun T locs K t kt => XS.ifnullNo K.1.here K.2.1 rfl (hb K.2.2.2.2.1 hd) rfl kt) r
theorem s_castY {a0 : Array Value} {Kn : String} {index : Nat} {a : Addr} (F : Ins Z h a Kn true) (w : (Jvm.Cond.classLink I.own index Kn).before a0 Z = true) (hd : decode I.bytes pc = .ok (.checkcast index, 3)) (hq : pc + 3 = pc')
    (r : oRun C Z n0 I Q h cs sl (mkF C.m pc' L (.ref a :: S))) : oRun C Z n0 I Q h cs sl (mkF C.m pc L (.ref a :: S)) := by
  subst hq
  refine oMove (fun T locs K => ?_) r
  obtain ⟨X, k1, k2, k3, k4, k5, k6, k7, k8, k9, k10, k11⟩ := K
  obtain ⟨T', X', e', st⟩ := castY X k1 k2 k3 w k9 F (g := mkF C.m pc L (.ref a :: S)) rfl rfl (hb k4 hd)
  exact ⟨T', locs, ⟨X', k1, k2, k3, k4, k5, k6, k7, k8, e', k10, k11⟩, st⟩
theorem s_instY {a0 : Array Value} {Kn : String} {index : Nat} {a : Addr} (F : Ins Z h a Kn true) (w : (Jvm.Cond.classLink I.own index Kn).before a0 Z = true) (hd : decode I.bytes pc = .ok (.instanceof index, 3)) (hq : pc + 3 = pc')
    (r : oRun C Z n0 I Q h cs sl (mkF C.m pc' L (.int 1 :: S))) : oRun C Z n0 I Q h cs sl (mkF C.m pc L (.ref a :: S)) := by
  subst hq
  refine oMove (fun T locs K => ?_) r
  obtain ⟨X, k1, k2, k3, k4, k5, k6, k7, k8, k9, k10, k11⟩ := K
  obtain ⟨T', X', e', st⟩ := instY X k1 k2 k3 w k9 F (g := mkF C.m pc L (.ref a :: S)) rfl rfl (hb k4 hd)
  exact ⟨T', locs, ⟨X', k1, k2, k3, k4, k5, k6, k7, k8, e', k10, k11⟩, st⟩
-- a value left by a callee
def oPush : Option Value → List Value → List Value
  | none, S => S
  | some v, S => v :: S
theorem o_push (v : Option Value) (S : List Value) : v.toList ++ S = oPush v S := by cases v <;> rfl
theorem o_zero (S : List Value) (W : Nat) (q : (S.map fun v => v.category).sum ≤ W) (m : MethodId) (pc : Nat) (L : Array Slot) (S' : List Value) : 2 * (mkF m pc L S').monitorRoom + (S.map fun v => v.category).sum ≤ W := by show 2 * 0 + _ ≤ _; simpa using q
theorem s_callS {a0 : Array Value} {index : Nat} {yn : MethodName} {J : OInfo} {as' : Array Value} {Q' : Option Value → Heap → Prop} {argsL : List Value} (M : oCon C.l Z n0 yn J as' h Q') (ha : argsL.toArray = as')
    (w1 : (Jvm.Cond.methodLink I.own index yn).before a0 Z = true) (w2 : (Jvm.Cond.static yn).before a0 Z = true) (w3 : (Jvm.Cond.initialized yn.cls).before a0 Z = true) (w4 : (Jvm.Cond.code yn J.bytes J.ml J.ret).before a0 Z = true) (hy : yn.cls ≠ "java/lang/invoke/MethodHandle" ∧ yn.cls ≠ "java/lang/invoke/VarHandle")
    (hlen : ∀ sig, parseMethodDescriptor yn.desc = some sig → argsL.length = sig.parameters.length) (hsz : L.size = I.ml) (hd : decode I.bytes pc = .ok (.invokestatic index, 3)) (hq : pc + 3 = pc') (hf : J.R.frames + 1 ≤ I.R.frames) (hlo : (S.map fun v => v.category).sum + (J.ml + 11) + J.R.locals ≤ I.R.locals) (hc : cs + J.R.cells ≤ I.R.cells) (hs : sl + J.R.slots ≤ I.R.slots)
    (r : ∀ v h', Q' v h' → oRun C Z n0 I Q h' (cs + J.R.cells) (sl + J.R.slots) (mkF C.m pc' L (oPush v S))) : oRun C Z n0 I Q h cs sl (mkF C.m pc L (argsL.reverse ++ S)) := by
  subst hq ha
  intro T locs K
  obtain ⟨X, k1, k2, k3, k4, k5, k6, k7, k8, k9, k10, k11⟩ := K
  obtain ⟨v, _, ⟨T', L', c', s'⟩, -, X', ⟨Lc, ⟨q1, q2, q3⟩, l', y', z'⟩, st⟩ := Jvm.LawKit.callS X k1 (y := yn) k3 (mvT k2 w1) (mvT k2 w2) (mvT k2 w3) (mvT k2 w4) hy (backOf (W := (S.map fun v => v.category).sum) (Q := fun v h' L => Fr n0 L ∧ Old Z n0 h' ∧ Q' v h') (M k11 []) k2 w4 w3 hf hlo) (g := mkF C.m pc L (argsL.reverse ++ S)) rfl (hsz.trans k5.symm) (argsL := argsL) (rest := S) hlen rfl (o_zero _ _ (Nat.le_refl _) _ _ _ _) (hb k4 hd) (fun _ _ => ⟨rfl, k9, hc, hs⟩)
  dsimp only [Pt.U, Pt.locs, Pt.cells, Pt.slots] at X' l' y' z' st q2 q3
  subst l' y' z'
  obtain ⟨t, o, h1, h2⟩ := r v _ q3 T' _ ⟨X', k1, k2, k3, k4, k5, k6, k7, k8, rfl, Fr.app k10 q1, q2⟩
  rw [← o_push] at h1
  exact ⟨t, o, st t h1, h2⟩
theorem s_callI {a0 : Array Value} {index : Nat} {yn : MethodName} {J : OInfo} {as' : Array Value} {Q' : Option Value → Heap → Prop} {argsL : List Value} {a : Addr} (M : oCon C.l Z n0 yn J as' h Q') (ha : (.ref a :: argsL).toArray = as') (hr : J.ret = none) (hn : yn.name = "<init>")
    (w1 : (Jvm.Cond.methodLink I.own index yn).before a0 Z = true) (w2 : (Jvm.Cond.instanceMethod yn).before a0 Z = true) (w3 : (Jvm.Cond.initialized yn.cls).before a0 Z = true) (w4 : (Jvm.Cond.code yn J.bytes J.ml J.ret).before a0 Z = true) (hy : yn.cls ≠ "java/lang/invoke/MethodHandle" ∧ yn.cls ≠ "java/lang/invoke/VarHandle")
    (hlen : ∀ sig, parseMethodDescriptor yn.desc = some sig → argsL.length = sig.parameters.length) (hsz : L.size = I.ml) (hd : decode I.bytes pc = .ok (.invokespecial index, 3)) (hq : pc + 3 = pc') (hf : J.R.frames + 1 ≤ I.R.frames) (hlo : (S.map fun v => v.category).sum + (J.ml + 11) + J.R.locals ≤ I.R.locals) (hc : cs + J.R.cells ≤ I.R.cells) (hs : sl + J.R.slots ≤ I.R.slots)
    (r : ∀ v h', Q' v h' → oRun C Z n0 I Q h' (cs + J.R.cells) (sl + J.R.slots) (mkF C.m pc' L (oPush v S))) : oRun C Z n0 I Q h cs sl (mkF C.m pc L (argsL.reverse ++ .ref a :: S)) := by
  subst hq ha
  intro T locs K
  obtain ⟨X, k1, k2, k3, k4, k5, k6, k7, k8, k9, k10, k11⟩ := K
  obtain ⟨v, _, ⟨T', L', c', s'⟩, -, X', ⟨Lc, ⟨q1, q2, q3⟩, l', y', z'⟩, st⟩ := X.specialBack k1 (y := yn) hn k3 (mvT k2 w1) (mvT k2 w2) (bytes := J.bytes) (maxL := J.ml) (by rw [hr] at w4; exact mvT k2 w4) hy (backOf (W := (S.map fun v => v.category).sum) (Q := fun v h' L => Fr n0 L ∧ Old Z n0 h' ∧ Q' v h') (M k11 []) k2 w4 w3 hf hlo) (g := mkF C.m pc L (argsL.reverse ++ .ref a :: S)) rfl (hsz.trans k5.symm) (Steps.refl _) (argsL := argsL) (rest := S) hlen rfl (o_zero _ _ (Nat.le_refl _) _ _ _ _) (hb k4 hd) (fun _ _ => ⟨rfl, k9, hc, hs⟩)
  dsimp only [Pt.U, Pt.locs, Pt.cells, Pt.slots] at X' l' y' z' st q2 q3
  subst l' y' z'
  obtain ⟨t, o, h1, h2⟩ := r v _ q3 T' _ ⟨X', k1, k2, k3, k4, k5, k6, k7, k8, rfl, Fr.app k10 q1, q2⟩
  rw [← o_push] at h1
  exact ⟨t, o, st.trans h1, h2⟩
theorem s_callV {a0 : Array Value} {index : Nat} {Cn : String} {yn zn : MethodName} {J : OInfo} {as' : Array Value} {Q' : Option Value → Heap → Prop} {argsL : List Value} {a : Addr} (M : oCon C.l Z n0 zn J as' h Q') (ha : (.ref a :: argsL).toArray = as') (E : Exa Z h a Cn)
    (w1 : (Jvm.Cond.methodLink I.own index yn).before a0 Z = true) (w2 : (Jvm.Cond.declares yn).before a0 Z = true) (w5 : (Jvm.Cond.selects Cn yn zn).before a0 Z = true) (w6 : (Jvm.Cond.instanceMethod zn).before a0 Z = true) (nf : ∀ s' : State, Z.Warmed39 s'.vm → NotFace s' yn) (w3 : (Jvm.Cond.initialized zn.cls).before a0 Z = true) (w4 : (Jvm.Cond.code zn J.bytes J.ml J.ret).before a0 Z = true) (hy : yn.cls ≠ "java/lang/invoke/MethodHandle" ∧ yn.cls ≠ "java/lang/invoke/VarHandle")
    (hlen : ∀ sig, parseMethodDescriptor yn.desc = some sig → argsL.length = sig.parameters.length) (hsz : L.size = I.ml) (hd : decode I.bytes pc = .ok (.invokevirtual index, 3)) (hq : pc + 3 = pc') (hf : J.R.frames + 1 ≤ I.R.frames) (hlo : (S.map fun v => v.category).sum + (J.ml + 11) + J.R.locals ≤ I.R.locals) (hc : cs + J.R.cells ≤ I.R.cells) (hs : sl + J.R.slots ≤ I.R.slots)
    (r : ∀ v h', Q' v h' → oRun C Z n0 I Q h' (cs + J.R.cells) (sl + J.R.slots) (mkF C.m pc' L (oPush v S))) : oRun C Z n0 I Q h cs sl (mkF C.m pc L (argsL.reverse ++ .ref a :: S)) := by
  subst hq ha
  intro T locs K
  obtain ⟨X, k1, k2, k3, k4, k5, k6, k7, k8, k9, k10, k11⟩ := K
  obtain ⟨cq, kq, qa, qb, qc⟩ := isOf (T := T) k2 k9 E
  obtain ⟨v, _, ⟨T', L', c', s'⟩, -, X', ⟨Lc, ⟨q1, q2, q3⟩, l', y', z'⟩, st⟩ := X.virtualBack k1 (y := yn) (z := zn) k3 (mvT k2 w1) (mvT k2 w2) (nf _ k2) (mvT k2 w5) (mvT k2 w6) hy (backOf (W := (S.map fun v => v.category).sum) (Q := fun v h' L => Fr n0 L ∧ Old Z n0 h' ∧ Q' v h') (M k11 []) k2 w4 w3 hf hlo) qa qc (g := mkF C.m pc L (argsL.reverse ++ .ref a :: S)) rfl (hsz.trans k5.symm) (Steps.refl _) (argsL := argsL) (rest := S) hlen rfl (o_zero _ _ (Nat.le_refl _) _ _ _ _) (hb k4 hd) (fun _ _ => ⟨rfl, k9, hc, hs⟩)
  dsimp only [Pt.U, Pt.locs, Pt.cells, Pt.slots] at X' l' y' z' st q2 q3
  subst l' y' z'
  obtain ⟨t, o, h1, h2⟩ := r v _ q3 T' _ ⟨X', k1, k2, k3, k4, k5, k6, k7, k8, rfl, Fr.app k10 q1, q2⟩
  rw [← o_push] at h1
  exact ⟨t, o, st.trans h1, h2⟩
theorem o_nf {a0 : Array Value} {Cn : String} {yn zn : MethodName} (w5 : (Jvm.Cond.selects Cn yn zn).before a0 Z = true) (q : yn = zn) : ∀ s' : State, Z.Warmed39 s'.vm → NotFace s' yn := by
  subst q; exact fun s' hz => notFace_of_selects (args := #[]) (mvT hz w5)
theorem o_len {d : String} {ps : List FieldType} {r : Option FieldType} (hd : parseMethodDescriptor d = some ⟨ps, r⟩) {n : Nat} (hl : n = ps.length) : ∀ sig, parseMethodDescriptor d = some sig → n = sig.parameters.length := fun sig h => by
  cases hd.symm.trans h; exact hl
theorem s_callS0 {a0 : Array Value} {index : Nat} {yn : MethodName} {J : OInfo} {Q' : Option Value → Heap → Prop} (M : oCon C.l Z n0 yn J #[] h Q') (w1 : (Jvm.Cond.methodLink I.own index yn).before a0 Z = true) (w2 : (Jvm.Cond.static yn).before a0 Z = true) (w3 : (Jvm.Cond.initialized yn.cls).before a0 Z = true) (w4 : (Jvm.Cond.code yn J.bytes J.ml J.ret).before a0 Z = true) (hy : yn.cls ≠ "java/lang/invoke/MethodHandle" ∧ yn.cls ≠ "java/lang/invoke/VarHandle")
    (hlen : ∀ sig, parseMethodDescriptor yn.desc = some sig → 0 = sig.parameters.length) (hsz : L.size = I.ml) (hd : decode I.bytes pc = .ok (.invokestatic index, 3)) (hq : pc + 3 = pc') (hf : J.R.frames + 1 ≤ I.R.frames) (hlo : (S.map fun v => v.category).sum + (J.ml + 11) + J.R.locals ≤ I.R.locals) (hc : cs + J.R.cells ≤ I.R.cells) (hs : sl + J.R.slots ≤ I.R.slots)
    (r : ∀ v h', Q' v h' → oRun C Z n0 I Q h' (cs + J.R.cells) (sl + J.R.slots) (mkF C.m pc' L (oPush v S))) : oRun C Z n0 I Q h cs sl (mkF C.m pc L (S)) := s_callS (argsL := []) M rfl w1 w2 w3 w4 hy hlen hsz hd hq hf hlo hc hs r
theorem s_callI0 {a0 : Array Value} {index : Nat} {yn : MethodName} {J : OInfo} {Q' : Option Value → Heap → Prop} {a : Addr} (M : oCon C.l Z n0 yn J #[.ref a] h Q') (hr : J.ret = none) (hn : yn.name = "<init>") (w1 : (Jvm.Cond.methodLink I.own index yn).before a0 Z = true) (w2 : (Jvm.Cond.instanceMethod yn).before a0 Z = true) (w3 : (Jvm.Cond.initialized yn.cls).before a0 Z = true) (w4 : (Jvm.Cond.code yn J.bytes J.ml J.ret).before a0 Z = true) (hy : yn.cls ≠ "java/lang/invoke/MethodHandle" ∧ yn.cls ≠ "java/lang/invoke/VarHandle")
    (hlen : ∀ sig, parseMethodDescriptor yn.desc = some sig → 0 = sig.parameters.length) (hsz : L.size = I.ml) (hd : decode I.bytes pc = .ok (.invokespecial index, 3)) (hq : pc + 3 = pc') (hf : J.R.frames + 1 ≤ I.R.frames) (hlo : (S.map fun v => v.category).sum + (J.ml + 11) + J.R.locals ≤ I.R.locals) (hc : cs + J.R.cells ≤ I.R.cells) (hs : sl + J.R.slots ≤ I.R.slots)
    (r : ∀ v h', Q' v h' → oRun C Z n0 I Q h' (cs + J.R.cells) (sl + J.R.slots) (mkF C.m pc' L (oPush v S))) : oRun C Z n0 I Q h cs sl (mkF C.m pc L (.ref a :: S)) := s_callI (argsL := []) M rfl hr hn w1 w2 w3 w4 hy hlen hsz hd hq hf hlo hc hs r
theorem s_callV0 {a0 : Array Value} {index : Nat} {Cn : String} {yn zn : MethodName} {J : OInfo} {Q' : Option Value → Heap → Prop} {a : Addr} (M : oCon C.l Z n0 zn J #[.ref a] h Q') (E : Exa Z h a Cn) (w1 : (Jvm.Cond.methodLink I.own index yn).before a0 Z = true) (w2 : (Jvm.Cond.declares yn).before a0 Z = true) (w5 : (Jvm.Cond.selects Cn yn zn).before a0 Z = true) (w6 : (Jvm.Cond.instanceMethod zn).before a0 Z = true) (nf : ∀ s' : State, Z.Warmed39 s'.vm → NotFace s' yn) (w3 : (Jvm.Cond.initialized zn.cls).before a0 Z = true) (w4 : (Jvm.Cond.code zn J.bytes J.ml J.ret).before a0 Z = true) (hy : yn.cls ≠ "java/lang/invoke/MethodHandle" ∧ yn.cls ≠ "java/lang/invoke/VarHandle")
    (hlen : ∀ sig, parseMethodDescriptor yn.desc = some sig → 0 = sig.parameters.length) (hsz : L.size = I.ml) (hd : decode I.bytes pc = .ok (.invokevirtual index, 3)) (hq : pc + 3 = pc') (hf : J.R.frames + 1 ≤ I.R.frames) (hlo : (S.map fun v => v.category).sum + (J.ml + 11) + J.R.locals ≤ I.R.locals) (hc : cs + J.R.cells ≤ I.R.cells) (hs : sl + J.R.slots ≤ I.R.slots)
    (r : ∀ v h', Q' v h' → oRun C Z n0 I Q h' (cs + J.R.cells) (sl + J.R.slots) (mkF C.m pc' L (oPush v S))) : oRun C Z n0 I Q h cs sl (mkF C.m pc L (.ref a :: S)) := s_callV (argsL := []) M rfl E w1 w2 w5 w6 nf w3 w4 hy hlen hsz hd hq hf hlo hc hs r
theorem s_callS1 {a0 : Array Value} {index : Nat} {yn : MethodName} {J : OInfo} {Q' : Option Value → Heap → Prop} {v0 : Value} (M : oCon C.l Z n0 yn J #[v0] h Q') (w1 : (Jvm.Cond.methodLink I.own index yn).before a0 Z = true) (w2 : (Jvm.Cond.static yn).before a0 Z = true) (w3 : (Jvm.Cond.initialized yn.cls).before a0 Z = true) (w4 : (Jvm.Cond.code yn J.bytes J.ml J.ret).before a0 Z = true) (hy : yn.cls ≠ "java/lang/invoke/MethodHandle" ∧ yn.cls ≠ "java/lang/invoke/VarHandle")
    (hlen : ∀ sig, parseMethodDescriptor yn.desc = some sig → 1 = sig.parameters.length) (hsz : L.size = I.ml) (hd : decode I.bytes pc = .ok (.invokestatic index, 3)) (hq : pc + 3 = pc') (hf : J.R.frames + 1 ≤ I.R.frames) (hlo : (S.map fun v => v.category).sum + (J.ml + 11) + J.R.locals ≤ I.R.locals) (hc : cs + J.R.cells ≤ I.R.cells) (hs : sl + J.R.slots ≤ I.R.slots)
    (r : ∀ v h', Q' v h' → oRun C Z n0 I Q h' (cs + J.R.cells) (sl + J.R.slots) (mkF C.m pc' L (oPush v S))) : oRun C Z n0 I Q h cs sl (mkF C.m pc L (v0 :: S)) := s_callS (argsL := [v0]) M rfl w1 w2 w3 w4 hy hlen hsz hd hq hf hlo hc hs r
theorem s_callI1 {a0 : Array Value} {index : Nat} {yn : MethodName} {J : OInfo} {Q' : Option Value → Heap → Prop} {a : Addr} {v0 : Value} (M : oCon C.l Z n0 yn J #[.ref a, v0] h Q') (hr : J.ret = none) (hn : yn.name = "<init>") (w1 : (Jvm.Cond.methodLink I.own index yn).before a0 Z = true) (w2 : (Jvm.Cond.instanceMethod yn).before a0 Z = true) (w3 : (Jvm.Cond.initialized yn.cls).before a0 Z = true) (w4 : (Jvm.Cond.code yn J.bytes J.ml J.ret).before a0 Z = true) (hy : yn.cls ≠ "java/lang/invoke/MethodHandle" ∧ yn.cls ≠ "java/lang/invoke/VarHandle")
    (hlen : ∀ sig, parseMethodDescriptor yn.desc = some sig → 1 = sig.parameters.length) (hsz : L.size = I.ml) (hd : decode I.bytes pc = .ok (.invokespecial index, 3)) (hq : pc + 3 = pc') (hf : J.R.frames + 1 ≤ I.R.frames) (hlo : (S.map fun v => v.category).sum + (J.ml + 11) + J.R.locals ≤ I.R.locals) (hc : cs + J.R.cells ≤ I.R.cells) (hs : sl + J.R.slots ≤ I.R.slots)
    (r : ∀ v h', Q' v h' → oRun C Z n0 I Q h' (cs + J.R.cells) (sl + J.R.slots) (mkF C.m pc' L (oPush v S))) : oRun C Z n0 I Q h cs sl (mkF C.m pc L (v0 :: .ref a :: S)) := s_callI (argsL := [v0]) M rfl hr hn w1 w2 w3 w4 hy hlen hsz hd hq hf hlo hc hs r
theorem s_callV1 {a0 : Array Value} {index : Nat} {Cn : String} {yn zn : MethodName} {J : OInfo} {Q' : Option Value → Heap → Prop} {a : Addr} {v0 : Value} (M : oCon C.l Z n0 zn J #[.ref a, v0] h Q') (E : Exa Z h a Cn) (w1 : (Jvm.Cond.methodLink I.own index yn).before a0 Z = true) (w2 : (Jvm.Cond.declares yn).before a0 Z = true) (w5 : (Jvm.Cond.selects Cn yn zn).before a0 Z = true) (w6 : (Jvm.Cond.instanceMethod zn).before a0 Z = true) (nf : ∀ s' : State, Z.Warmed39 s'.vm → NotFace s' yn) (w3 : (Jvm.Cond.initialized zn.cls).before a0 Z = true) (w4 : (Jvm.Cond.code zn J.bytes J.ml J.ret).before a0 Z = true) (hy : yn.cls ≠ "java/lang/invoke/MethodHandle" ∧ yn.cls ≠ "java/lang/invoke/VarHandle")
    (hlen : ∀ sig, parseMethodDescriptor yn.desc = some sig → 1 = sig.parameters.length) (hsz : L.size = I.ml) (hd : decode I.bytes pc = .ok (.invokevirtual index, 3)) (hq : pc + 3 = pc') (hf : J.R.frames + 1 ≤ I.R.frames) (hlo : (S.map fun v => v.category).sum + (J.ml + 11) + J.R.locals ≤ I.R.locals) (hc : cs + J.R.cells ≤ I.R.cells) (hs : sl + J.R.slots ≤ I.R.slots)
    (r : ∀ v h', Q' v h' → oRun C Z n0 I Q h' (cs + J.R.cells) (sl + J.R.slots) (mkF C.m pc' L (oPush v S))) : oRun C Z n0 I Q h cs sl (mkF C.m pc L (v0 :: .ref a :: S)) := s_callV (argsL := [v0]) M rfl E w1 w2 w5 w6 nf w3 w4 hy hlen hsz hd hq hf hlo hc hs r
theorem s_callS2 {a0 : Array Value} {index : Nat} {yn : MethodName} {J : OInfo} {Q' : Option Value → Heap → Prop} {v0 v1 : Value} (M : oCon C.l Z n0 yn J #[v0, v1] h Q') (w1 : (Jvm.Cond.methodLink I.own index yn).before a0 Z = true) (w2 : (Jvm.Cond.static yn).before a0 Z = true) (w3 : (Jvm.Cond.initialized yn.cls).before a0 Z = true) (w4 : (Jvm.Cond.code yn J.bytes J.ml J.ret).before a0 Z = true) (hy : yn.cls ≠ "java/lang/invoke/MethodHandle" ∧ yn.cls ≠ "java/lang/invoke/VarHandle")
    (hlen : ∀ sig, parseMethodDescriptor yn.desc = some sig → 2 = sig.parameters.length) (hsz : L.size = I.ml) (hd : decode I.bytes pc = .ok (.invokestatic index, 3)) (hq : pc + 3 = pc') (hf : J.R.frames + 1 ≤ I.R.frames) (hlo : (S.map fun v => v.category).sum + (J.ml + 11) + J.R.locals ≤ I.R.locals) (hc : cs + J.R.cells ≤ I.R.cells) (hs : sl + J.R.slots ≤ I.R.slots)
    (r : ∀ v h', Q' v h' → oRun C Z n0 I Q h' (cs + J.R.cells) (sl + J.R.slots) (mkF C.m pc' L (oPush v S))) : oRun C Z n0 I Q h cs sl (mkF C.m pc L (v1 :: v0 :: S)) := s_callS (argsL := [v0, v1]) M rfl w1 w2 w3 w4 hy hlen hsz hd hq hf hlo hc hs r
theorem s_callI2 {a0 : Array Value} {index : Nat} {yn : MethodName} {J : OInfo} {Q' : Option Value → Heap → Prop} {a : Addr} {v0 v1 : Value} (M : oCon C.l Z n0 yn J #[.ref a, v0, v1] h Q') (hr : J.ret = none) (hn : yn.name = "<init>") (w1 : (Jvm.Cond.methodLink I.own index yn).before a0 Z = true) (w2 : (Jvm.Cond.instanceMethod yn).before a0 Z = true) (w3 : (Jvm.Cond.initialized yn.cls).before a0 Z = true) (w4 : (Jvm.Cond.code yn J.bytes J.ml J.ret).before a0 Z = true) (hy : yn.cls ≠ "java/lang/invoke/MethodHandle" ∧ yn.cls ≠ "java/lang/invoke/VarHandle")
    (hlen : ∀ sig, parseMethodDescriptor yn.desc = some sig → 2 = sig.parameters.length) (hsz : L.size = I.ml) (hd : decode I.bytes pc = .ok (.invokespecial index, 3)) (hq : pc + 3 = pc') (hf : J.R.frames + 1 ≤ I.R.frames) (hlo : (S.map fun v => v.category).sum + (J.ml + 11) + J.R.locals ≤ I.R.locals) (hc : cs + J.R.cells ≤ I.R.cells) (hs : sl + J.R.slots ≤ I.R.slots)
    (r : ∀ v h', Q' v h' → oRun C Z n0 I Q h' (cs + J.R.cells) (sl + J.R.slots) (mkF C.m pc' L (oPush v S))) : oRun C Z n0 I Q h cs sl (mkF C.m pc L (v1 :: v0 :: .ref a :: S)) := s_callI (argsL := [v0, v1]) M rfl hr hn w1 w2 w3 w4 hy hlen hsz hd hq hf hlo hc hs r
theorem s_callV2 {a0 : Array Value} {index : Nat} {Cn : String} {yn zn : MethodName} {J : OInfo} {Q' : Option Value → Heap → Prop} {a : Addr} {v0 v1 : Value} (M : oCon C.l Z n0 zn J #[.ref a, v0, v1] h Q') (E : Exa Z h a Cn) (w1 : (Jvm.Cond.methodLink I.own index yn).before a0 Z = true) (w2 : (Jvm.Cond.declares yn).before a0 Z = true) (w5 : (Jvm.Cond.selects Cn yn zn).before a0 Z = true) (w6 : (Jvm.Cond.instanceMethod zn).before a0 Z = true) (nf : ∀ s' : State, Z.Warmed39 s'.vm → NotFace s' yn) (w3 : (Jvm.Cond.initialized zn.cls).before a0 Z = true) (w4 : (Jvm.Cond.code zn J.bytes J.ml J.ret).before a0 Z = true) (hy : yn.cls ≠ "java/lang/invoke/MethodHandle" ∧ yn.cls ≠ "java/lang/invoke/VarHandle")
    (hlen : ∀ sig, parseMethodDescriptor yn.desc = some sig → 2 = sig.parameters.length) (hsz : L.size = I.ml) (hd : decode I.bytes pc = .ok (.invokevirtual index, 3)) (hq : pc + 3 = pc') (hf : J.R.frames + 1 ≤ I.R.frames) (hlo : (S.map fun v => v.category).sum + (J.ml + 11) + J.R.locals ≤ I.R.locals) (hc : cs + J.R.cells ≤ I.R.cells) (hs : sl + J.R.slots ≤ I.R.slots)
    (r : ∀ v h', Q' v h' → oRun C Z n0 I Q h' (cs + J.R.cells) (sl + J.R.slots) (mkF C.m pc' L (oPush v S))) : oRun C Z n0 I Q h cs sl (mkF C.m pc L (v1 :: v0 :: .ref a :: S)) := s_callV (argsL := [v0, v1]) M rfl E w1 w2 w5 w6 nf w3 w4 hy hlen hsz hd hq hf hlo hc hs r
theorem s_callS3 {a0 : Array Value} {index : Nat} {yn : MethodName} {J : OInfo} {Q' : Option Value → Heap → Prop} {v0 v1 v2 : Value} (M : oCon C.l Z n0 yn J #[v0, v1, v2] h Q') (w1 : (Jvm.Cond.methodLink I.own index yn).before a0 Z = true) (w2 : (Jvm.Cond.static yn).before a0 Z = true) (w3 : (Jvm.Cond.initialized yn.cls).before a0 Z = true) (w4 : (Jvm.Cond.code yn J.bytes J.ml J.ret).before a0 Z = true) (hy : yn.cls ≠ "java/lang/invoke/MethodHandle" ∧ yn.cls ≠ "java/lang/invoke/VarHandle")
    (hlen : ∀ sig, parseMethodDescriptor yn.desc = some sig → 3 = sig.parameters.length) (hsz : L.size = I.ml) (hd : decode I.bytes pc = .ok (.invokestatic index, 3)) (hq : pc + 3 = pc') (hf : J.R.frames + 1 ≤ I.R.frames) (hlo : (S.map fun v => v.category).sum + (J.ml + 11) + J.R.locals ≤ I.R.locals) (hc : cs + J.R.cells ≤ I.R.cells) (hs : sl + J.R.slots ≤ I.R.slots)
    (r : ∀ v h', Q' v h' → oRun C Z n0 I Q h' (cs + J.R.cells) (sl + J.R.slots) (mkF C.m pc' L (oPush v S))) : oRun C Z n0 I Q h cs sl (mkF C.m pc L (v2 :: v1 :: v0 :: S)) := s_callS (argsL := [v0, v1, v2]) M rfl w1 w2 w3 w4 hy hlen hsz hd hq hf hlo hc hs r
theorem s_callI3 {a0 : Array Value} {index : Nat} {yn : MethodName} {J : OInfo} {Q' : Option Value → Heap → Prop} {a : Addr} {v0 v1 v2 : Value} (M : oCon C.l Z n0 yn J #[.ref a, v0, v1, v2] h Q') (hr : J.ret = none) (hn : yn.name = "<init>") (w1 : (Jvm.Cond.methodLink I.own index yn).before a0 Z = true) (w2 : (Jvm.Cond.instanceMethod yn).before a0 Z = true) (w3 : (Jvm.Cond.initialized yn.cls).before a0 Z = true) (w4 : (Jvm.Cond.code yn J.bytes J.ml J.ret).before a0 Z = true) (hy : yn.cls ≠ "java/lang/invoke/MethodHandle" ∧ yn.cls ≠ "java/lang/invoke/VarHandle")
    (hlen : ∀ sig, parseMethodDescriptor yn.desc = some sig → 3 = sig.parameters.length) (hsz : L.size = I.ml) (hd : decode I.bytes pc = .ok (.invokespecial index, 3)) (hq : pc + 3 = pc') (hf : J.R.frames + 1 ≤ I.R.frames) (hlo : (S.map fun v => v.category).sum + (J.ml + 11) + J.R.locals ≤ I.R.locals) (hc : cs + J.R.cells ≤ I.R.cells) (hs : sl + J.R.slots ≤ I.R.slots)
    (r : ∀ v h', Q' v h' → oRun C Z n0 I Q h' (cs + J.R.cells) (sl + J.R.slots) (mkF C.m pc' L (oPush v S))) : oRun C Z n0 I Q h cs sl (mkF C.m pc L (v2 :: v1 :: v0 :: .ref a :: S)) := s_callI (argsL := [v0, v1, v2]) M rfl hr hn w1 w2 w3 w4 hy hlen hsz hd hq hf hlo hc hs r
theorem s_callV3 {a0 : Array Value} {index : Nat} {Cn : String} {yn zn : MethodName} {J : OInfo} {Q' : Option Value → Heap → Prop} {a : Addr} {v0 v1 v2 : Value} (M : oCon C.l Z n0 zn J #[.ref a, v0, v1, v2] h Q') (E : Exa Z h a Cn) (w1 : (Jvm.Cond.methodLink I.own index yn).before a0 Z = true) (w2 : (Jvm.Cond.declares yn).before a0 Z = true) (w5 : (Jvm.Cond.selects Cn yn zn).before a0 Z = true) (w6 : (Jvm.Cond.instanceMethod zn).before a0 Z = true) (nf : ∀ s' : State, Z.Warmed39 s'.vm → NotFace s' yn) (w3 : (Jvm.Cond.initialized zn.cls).before a0 Z = true) (w4 : (Jvm.Cond.code zn J.bytes J.ml J.ret).before a0 Z = true) (hy : yn.cls ≠ "java/lang/invoke/MethodHandle" ∧ yn.cls ≠ "java/lang/invoke/VarHandle")
    (hlen : ∀ sig, parseMethodDescriptor yn.desc = some sig → 3 = sig.parameters.length) (hsz : L.size = I.ml) (hd : decode I.bytes pc = .ok (.invokevirtual index, 3)) (hq : pc + 3 = pc') (hf : J.R.frames + 1 ≤ I.R.frames) (hlo : (S.map fun v => v.category).sum + (J.ml + 11) + J.R.locals ≤ I.R.locals) (hc : cs + J.R.cells ≤ I.R.cells) (hs : sl + J.R.slots ≤ I.R.slots)
    (r : ∀ v h', Q' v h' → oRun C Z n0 I Q h' (cs + J.R.cells) (sl + J.R.slots) (mkF C.m pc' L (oPush v S))) : oRun C Z n0 I Q h cs sl (mkF C.m pc L (v2 :: v1 :: v0 :: .ref a :: S)) := s_callV (argsL := [v0, v1, v2]) M rfl E w1 w2 w5 w6 nf w3 w4 hy hlen hsz hd hq hf hlo hc hs r
theorem s_callS4 {a0 : Array Value} {index : Nat} {yn : MethodName} {J : OInfo} {Q' : Option Value → Heap → Prop} {v0 v1 v2 v3 : Value} (M : oCon C.l Z n0 yn J #[v0, v1, v2, v3] h Q') (w1 : (Jvm.Cond.methodLink I.own index yn).before a0 Z = true) (w2 : (Jvm.Cond.static yn).before a0 Z = true) (w3 : (Jvm.Cond.initialized yn.cls).before a0 Z = true) (w4 : (Jvm.Cond.code yn J.bytes J.ml J.ret).before a0 Z = true) (hy : yn.cls ≠ "java/lang/invoke/MethodHandle" ∧ yn.cls ≠ "java/lang/invoke/VarHandle")
    (hlen : ∀ sig, parseMethodDescriptor yn.desc = some sig → 4 = sig.parameters.length) (hsz : L.size = I.ml) (hd : decode I.bytes pc = .ok (.invokestatic index, 3)) (hq : pc + 3 = pc') (hf : J.R.frames + 1 ≤ I.R.frames) (hlo : (S.map fun v => v.category).sum + (J.ml + 11) + J.R.locals ≤ I.R.locals) (hc : cs + J.R.cells ≤ I.R.cells) (hs : sl + J.R.slots ≤ I.R.slots)
    (r : ∀ v h', Q' v h' → oRun C Z n0 I Q h' (cs + J.R.cells) (sl + J.R.slots) (mkF C.m pc' L (oPush v S))) : oRun C Z n0 I Q h cs sl (mkF C.m pc L (v3 :: v2 :: v1 :: v0 :: S)) := s_callS (argsL := [v0, v1, v2, v3]) M rfl w1 w2 w3 w4 hy hlen hsz hd hq hf hlo hc hs r
theorem s_callI4 {a0 : Array Value} {index : Nat} {yn : MethodName} {J : OInfo} {Q' : Option Value → Heap → Prop} {a : Addr} {v0 v1 v2 v3 : Value} (M : oCon C.l Z n0 yn J #[.ref a, v0, v1, v2, v3] h Q') (hr : J.ret = none) (hn : yn.name = "<init>") (w1 : (Jvm.Cond.methodLink I.own index yn).before a0 Z = true) (w2 : (Jvm.Cond.instanceMethod yn).before a0 Z = true) (w3 : (Jvm.Cond.initialized yn.cls).before a0 Z = true) (w4 : (Jvm.Cond.code yn J.bytes J.ml J.ret).before a0 Z = true) (hy : yn.cls ≠ "java/lang/invoke/MethodHandle" ∧ yn.cls ≠ "java/lang/invoke/VarHandle")
    (hlen : ∀ sig, parseMethodDescriptor yn.desc = some sig → 4 = sig.parameters.length) (hsz : L.size = I.ml) (hd : decode I.bytes pc = .ok (.invokespecial index, 3)) (hq : pc + 3 = pc') (hf : J.R.frames + 1 ≤ I.R.frames) (hlo : (S.map fun v => v.category).sum + (J.ml + 11) + J.R.locals ≤ I.R.locals) (hc : cs + J.R.cells ≤ I.R.cells) (hs : sl + J.R.slots ≤ I.R.slots)
    (r : ∀ v h', Q' v h' → oRun C Z n0 I Q h' (cs + J.R.cells) (sl + J.R.slots) (mkF C.m pc' L (oPush v S))) : oRun C Z n0 I Q h cs sl (mkF C.m pc L (v3 :: v2 :: v1 :: v0 :: .ref a :: S)) := s_callI (argsL := [v0, v1, v2, v3]) M rfl hr hn w1 w2 w3 w4 hy hlen hsz hd hq hf hlo hc hs r
theorem s_callV4 {a0 : Array Value} {index : Nat} {Cn : String} {yn zn : MethodName} {J : OInfo} {Q' : Option Value → Heap → Prop} {a : Addr} {v0 v1 v2 v3 : Value} (M : oCon C.l Z n0 zn J #[.ref a, v0, v1, v2, v3] h Q') (E : Exa Z h a Cn) (w1 : (Jvm.Cond.methodLink I.own index yn).before a0 Z = true) (w2 : (Jvm.Cond.declares yn).before a0 Z = true) (w5 : (Jvm.Cond.selects Cn yn zn).before a0 Z = true) (w6 : (Jvm.Cond.instanceMethod zn).before a0 Z = true) (nf : ∀ s' : State, Z.Warmed39 s'.vm → NotFace s' yn) (w3 : (Jvm.Cond.initialized zn.cls).before a0 Z = true) (w4 : (Jvm.Cond.code zn J.bytes J.ml J.ret).before a0 Z = true) (hy : yn.cls ≠ "java/lang/invoke/MethodHandle" ∧ yn.cls ≠ "java/lang/invoke/VarHandle")
    (hlen : ∀ sig, parseMethodDescriptor yn.desc = some sig → 4 = sig.parameters.length) (hsz : L.size = I.ml) (hd : decode I.bytes pc = .ok (.invokevirtual index, 3)) (hq : pc + 3 = pc') (hf : J.R.frames + 1 ≤ I.R.frames) (hlo : (S.map fun v => v.category).sum + (J.ml + 11) + J.R.locals ≤ I.R.locals) (hc : cs + J.R.cells ≤ I.R.cells) (hs : sl + J.R.slots ≤ I.R.slots)
    (r : ∀ v h', Q' v h' → oRun C Z n0 I Q h' (cs + J.R.cells) (sl + J.R.slots) (mkF C.m pc' L (oPush v S))) : oRun C Z n0 I Q h cs sl (mkF C.m pc L (v3 :: v2 :: v1 :: v0 :: .ref a :: S)) := s_callV (argsL := [v0, v1, v2, v3]) M rfl E w1 w2 w5 w6 nf w3 w4 hy hlen hsz hd hq hf hlo hc hs r
theorem s_callS5 {a0 : Array Value} {index : Nat} {yn : MethodName} {J : OInfo} {Q' : Option Value → Heap → Prop} {v0 v1 v2 v3 v4 : Value} (M : oCon C.l Z n0 yn J #[v0, v1, v2, v3, v4] h Q') (w1 : (Jvm.Cond.methodLink I.own index yn).before a0 Z = true) (w2 : (Jvm.Cond.static yn).before a0 Z = true) (w3 : (Jvm.Cond.initialized yn.cls).before a0 Z = true) (w4 : (Jvm.Cond.code yn J.bytes J.ml J.ret).before a0 Z = true) (hy : yn.cls ≠ "java/lang/invoke/MethodHandle" ∧ yn.cls ≠ "java/lang/invoke/VarHandle")
    (hlen : ∀ sig, parseMethodDescriptor yn.desc = some sig → 5 = sig.parameters.length) (hsz : L.size = I.ml) (hd : decode I.bytes pc = .ok (.invokestatic index, 3)) (hq : pc + 3 = pc') (hf : J.R.frames + 1 ≤ I.R.frames) (hlo : (S.map fun v => v.category).sum + (J.ml + 11) + J.R.locals ≤ I.R.locals) (hc : cs + J.R.cells ≤ I.R.cells) (hs : sl + J.R.slots ≤ I.R.slots)
    (r : ∀ v h', Q' v h' → oRun C Z n0 I Q h' (cs + J.R.cells) (sl + J.R.slots) (mkF C.m pc' L (oPush v S))) : oRun C Z n0 I Q h cs sl (mkF C.m pc L (v4 :: v3 :: v2 :: v1 :: v0 :: S)) := s_callS (argsL := [v0, v1, v2, v3, v4]) M rfl w1 w2 w3 w4 hy hlen hsz hd hq hf hlo hc hs r
theorem s_callI5 {a0 : Array Value} {index : Nat} {yn : MethodName} {J : OInfo} {Q' : Option Value → Heap → Prop} {a : Addr} {v0 v1 v2 v3 v4 : Value} (M : oCon C.l Z n0 yn J #[.ref a, v0, v1, v2, v3, v4] h Q') (hr : J.ret = none) (hn : yn.name = "<init>") (w1 : (Jvm.Cond.methodLink I.own index yn).before a0 Z = true) (w2 : (Jvm.Cond.instanceMethod yn).before a0 Z = true) (w3 : (Jvm.Cond.initialized yn.cls).before a0 Z = true) (w4 : (Jvm.Cond.code yn J.bytes J.ml J.ret).before a0 Z = true) (hy : yn.cls ≠ "java/lang/invoke/MethodHandle" ∧ yn.cls ≠ "java/lang/invoke/VarHandle")
    (hlen : ∀ sig, parseMethodDescriptor yn.desc = some sig → 5 = sig.parameters.length) (hsz : L.size = I.ml) (hd : decode I.bytes pc = .ok (.invokespecial index, 3)) (hq : pc + 3 = pc') (hf : J.R.frames + 1 ≤ I.R.frames) (hlo : (S.map fun v => v.category).sum + (J.ml + 11) + J.R.locals ≤ I.R.locals) (hc : cs + J.R.cells ≤ I.R.cells) (hs : sl + J.R.slots ≤ I.R.slots)
    (r : ∀ v h', Q' v h' → oRun C Z n0 I Q h' (cs + J.R.cells) (sl + J.R.slots) (mkF C.m pc' L (oPush v S))) : oRun C Z n0 I Q h cs sl (mkF C.m pc L (v4 :: v3 :: v2 :: v1 :: v0 :: .ref a :: S)) := s_callI (argsL := [v0, v1, v2, v3, v4]) M rfl hr hn w1 w2 w3 w4 hy hlen hsz hd hq hf hlo hc hs r
theorem s_callV5 {a0 : Array Value} {index : Nat} {Cn : String} {yn zn : MethodName} {J : OInfo} {Q' : Option Value → Heap → Prop} {a : Addr} {v0 v1 v2 v3 v4 : Value} (M : oCon C.l Z n0 zn J #[.ref a, v0, v1, v2, v3, v4] h Q') (E : Exa Z h a Cn) (w1 : (Jvm.Cond.methodLink I.own index yn).before a0 Z = true) (w2 : (Jvm.Cond.declares yn).before a0 Z = true) (w5 : (Jvm.Cond.selects Cn yn zn).before a0 Z = true) (w6 : (Jvm.Cond.instanceMethod zn).before a0 Z = true) (nf : ∀ s' : State, Z.Warmed39 s'.vm → NotFace s' yn) (w3 : (Jvm.Cond.initialized zn.cls).before a0 Z = true) (w4 : (Jvm.Cond.code zn J.bytes J.ml J.ret).before a0 Z = true) (hy : yn.cls ≠ "java/lang/invoke/MethodHandle" ∧ yn.cls ≠ "java/lang/invoke/VarHandle")
    (hlen : ∀ sig, parseMethodDescriptor yn.desc = some sig → 5 = sig.parameters.length) (hsz : L.size = I.ml) (hd : decode I.bytes pc = .ok (.invokevirtual index, 3)) (hq : pc + 3 = pc') (hf : J.R.frames + 1 ≤ I.R.frames) (hlo : (S.map fun v => v.category).sum + (J.ml + 11) + J.R.locals ≤ I.R.locals) (hc : cs + J.R.cells ≤ I.R.cells) (hs : sl + J.R.slots ≤ I.R.slots)
    (r : ∀ v h', Q' v h' → oRun C Z n0 I Q h' (cs + J.R.cells) (sl + J.R.slots) (mkF C.m pc' L (oPush v S))) : oRun C Z n0 I Q h cs sl (mkF C.m pc L (v4 :: v3 :: v2 :: v1 :: v0 :: .ref a :: S)) := s_callV (argsL := [v0, v1, v2, v3, v4]) M rfl E w1 w2 w5 w6 nf w3 w4 hy hlen hsz hd hq hf hlo hc hs r
theorem s_callS6 {a0 : Array Value} {index : Nat} {yn : MethodName} {J : OInfo} {Q' : Option Value → Heap → Prop} {v0 v1 v2 v3 v4 v5 : Value} (M : oCon C.l Z n0 yn J #[v0, v1, v2, v3, v4, v5] h Q') (w1 : (Jvm.Cond.methodLink I.own index yn).before a0 Z = true) (w2 : (Jvm.Cond.static yn).before a0 Z = true) (w3 : (Jvm.Cond.initialized yn.cls).before a0 Z = true) (w4 : (Jvm.Cond.code yn J.bytes J.ml J.ret).before a0 Z = true) (hy : yn.cls ≠ "java/lang/invoke/MethodHandle" ∧ yn.cls ≠ "java/lang/invoke/VarHandle")
    (hlen : ∀ sig, parseMethodDescriptor yn.desc = some sig → 6 = sig.parameters.length) (hsz : L.size = I.ml) (hd : decode I.bytes pc = .ok (.invokestatic index, 3)) (hq : pc + 3 = pc') (hf : J.R.frames + 1 ≤ I.R.frames) (hlo : (S.map fun v => v.category).sum + (J.ml + 11) + J.R.locals ≤ I.R.locals) (hc : cs + J.R.cells ≤ I.R.cells) (hs : sl + J.R.slots ≤ I.R.slots)
    (r : ∀ v h', Q' v h' → oRun C Z n0 I Q h' (cs + J.R.cells) (sl + J.R.slots) (mkF C.m pc' L (oPush v S))) : oRun C Z n0 I Q h cs sl (mkF C.m pc L (v5 :: v4 :: v3 :: v2 :: v1 :: v0 :: S)) := s_callS (argsL := [v0, v1, v2, v3, v4, v5]) M rfl w1 w2 w3 w4 hy hlen hsz hd hq hf hlo hc hs r
theorem s_callI6 {a0 : Array Value} {index : Nat} {yn : MethodName} {J : OInfo} {Q' : Option Value → Heap → Prop} {a : Addr} {v0 v1 v2 v3 v4 v5 : Value} (M : oCon C.l Z n0 yn J #[.ref a, v0, v1, v2, v3, v4, v5] h Q') (hr : J.ret = none) (hn : yn.name = "<init>") (w1 : (Jvm.Cond.methodLink I.own index yn).before a0 Z = true) (w2 : (Jvm.Cond.instanceMethod yn).before a0 Z = true) (w3 : (Jvm.Cond.initialized yn.cls).before a0 Z = true) (w4 : (Jvm.Cond.code yn J.bytes J.ml J.ret).before a0 Z = true) (hy : yn.cls ≠ "java/lang/invoke/MethodHandle" ∧ yn.cls ≠ "java/lang/invoke/VarHandle")
    (hlen : ∀ sig, parseMethodDescriptor yn.desc = some sig → 6 = sig.parameters.length) (hsz : L.size = I.ml) (hd : decode I.bytes pc = .ok (.invokespecial index, 3)) (hq : pc + 3 = pc') (hf : J.R.frames + 1 ≤ I.R.frames) (hlo : (S.map fun v => v.category).sum + (J.ml + 11) + J.R.locals ≤ I.R.locals) (hc : cs + J.R.cells ≤ I.R.cells) (hs : sl + J.R.slots ≤ I.R.slots)
    (r : ∀ v h', Q' v h' → oRun C Z n0 I Q h' (cs + J.R.cells) (sl + J.R.slots) (mkF C.m pc' L (oPush v S))) : oRun C Z n0 I Q h cs sl (mkF C.m pc L (v5 :: v4 :: v3 :: v2 :: v1 :: v0 :: .ref a :: S)) := s_callI (argsL := [v0, v1, v2, v3, v4, v5]) M rfl hr hn w1 w2 w3 w4 hy hlen hsz hd hq hf hlo hc hs r
theorem s_callV6 {a0 : Array Value} {index : Nat} {Cn : String} {yn zn : MethodName} {J : OInfo} {Q' : Option Value → Heap → Prop} {a : Addr} {v0 v1 v2 v3 v4 v5 : Value} (M : oCon C.l Z n0 zn J #[.ref a, v0, v1, v2, v3, v4, v5] h Q') (E : Exa Z h a Cn) (w1 : (Jvm.Cond.methodLink I.own index yn).before a0 Z = true) (w2 : (Jvm.Cond.declares yn).before a0 Z = true) (w5 : (Jvm.Cond.selects Cn yn zn).before a0 Z = true) (w6 : (Jvm.Cond.instanceMethod zn).before a0 Z = true) (nf : ∀ s' : State, Z.Warmed39 s'.vm → NotFace s' yn) (w3 : (Jvm.Cond.initialized zn.cls).before a0 Z = true) (w4 : (Jvm.Cond.code zn J.bytes J.ml J.ret).before a0 Z = true) (hy : yn.cls ≠ "java/lang/invoke/MethodHandle" ∧ yn.cls ≠ "java/lang/invoke/VarHandle")
    (hlen : ∀ sig, parseMethodDescriptor yn.desc = some sig → 6 = sig.parameters.length) (hsz : L.size = I.ml) (hd : decode I.bytes pc = .ok (.invokevirtual index, 3)) (hq : pc + 3 = pc') (hf : J.R.frames + 1 ≤ I.R.frames) (hlo : (S.map fun v => v.category).sum + (J.ml + 11) + J.R.locals ≤ I.R.locals) (hc : cs + J.R.cells ≤ I.R.cells) (hs : sl + J.R.slots ≤ I.R.slots)
    (r : ∀ v h', Q' v h' → oRun C Z n0 I Q h' (cs + J.R.cells) (sl + J.R.slots) (mkF C.m pc' L (oPush v S))) : oRun C Z n0 I Q h cs sl (mkF C.m pc L (v5 :: v4 :: v3 :: v2 :: v1 :: v0 :: .ref a :: S)) := s_callV (argsL := [v0, v1, v2, v3, v4, v5]) M rfl E w1 w2 w5 w6 nf w3 w4 hy hlen hsz hd hq hf hlo hc hs r
-- the ends
theorem s_end {v : Option Value} {g : JFrame} (hc : cs ≤ I.R.cells) (hs : sl ≤ I.R.slots) (hv : I.ret = none → v = none) (hQ : Q v h)
    (st : ∀ {s0 : State} T locs fs, oK C s0 Z n0 I T locs cs sl h → (∀ (f : JFrame) (acts : List Action), f.method = C.m → f.locked = none → f.entered = [] → (doReturn C.e (T.setTop f) acts v).1 = T.setFrames fs) → Steps C.p.tables C.e C.below (T.setTop g) (T.setFrames fs)) : oRun C Z n0 I Q h cs sl g := by
  intro T locs K
  have K0 := K
  obtain ⟨X, k1, k2, k3, k4, k5, k6, k7, k8, k9, k10, k11⟩ := K
  obtain ⟨fs, hr, hrun, hended, hW, hsame⟩ := X.leave (v := v) (fun q => hv (k6.symm.trans q)) k8
  refine ⟨_, _, st T locs fs K0 hr, hrun, hended, v, locs, rfl, ⟨k10, ?_, ?_⟩, ⟨_, rfl⟩, hW, hsame.mono hc hs⟩
  · show Old Z n0 T.heap; rw [k9]; exact k11
  · show Q v T.heap; rw [k9]; exact hQ
theorem s_ret (hr : I.ret = none) (hd : decode I.bytes pc = .ok (.return_, 1)) (hc : cs ≤ I.R.cells) (hs : sl ≤ I.R.slots) (hQ : Q none h) : oRun C Z n0 I Q h cs sl (mkF C.m pc L []) :=
  s_end hc hs (fun _ => rfl) hQ fun T locs fs K hl => K.1.returnOut K.2.1 (K.2.2.2.2.2.2.1.trans hr) (hb K.2.2.2.2.1 hd) hl
theorem s_iret (hr : I.ret = some .int) (hd : decode I.bytes pc = .ok (.ireturn, 1)) (hc : cs ≤ I.R.cells) (hs : sl ≤ I.R.slots) (hQ : Q (some (.int x)) h) : oRun C Z n0 I Q h cs sl (mkF C.m pc L (.int x :: S)) :=
  s_end hc hs (fun q => by rw [hr] at q; cases q) hQ fun T locs fs K hl => retI K.1 K.2.1 (K.2.2.2.2.2.2.1.trans hr) (hb K.2.2.2.2.1 hd) hl
theorem s_nret {t : FieldType} (hr : I.ret = some t) (ht : t = .boolean ∨ t = .byte ∨ t = .char ∨ t = .short) (hd : decode I.bytes pc = .ok (.ireturn, 1)) (hc : cs ≤ I.R.cells) (hs : sl ≤ I.R.slots) (hQ : Q (some (.int (nar t x))) h) : oRun C Z n0 I Q h cs sl (mkF C.m pc L (.int x :: S)) :=
  s_end hc hs (fun q => by rw [hr] at q; cases q) hQ fun T locs fs K hl => retN K.1 K.2.1 (K.2.2.2.2.2.2.1.trans hr) ht (hb K.2.2.2.2.1 hd) hl
theorem s_aret {t : FieldType} {v : Value} (hr : I.ret = some t) (ht : t.isReference = true) (hv : v.isRef = true) (hd : decode I.bytes pc = .ok (.areturn, 1)) (hc : cs ≤ I.R.cells) (hs : sl ≤ I.R.slots) (hQ : Q (some v) h) : oRun C Z n0 I Q h cs sl (mkF C.m pc L (v :: S)) :=
  s_end hc hs (fun q => by rw [hr] at q; cases q) hQ fun T locs fs K hl => by
    have X := K.1
    have hx := K.2.1
    have hd' := hb K.2.2.2.2.1 hd
    have hret := K.2.2.2.2.2.2.1.trans hr
    have hm' : T.vm.method? C.m = some C.meth := X.method'
    show Steps C.p.tables C.e C.below (T.setTop { method := C.m, pc := pc, locals := L, stack := v :: S, locked := none }) _
    jvm_step X.here [X.here.top, hx, hd', hm', hret, hv, ht]
    first | (intro acts; rw [hl _ acts rfl rfl rfl]) | rw [hl _ _ rfl rfl rfl]
    exact Steps.refl _
end OwnCore
-- OWN: the plain part on sorted lists of ints
abbrev Srt (l : List Int32) : Prop := l.Pairwise (· < ·)
theorem o_lt {x y : Int32} : x < y ↔ x.toInt < y.toInt := Int32.lt_iff_toInt_lt
theorem o_eq {x y : Int32} : x = y ↔ x.toInt = y.toInt := ⟨fun h => by rw [h], Int32.toInt_inj.mp⟩
def ins (k : Int32) : List Int32 → List Int32
  | [] => [k]
  | x :: l => if x < k then x :: ins k l else if x = k then x :: l else k :: x :: l
theorem mem_ins {k x : Int32} {l : List Int32} : x ∈ ins k l ↔ x = k ∨ x ∈ l := by
  induction l with
  | nil => simp [ins]
  | cons y l ih =>
    simp only [ins]
    split
    · simp only [List.mem_cons, ih]
      constructor
      · rintro (h | h | h) <;> simp [h]
      · rintro (h | h | h) <;> simp [h]
    · split
      · rename_i h; subst h; simp only [List.mem_cons]
        constructor
        · rintro (h | h) <;> simp [h]
        · rintro (h | h | h) <;> simp [h]
      · simp only [List.mem_cons]
theorem srt_ins {k : Int32} {l : List Int32} (h : Srt l) : Srt (ins k l) := by
  induction l with
  | nil => simp [ins, Srt]
  | cons y l ih =>
    obtain ⟨h1, h2⟩ := List.pairwise_cons.mp h
    simp only [ins]
    split
    · rename_i hy
      refine List.pairwise_cons.mpr ⟨fun z hz => ?_, ih h2⟩
      rcases mem_ins.mp hz with rfl | hz
      · exact hy
      · exact h1 z hz
    · split
      · exact h
      · rename_i h3 h4
        have hk : k < y := by rw [o_lt] at *; rw [o_eq] at h4; omega
        refine List.pairwise_cons.mpr ⟨fun z hz => ?_, h⟩
        rcases List.mem_cons.mp hz with rfl | hz
        · exact hk
        · have := h1 z hz; rw [o_lt] at *; omega
theorem ins_len {k : Int32} {l : List Int32} : (ins k l).length ≤ l.length + 1 := by
  induction l with
  | nil => simp [ins]
  | cons y l ih => simp only [ins]; split <;> (try split) <;> simp only [List.length_cons] <;> omega
theorem ins_split {k : Int32} {A B : List Int32} (hA : ∀ x ∈ A, x < k) (hB : ∀ x ∈ B, k < x) : ins k (A ++ B) = A ++ k :: B := by
  induction A with
  | nil =>
    cases B with
    | nil => rfl
    | cons b B =>
      have h := hB b (List.mem_cons_self ..)
      have h1 : ¬ b < k := by rw [o_lt] at *; omega
      have h2 : ¬ b = k := by rw [o_lt] at h; rw [o_eq]; omega
      simp [ins, h1, h2]
  | cons a A ih =>
    have h := hA a (List.mem_cons_self ..)
    simp only [List.cons_append, ins, if_pos h]
    rw [ih fun x hx => hA x (List.mem_cons_of_mem _ hx)]
theorem ins_there {k : Int32} {l : List Int32} (hs : Srt l) (h : k ∈ l) : ins k l = l := by
  induction l with
  | nil => cases h
  | cons y l ih =>
    obtain ⟨h1, h2⟩ := List.pairwise_cons.mp hs
    simp only [ins]
    rcases List.mem_cons.mp h with rfl | h
    · have : ¬ k < k := by rw [o_lt]; omega
      simp [this]
    · rw [if_pos (h1 k h), ih h2 h]
theorem count_ins {k q : Int32} {l : List Int32} (hs : Srt l) : (ins k l).countP (fun x => ! decide (q < x)) = l.countP (fun x => ! decide (q < x)) + if k ∈ l then 0 else if q < k then 0 else 1 := by
  by_cases h : k ∈ l
  · rw [ins_there hs h, if_pos h]; rfl
  · rw [if_neg h]
    induction l with
    | nil => simp only [ins, List.countP_cons, List.countP_nil]; by_cases hq : q < k <;> simp [hq]
    | cons y l ih =>
      obtain ⟨h1, h2⟩ := List.pairwise_cons.mp hs
      have hy : k ≠ y := fun e => h (e ▸ List.mem_cons_self ..)
      have hl : k ∉ l := fun e => h (List.mem_cons_of_mem _ e)
      simp only [ins]
      split
      · rw [List.countP_cons, List.countP_cons, ih h2 hl]; omega
      · rw [if_neg (Ne.symm hy), List.countP_cons (a := k)]; by_cases hq : q < k <;> simp [hq]
theorem srt_split {xs : List Int32} {m : Nat} {v : Int32} (hs : Srt xs) (hm : xs[m]? = some v) : (∀ x ∈ xs.take m, x < v) ∧ (∀ x ∈ xs.drop (m + 1), v < x) ∧ xs.take (m + 1) = xs.take m ++ [v] ∧ xs.drop m = v :: xs.drop (m + 1) := by
  obtain ⟨hlt, rfl⟩ := List.getElem?_eq_some_iff.mp hm
  have e1 : xs.drop m = xs[m] :: xs.drop (m + 1) := List.drop_eq_getElem_cons hlt
  have e2 : xs.take (m + 1) = xs.take m ++ [xs[m]] := by rw [List.take_add_one, hm]; rfl
  have hs' : Srt (xs.take m ++ xs.drop m) := by rw [List.take_append_drop]; exact hs
  obtain ⟨q1, q2, q3⟩ := List.pairwise_append.mp hs'
  rw [e1] at q2 q3
  exact ⟨fun x hx => q3 x hx _ (List.mem_cons_self ..), fun x hx => (List.pairwise_cons.mp q2).1 x hx, e2, e1⟩
def BS (xs : List Int32) (k r : Int32) : Prop := (∃ i, i < xs.length ∧ xs[i]? = some k ∧ r = Int32.ofNat i) ∨ (∃ i, i ≤ xs.length ∧ (∀ x ∈ xs.take i, x < k) ∧ (∀ x ∈ xs.drop i, k < x) ∧ r = -(Int32.ofNat i + 1))
theorem n_neg (x : Int32) : -(-(x + 1)) - 1 = x := by rw [Int32.neg_neg, Int32.add_sub_cancel]
theorem n_neg' (x : Int32) : -x - 1 = -(x + 1) := by rw [Int32.neg_add, Int32.sub_eq_add_neg]
theorem n_isneg {i : Nat} (hi : i ≤ 4) : -(Int32.ofNat i + 1) < 0 := (by decide : ∀ i : Fin 5, -(Int32.ofNat i.1 + 1) < 0) ⟨i, by omega⟩
theorem n_nn {i : Nat} (hi : i ≤ 4) : ¬ Int32.ofNat i < 0 := (by decide : ∀ i : Fin 5, ¬ Int32.ofNat i.1 < 0) ⟨i, by omega⟩
theorem n_cl {i : Nat} (hi : i ≤ 4) : (Int32.ofNat i).toNatClampNeg = i := (by decide : ∀ i : Fin 5, (Int32.ofNat i.1).toNatClampNeg = i.1) ⟨i, by omega⟩
theorem n_succ (i : Nat) : Int32.ofNat i + 1 = Int32.ofNat (i + 1) := Jvm.Free.XT.succ32 i
theorem n_sub {a b : Nat} (h : b ≤ a) : Int32.ofNat a - Int32.ofNat b = Int32.ofNat (a - b) := Jvm.Free.XT.sub32n h
theorem n_pred {a : Nat} (h : 0 < a) : Int32.ofNat a - 1 = Int32.ofNat (a - 1) := Jvm.Free.XT.pred32 h
theorem n_lt {a b : Nat} (hb : b ≤ 4) (h : a < b) : Int32.ofNat a < Int32.ofNat b := Jvm.Free.XT.lt32 (by omega) h
theorem n_lt4 {a : Nat} (h : a < 4) : Int32.ofNat a < (4 : Int32) := n_lt (b := 4) (by omega) h
theorem n_mid {lo hi : Nat} (h : lo < hi) (h4 : hi ≤ 4) : XT.ushr (Int32.ofNat lo + (Int32.ofNat hi - 1)) 1 = Int32.ofNat ((lo + hi - 1) / 2) := (by decide : ∀ lo hi : Fin 5, lo.1 < hi.1 → XT.ushr (Int32.ofNat lo.1 + (Int32.ofNat hi.1 - 1)) 1 = Int32.ofNat ((lo.1 + hi.1 - 1) / 2)) ⟨lo, by omega⟩ ⟨hi, by omega⟩ h
theorem n_done {lo hi : Nat} (h1 : lo ≤ hi) (h4 : hi ≤ 4) (h : Int32.ofNat hi - 1 < Int32.ofNat lo) : lo = hi := by
  have := (by decide : ∀ lo hi : Fin 5, lo.1 ≤ hi.1 → Int32.ofNat hi.1 - 1 < Int32.ofNat lo.1 → lo.1 = hi.1) ⟨lo, by omega⟩ ⟨hi, by omega⟩ h1 h
  exact this
theorem n_more {lo hi : Nat} (h1 : lo ≤ hi) (h4 : hi ≤ 4) (h : ¬ Int32.ofNat hi - 1 < Int32.ofNat lo) : lo < hi := by
  have := (by decide : ∀ lo hi : Fin 5, lo.1 ≤ hi.1 → ¬ Int32.ofNat hi.1 - 1 < Int32.ofNat lo.1 → lo.1 < hi.1) ⟨lo, by omega⟩ ⟨hi, by omega⟩ h1 h
  exact this
theorem getD_xs {xs junk : List Int32} {m : Nat} {v : Int32} (hm : xs[m]? = some v) : ((xs ++ junk).map Value.int).getD m (.int 0) = .int v := by
  obtain ⟨hlt, -⟩ := List.getElem?_eq_some_iff.mp hm
  rw [List.getD_eq_getElem?_getD, List.getElem?_map, List.getElem?_append_left hlt, hm]; rfl
theorem pnR : plainName "com/example/auscult/auscult/RowSet" = true := by first | (simp [plainName, overriddenIn]; done) | decide +kernel
theorem pnA : plainName "java/util/Arrays" = true := by first | (simp [plainName, overriddenIn]; done) | decide +kernel
def RS (Z : State) (h : Heap) (a r : Addr) (k : ClassId) (xs : List Int32) : Prop := Fld Z h a "com/example/auscult/auscult/RowSet" "rows" "[I" (.ref r) ∧ Fld Z h a "com/example/auscult/auscult/RowSet" "size" "I" (.int (Int32.ofNat xs.length)) ∧ Exa Z h a "com/example/auscult/auscult/RowSet" ∧ a ≠ r ∧ ∃ junk, (xs ++ junk).length = 4 ∧ Arv Z h r k .int 4 ((xs ++ junk).map .int) (.int 0)
def irc : OInfo := ("java/util/Arrays", jdk_65_method_30_code, 3, none, "rangeCheck", ({ frames := 0, cells := 0, slots := 0, locals := 0 } : Room))
theorem efrc (x0 : Int32) (x1 : Int32) (x2 : Int32) (m : MethodId) : entryFrame m #[(.int x0), (.int x1), (.int x2)] 3 = mkF m 0 #[.val (.int x0), .val (.int x1), .val (.int x2)] [] := by first | (simp [entryFrame, mkF, argsToLocals, Value.category]; done) | rfl
theorem pdrc : parseMethodDescriptor "(III)V" = some ⟨[.int, .int, .int], none⟩ := by decide +kernel
theorem drc_0 : decode jdk_65_method_30_code 0 = .ok (.iload_n 1, 1) := by decide +kernel
theorem drc_1 : decode jdk_65_method_30_code 1 = .ok (.iload_n 2, 1) := by decide +kernel
theorem drc_2 : decode jdk_65_method_30_code 2 = .ok (.if_icmp .le 44, 3) := by decide +kernel
theorem drc_46 : decode jdk_65_method_30_code 46 = .ok (.iload_n 1, 1) := by decide +kernel
theorem drc_47 : decode jdk_65_method_30_code 47 = .ok (.ifCond .ge 12, 3) := by decide +kernel
theorem drc_59 : decode jdk_65_method_30_code 59 = .ok (.iload_n 2, 1) := by decide +kernel
theorem drc_60 : decode jdk_65_method_30_code 60 = .ok (.iload_n 0, 1) := by decide +kernel
theorem drc_61 : decode jdk_65_method_30_code 61 = .ok (.if_icmp .le 12, 3) := by decide +kernel
theorem drc_73 : decode jdk_65_method_30_code 73 = .ok (.return_, 1) := by decide +kernel
set_option maxRecDepth 65536 in
set_option maxHeartbeats 4000000 in
theorem rmrc (l : Launch) (Z : State) (a0 : Array Value) (hw : ∀ d ∈ tables_1, d.before a0 Z = true) (n0 : Nat) (n : Int32) (t : Int32) (h0 : Heap) (ht : ¬ t < 0) (hn : ¬ n < t) : oCon l Z n0 (⟨"java/util/Arrays", "rangeCheck", "(III)V"⟩ : MethodName) irc #[.int n, .int 0, .int t] h0 (fun v h => v = none ∧ h = h0) := by
  refine oCon.mk (plainFor_of_name pnA) rfl rfl (efrc n 0 t) fun C hC => ?_
  refine s_iloadN (pc' := 1) drc_0 rfl rfl ?_
  refine s_iloadN (pc' := 2) drc_1 rfl rfl ?_
  refine s_icmp (pc' := 5) (pc'' := 46) drc_2 rfl (by decide) rfl (fun hc2 => ?_) (fun hc2 => ?_)
  · replace hc2 := b_le hc2
    refine s_iloadN (pc' := 47) drc_46 rfl rfl ?_
    refine s_if (pc' := 50) (pc'' := 59) drc_47 rfl (by decide) rfl (fun hc47 => ?_) (fun hc47 => ?_)
    · replace hc47 := b_ge hc47
      refine s_iloadN (pc' := 60) drc_59 rfl rfl ?_
      refine s_iloadN (pc' := 61) drc_60 rfl rfl ?_
      refine s_icmp (pc' := 64) (pc'' := 73) drc_61 rfl (by decide) rfl (fun hc61 => ?_) (fun hc61 => ?_)
      · replace hc61 := b_le hc61
        exact s_ret rfl drc_73 (by decide) (by decide) ⟨rfl, rfl⟩
      · replace hc61 := b_leF hc61
        exact absurd hc61 (by assumption)
    · replace hc47 := b_geF hc47
      exact absurd hc47 (by decide)
  · replace hc2 := b_leF hc2
    exact absurd hc2 (by assumption)
def ib0 : OInfo := ("java/util/Arrays", jdk_65_method_59_code, 8, (some .int), "binarySearch0", ({ frames := 0, cells := 0, slots := 0, locals := 0 } : Room))
theorem efb0 (x0 : Addr) (x1 : Int32) (x2 : Int32) (x3 : Int32) (m : MethodId) : entryFrame m #[(.ref x0), (.int x1), (.int x2), (.int x3)] 8 = mkF m 0 #[.val (.ref x0), .val (.int x1), .val (.int x2), .val (.int x3), .unset, .unset, .unset, .unset] [] := by first | (simp [entryFrame, mkF, argsToLocals, Value.category]; done) | rfl
theorem pdb0 : parseMethodDescriptor "([IIII)I" = some ⟨[(.array .int), .int, .int, .int], some .int⟩ := by decide +kernel
theorem db0_0 : decode jdk_65_method_59_code 0 = .ok (.iload_n 1, 1) := by decide +kernel
theorem db0_1 : decode jdk_65_method_59_code 1 = .ok (.istore 4, 2) := by decide +kernel
theorem db0_3 : decode jdk_65_method_59_code 3 = .ok (.iload_n 2, 1) := by decide +kernel
theorem db0_4 : decode jdk_65_method_59_code 4 = .ok (.iconst 1, 1) := by decide +kernel
theorem db0_5 : decode jdk_65_method_59_code 5 = .ok (.isub, 1) := by decide +kernel
theorem db0_6 : decode jdk_65_method_59_code 6 = .ok (.istore 5, 2) := by decide +kernel
theorem db0_8 : decode jdk_65_method_59_code 8 = .ok (.iload 4, 2) := by decide +kernel
theorem db0_10 : decode jdk_65_method_59_code 10 = .ok (.iload 5, 2) := by decide +kernel
theorem db0_12 : decode jdk_65_method_59_code 12 = .ok (.if_icmp .gt 54, 3) := by decide +kernel
theorem db0_15 : decode jdk_65_method_59_code 15 = .ok (.iload 4, 2) := by decide +kernel
theorem db0_17 : decode jdk_65_method_59_code 17 = .ok (.iload 5, 2) := by decide +kernel
theorem db0_19 : decode jdk_65_method_59_code 19 = .ok (.iadd, 1) := by decide +kernel
theorem db0_20 : decode jdk_65_method_59_code 20 = .ok (.iconst 1, 1) := by decide +kernel
theorem db0_21 : decode jdk_65_method_59_code 21 = .ok (.iushr, 1) := by decide +kernel
theorem db0_22 : decode jdk_65_method_59_code 22 = .ok (.istore 6, 2) := by decide +kernel
theorem db0_24 : decode jdk_65_method_59_code 24 = .ok (.aload_n 0, 1) := by decide +kernel
theorem db0_25 : decode jdk_65_method_59_code 25 = .ok (.iload 6, 2) := by decide +kernel
theorem db0_27 : decode jdk_65_method_59_code 27 = .ok (.iaload, 1) := by decide +kernel
theorem db0_28 : decode jdk_65_method_59_code 28 = .ok (.istore 7, 2) := by decide +kernel
theorem db0_30 : decode jdk_65_method_59_code 30 = .ok (.iload 7, 2) := by decide +kernel
theorem db0_32 : decode jdk_65_method_59_code 32 = .ok (.iload_n 3, 1) := by decide +kernel
theorem db0_33 : decode jdk_65_method_59_code 33 = .ok (.if_icmp .ge 12, 3) := by decide +kernel
theorem db0_36 : decode jdk_65_method_59_code 36 = .ok (.iload 6, 2) := by decide +kernel
theorem db0_38 : decode jdk_65_method_59_code 38 = .ok (.iconst 1, 1) := by decide +kernel
theorem db0_39 : decode jdk_65_method_59_code 39 = .ok (.iadd, 1) := by decide +kernel
theorem db0_40 : decode jdk_65_method_59_code 40 = .ok (.istore 4, 2) := by decide +kernel
theorem db0_42 : decode jdk_65_method_59_code 42 = .ok (.goto 21, 3) := by decide +kernel
theorem db0_45 : decode jdk_65_method_59_code 45 = .ok (.iload 7, 2) := by decide +kernel
theorem db0_47 : decode jdk_65_method_59_code 47 = .ok (.iload_n 3, 1) := by decide +kernel
theorem db0_48 : decode jdk_65_method_59_code 48 = .ok (.if_icmp .le 12, 3) := by decide +kernel
theorem db0_51 : decode jdk_65_method_59_code 51 = .ok (.iload 6, 2) := by decide +kernel
theorem db0_53 : decode jdk_65_method_59_code 53 = .ok (.iconst 1, 1) := by decide +kernel
theorem db0_54 : decode jdk_65_method_59_code 54 = .ok (.isub, 1) := by decide +kernel
theorem db0_55 : decode jdk_65_method_59_code 55 = .ok (.istore 5, 2) := by decide +kernel
theorem db0_57 : decode jdk_65_method_59_code 57 = .ok (.goto 6, 3) := by decide +kernel
theorem db0_60 : decode jdk_65_method_59_code 60 = .ok (.iload 6, 2) := by decide +kernel
theorem db0_62 : decode jdk_65_method_59_code 62 = .ok (.ireturn, 1) := by decide +kernel
theorem db0_63 : decode jdk_65_method_59_code 63 = .ok (.goto (-55), 3) := by decide +kernel
theorem db0_66 : decode jdk_65_method_59_code 66 = .ok (.iload 4, 2) := by decide +kernel
theorem db0_68 : decode jdk_65_method_59_code 68 = .ok (.iconst 1, 1) := by decide +kernel
theorem db0_69 : decode jdk_65_method_59_code 69 = .ok (.iadd, 1) := by decide +kernel
theorem db0_70 : decode jdk_65_method_59_code 70 = .ok (.ineg, 1) := by decide +kernel
theorem db0_71 : decode jdk_65_method_59_code 71 = .ok (.ireturn, 1) := by decide +kernel
set_option maxRecDepth 65536 in
set_option maxHeartbeats 4000000 in
theorem bsloop {C : OCtx} {Z : State} {n0 : Nat} {Q : Option Value → Heap → Prop} {h : Heap} {a : Addr} {k : ClassId} {xs junk : List Int32} {key : Int32} (hs : Srt xs) (len4 : xs.length ≤ 4) (A : Arv Z h a k .int 4 ((xs ++ junk).map .int) (.int 0))
    (fin : ∀ r, BS xs key r → Q (some (.int r)) h) (d : Nat) : ∀ (lo hi : Nat) (s6 s7 : Slot), hi - lo = d → lo ≤ hi → hi ≤ xs.length → (∀ x ∈ xs.take lo, x < key) → (∀ x ∈ xs.drop hi, key < x) → One s6 → One s7 →
    oRun C Z n0 ib0 Q h 0 0 (mkF C.m 8 #[.val (.ref a), .val (.int 0), .val (.int (Int32.ofNat xs.length)), .val (.int key), .val (.int (Int32.ofNat lo)), .val (.int (Int32.ofNat hi - 1)), s6, s7] []) := by
  induction d using Nat.strongRecOn with
  | _ d ih =>
  intro lo hi s6 s7 hd hle hhi hA hB hs6 hs7
  subst hd
  refine s_iload (pc' := 10) db0_8 rfl rfl ?_
  refine s_iload (pc' := 12) db0_10 rfl rfl ?_
  refine s_icmp (pc' := 15) (pc'' := 66) db0_12 rfl (by decide) rfl (fun hc12 => ?_) (fun hc12 => ?_)
  · replace hc12 := b_gt hc12
    obtain rfl := n_done hle (Nat.le_trans hhi len4) hc12
    refine s_iload (pc' := 68) db0_66 rfl rfl ?_
    refine s_iconst (x := (1 : Int32)) (pc' := 69) db0_68 rfl rfl ?_
    refine s_iadd (pc' := 70) db0_69 rfl ?_
    refine s_ineg (pc' := 71) db0_70 rfl ?_
    exact s_iret rfl db0_71 (by decide) (by decide) (fin _ (Or.inr ⟨lo, hhi, hA, hB, rfl⟩))
  · replace hc12 := b_gtF hc12
    have hlt := n_more hle (Nat.le_trans hhi len4) hc12
    obtain ⟨m, hm⟩ : ∃ m, m = (lo + hi - 1) / 2 := ⟨_, rfl⟩
    have hm1 : lo ≤ m ∧ m < hi := by omega
    obtain ⟨w, hv⟩ : ∃ w, xs[m]? = some w := ⟨xs[m]'(by omega), List.getElem?_eq_getElem (by omega)⟩
    obtain ⟨q1, q2, q3, q4⟩ := srt_split hs hv
    refine s_iload (pc' := 17) db0_15 rfl rfl ?_
    refine s_iload (pc' := 19) db0_17 rfl rfl ?_
    refine s_iadd (pc' := 20) db0_19 rfl ?_
    refine s_iconst (x := (1 : Int32)) (pc' := 21) db0_20 rfl rfl ?_
    refine s_iushr (pc' := 22) db0_21 rfl ?_
    rw [n_mid hlt (Nat.le_trans hhi len4), ← hm]
    refine s_istore (pc' := 24) db0_22 rfl (o_st rfl (by first | exact One.u | exact One.val rfl | assumption) rfl) ?_
    dsimp only [List.set_cons_succ, List.set_cons_zero]
    refine s_aloadN (pc' := 25) db0_24 rfl rfl rfl ?_
    refine s_iload (pc' := 27) db0_25 rfl rfl ?_
    refine s_iaload A (n_nn (by omega)) (n_lt4 (by omega)) (v := .int w) (by rw [n_cl (by omega)]; exact getD_xs hv) (pc' := 28) db0_27 rfl ?_
    refine s_istore (pc' := 30) db0_28 rfl (o_st rfl (by first | exact One.u | exact One.val rfl | assumption) rfl) ?_
    dsimp only [List.set_cons_succ, List.set_cons_zero]
    refine s_iload (pc' := 32) db0_30 rfl rfl ?_
    refine s_iloadN (pc' := 33) db0_32 rfl rfl ?_
    refine s_icmp (pc' := 36) (pc'' := 45) db0_33 rfl (by decide) rfl (fun hc33 => ?_) (fun hc33 => ?_)
    · replace hc33 := b_ge hc33
      refine s_iload (pc' := 47) db0_45 rfl rfl ?_
      refine s_iloadN (pc' := 48) db0_47 rfl rfl ?_
      refine s_icmp (pc' := 51) (pc'' := 60) db0_48 rfl (by decide) rfl (fun hc48 => ?_) (fun hc48 => ?_)
      · replace hc48 := b_le hc48
        refine s_iload (pc' := 62) db0_60 rfl rfl ?_
        exact s_iret rfl db0_62 (by decide) (by decide) (fin _ (Or.inl ⟨m, by omega, by rw [hv, o_eq.mpr (show w.toInt = key.toInt by rw [o_lt] at hc33 hc48; omega)], rfl⟩))
      · replace hc48 := b_leF hc48
        refine s_iload (pc' := 53) db0_51 rfl rfl ?_
        refine s_iconst (x := (1 : Int32)) (pc' := 54) db0_53 rfl rfl ?_
        refine s_isub (pc' := 55) db0_54 rfl ?_
        refine s_istore (pc' := 57) db0_55 rfl (o_st rfl (by first | exact One.u | exact One.val rfl | assumption) rfl) ?_
        dsimp only [List.set_cons_succ, List.set_cons_zero]
        refine s_goto (pc' := 63) db0_57 (by decide) rfl ?_
        refine s_goto (pc' := 8) db0_63 (by decide) rfl ?_
        first
        | exact ih (hi - (m + 1)) (by omega) (m + 1) hi _ _ rfl (by omega) hhi (fun x hx => by rw [q3] at hx; rcases List.mem_append.mp hx with hx | hx; (have := q1 x hx; rw [o_lt] at *; omega); (cases List.mem_singleton.mp hx; exact hc33)) hB (One.val rfl) (One.val rfl)
        | exact ih (m - lo) (by omega) lo m _ _ rfl (by omega) (by omega) hA (fun x hx => by rw [q4] at hx; rcases List.mem_cons.mp hx with rfl | hx; exact hc48; (have := q2 x hx; rw [o_lt] at *; omega)) (One.val rfl) (One.val rfl)
    · replace hc33 := b_geF hc33
      refine s_iload (pc' := 38) db0_36 rfl rfl ?_
      refine s_iconst (x := (1 : Int32)) (pc' := 39) db0_38 rfl rfl ?_
      refine s_iadd (pc' := 40) db0_39 rfl ?_
      rw [n_succ]
      refine s_istore (pc' := 42) db0_40 rfl (o_st rfl (by first | exact One.u | exact One.val rfl | assumption) rfl) ?_
      dsimp only [List.set_cons_succ, List.set_cons_zero]
      refine s_goto (pc' := 63) db0_42 (by decide) rfl ?_
      refine s_goto (pc' := 8) db0_63 (by decide) rfl ?_
      first
      | exact ih (hi - (m + 1)) (by omega) (m + 1) hi _ _ rfl (by omega) hhi (fun x hx => by rw [q3] at hx; rcases List.mem_append.mp hx with hx | hx; (have := q1 x hx; rw [o_lt] at *; omega); (cases List.mem_singleton.mp hx; exact hc33)) hB (One.val rfl) (One.val rfl)
      | exact ih (m - lo) (by omega) lo m _ _ rfl (by omega) (by omega) hA (fun x hx => by rw [q4] at hx; rcases List.mem_cons.mp hx with rfl | hx; exact hc48; (have := q2 x hx; rw [o_lt] at *; omega)) (One.val rfl) (One.val rfl)
set_option maxRecDepth 65536 in
set_option maxHeartbeats 4000000 in
theorem rmb0 (l : Launch) (Z : State) (a0 : Array Value) (hw : ∀ d ∈ tables_1, d.before a0 Z = true) (n0 : Nat) (a : Addr) (k : ClassId) (xs junk : List Int32) (key : Int32) (h0 : Heap) (hs : Srt xs) (len4 : xs.length ≤ 4) (A : Arv Z h0 a k .int 4 ((xs ++ junk).map .int) (.int 0)) : oCon l Z n0 (⟨"java/util/Arrays", "binarySearch0", "([IIII)I"⟩ : MethodName) ib0 #[.ref a, .int 0, .int (Int32.ofNat xs.length), .int key] h0 (fun v h => ∃ r, v = some (.int r) ∧ h = h0 ∧ BS xs key r) := by
  refine oCon.mk (plainFor_of_name pnA) rfl rfl (efb0 a 0 _ key) fun C hC => ?_
  refine s_iloadN (pc' := 1) db0_0 rfl rfl ?_
  refine s_istore (pc' := 3) db0_1 rfl (o_st rfl (by first | exact One.u | exact One.val rfl | assumption) rfl) ?_
  dsimp only [List.set_cons_succ, List.set_cons_zero]
  refine s_iloadN (pc' := 4) db0_3 rfl rfl ?_
  refine s_iconst (x := (1 : Int32)) (pc' := 5) db0_4 rfl rfl ?_
  refine s_isub (pc' := 6) db0_5 rfl ?_
  refine s_istore (pc' := 8) db0_6 rfl (o_st rfl (by first | exact One.u | exact One.val rfl | assumption) rfl) ?_
  dsimp only [List.set_cons_succ, List.set_cons_zero]
  exact bsloop hs len4 A (fun r hr => ⟨r, rfl, rfl, hr⟩) xs.length 0 xs.length _ _ rfl (Nat.zero_le _) (Nat.le_refl _) (by simp) (by simp) One.u One.u
def ibs : OInfo := ("java/util/Arrays", jdk_65_method_58_code, 4, (some .int), "binarySearch", ({ frames := 1, cells := 0, slots := 0, locals := 19 } : Room))
theorem efbs (x0 : Addr) (x1 : Int32) (x2 : Int32) (x3 : Int32) (m : MethodId) : entryFrame m #[(.ref x0), (.int x1), (.int x2), (.int x3)] 4 = mkF m 0 #[.val (.ref x0), .val (.int x1), .val (.int x2), .val (.int x3)] [] := by first | (simp [entryFrame, mkF, argsToLocals, Value.category]; done) | rfl
theorem pdbs : parseMethodDescriptor "([IIII)I" = some ⟨[(.array .int), .int, .int, .int], some .int⟩ := by decide +kernel
theorem n_le4 {i : Nat} (hi : i ≤ 4) : ¬ (4 : Int32) < Int32.ofNat i := (by decide : ∀ i : Fin 5, ¬ (4 : Int32) < Int32.ofNat i.1) ⟨i, by omega⟩
theorem dbs_0 : decode jdk_65_method_58_code 0 = .ok (.aload_n 0, 1) := by decide +kernel
theorem dbs_1 : decode jdk_65_method_58_code 1 = .ok (.arraylength, 1) := by decide +kernel
theorem dbs_2 : decode jdk_65_method_58_code 2 = .ok (.iload_n 1, 1) := by decide +kernel
theorem dbs_3 : decode jdk_65_method_58_code 3 = .ok (.iload_n 2, 1) := by decide +kernel
theorem dbs_4 : decode jdk_65_method_58_code 4 = .ok (.invokestatic 13, 3) := by decide +kernel
theorem dbs_7 : decode jdk_65_method_58_code 7 = .ok (.aload_n 0, 1) := by decide +kernel
theorem dbs_8 : decode jdk_65_method_58_code 8 = .ok (.iload_n 1, 1) := by decide +kernel
theorem dbs_9 : decode jdk_65_method_58_code 9 = .ok (.iload_n 2, 1) := by decide +kernel
theorem dbs_10 : decode jdk_65_method_58_code 10 = .ok (.iload_n 3, 1) := by decide +kernel
theorem dbs_11 : decode jdk_65_method_58_code 11 = .ok (.invokestatic 209, 3) := by decide +kernel
theorem dbs_14 : decode jdk_65_method_58_code 14 = .ok (.ireturn, 1) := by decide +kernel
set_option maxRecDepth 65536 in
set_option maxHeartbeats 4000000 in
theorem rmbs (l : Launch) (Z : State) (a0 : Array Value) (hw : ∀ d ∈ tables_1, d.before a0 Z = true) (n0 : Nat) (a : Addr) (k : ClassId) (xs junk : List Int32) (key : Int32) (h0 : Heap) (hs : Srt xs) (len4 : xs.length ≤ 4) (A : Arv Z h0 a k .int 4 ((xs ++ junk).map .int) (.int 0)) : oCon l Z n0 (⟨"java/util/Arrays", "binarySearch", "([IIII)I"⟩ : MethodName) ibs #[.ref a, .int 0, .int (Int32.ofNat xs.length), .int key] h0 (fun v h => ∃ r, v = some (.int r) ∧ h = h0 ∧ BS xs key r) := by
  refine oCon.mk (plainFor_of_name pnA) rfl rfl (efbs a 0 _ key) fun C hC => ?_
  refine s_aloadN (pc' := 1) dbs_0 rfl rfl rfl ?_
  refine s_alen A (pc' := 2) dbs_1 rfl ?_
  refine s_iloadN (pc' := 3) dbs_2 rfl rfl ?_
  refine s_iloadN (pc' := 4) dbs_3 rfl rfl ?_
  refine s_callS3 (rmrc C.l Z a0 hw n0 4 (Int32.ofNat xs.length) h0 (n_nn len4) (n_le4 len4)) (hw _ (List.mem_of_getElem? (i := 26) rfl)) (hw _ (List.mem_of_getElem? (i := 27) rfl)) (hw _ (List.mem_of_getElem? (i := 24) rfl)) (hw _ (List.mem_of_getElem? (i := 28) rfl)) (by decide) (o_len pdrc rfl) rfl (pc' := 7) dbs_4 rfl (Nat.le_of_ble_eq_true rfl) (Nat.le_of_ble_eq_true rfl) (Nat.le_of_ble_eq_true rfl) (Nat.le_of_ble_eq_true rfl) (fun v4 h4 hQ4 => ?_)
  obtain ⟨rfl, rfl⟩ := hQ4
  dsimp only [oPush]
  refine s_aloadN (pc' := 8) dbs_7 rfl rfl rfl ?_
  refine s_iloadN (pc' := 9) dbs_8 rfl rfl ?_
  refine s_iloadN (pc' := 10) dbs_9 rfl rfl ?_
  refine s_iloadN (pc' := 11) dbs_10 rfl rfl ?_
  refine s_callS4 (rmb0 C.l Z a0 hw n0 a k xs junk key _ hs len4 A) (hw _ (List.mem_of_getElem? (i := 29) rfl)) (hw _ (List.mem_of_getElem? (i := 30) rfl)) (hw _ (List.mem_of_getElem? (i := 24) rfl)) (hw _ (List.mem_of_getElem? (i := 31) rfl)) (by decide) (o_len pdb0 rfl) rfl (pc' := 14) dbs_11 rfl (Nat.le_of_ble_eq_true rfl) (Nat.le_of_ble_eq_true rfl) (Nat.le_of_ble_eq_true rfl) (Nat.le_of_ble_eq_true rfl) (fun v11 h11 hQ11 => ?_)
  obtain ⟨r, rfl, rfl, hr⟩ := hQ11
  dsimp only [oPush]
  exact s_iret rfl dbs_14 (by decide) (by decide) ⟨r, rfl, rfl, hr⟩
def ir2 : OInfo := ("com/example/auscult/auscult/RowSet", prog_33_method_2_code, 3, none, "<init>", ({ frames := 1, cells := 0, slots := 0, locals := 12 } : Room))
theorem efr2 (x0 : Addr) (x1 : Addr) (x2 : Int32) (m : MethodId) : entryFrame m #[(.ref x0), (.ref x1), (.int x2)] 3 = mkF m 0 #[.val (.ref x0), .val (.ref x1), .val (.int x2)] [] := by first | (simp [entryFrame, mkF, argsToLocals, Value.category]; done) | rfl
theorem pdr2 : parseMethodDescriptor "([II)V" = some ⟨[(.array .int), .int], none⟩ := by decide +kernel
theorem dr2_0 : decode prog_33_method_2_code 0 = .ok (.aload_n 0, 1) := by decide +kernel
theorem dr2_1 : decode prog_33_method_2_code 1 = .ok (.invokespecial 7, 3) := by decide +kernel
theorem dr2_4 : decode prog_33_method_2_code 4 = .ok (.aload_n 0, 1) := by decide +kernel
theorem dr2_5 : decode prog_33_method_2_code 5 = .ok (.aload_n 1, 1) := by decide +kernel
theorem dr2_6 : decode prog_33_method_2_code 6 = .ok (.putfield 12, 3) := by decide +kernel
theorem dr2_9 : decode prog_33_method_2_code 9 = .ok (.aload_n 0, 1) := by decide +kernel
theorem dr2_10 : decode prog_33_method_2_code 10 = .ok (.iload_n 2, 1) := by decide +kernel
theorem dr2_11 : decode prog_33_method_2_code 11 = .ok (.putfield 16, 3) := by decide +kernel
theorem dr2_14 : decode prog_33_method_2_code 14 = .ok (.return_, 1) := by decide +kernel
set_option maxRecDepth 65536 in
set_option maxHeartbeats 4000000 in
theorem rmr2 (l : Launch) (Z : State) (a0 : Array Value) (hw : ∀ d ∈ tables_1, d.before a0 Z = true) (n0 : Nat) (a r : Addr) (z : Int32) (h0 : Heap) (E : Exa Z h0 a "com/example/auscult/auscult/RowSet") (F1 : Fld Z h0 a "com/example/auscult/auscult/RowSet" "rows" "[I" .null) (F2 : Fld Z h0 a "com/example/auscult/auscult/RowSet" "size" "I" (.int 0)) (ga : n0 ≤ a) : oCon l Z n0 (⟨"com/example/auscult/auscult/RowSet", "<init>", "([II)V"⟩ : MethodName) ir2 #[.ref a, .ref r, .int z] h0 (fun v h => v = none ∧ Fld Z h a "com/example/auscult/auscult/RowSet" "rows" "[I" (.ref r) ∧ Fld Z h a "com/example/auscult/auscult/RowSet" "size" "I" (.int z) ∧ Exa Z h a "com/example/auscult/auscult/RowSet" ∧ Keep h0 h [a]) := by
  refine oCon.mk (plainFor_of_name pnR) rfl rfl (efr2 a r z) fun C hC => ?_
  refine s_aloadN (pc' := 1) dr2_0 rfl rfl rfl ?_
  refine s_initO (hw _ (List.mem_of_getElem? (i := 10) rfl)) (hw _ (List.mem_of_getElem? (i := 11) rfl)) (hw _ (List.mem_of_getElem? (i := 12) rfl)) rfl (pc' := 4) dr2_1 rfl (Nat.le_of_ble_eq_true rfl) (Nat.le_of_ble_eq_true rfl) ?_
  refine s_aloadN (pc' := 5) dr2_4 rfl rfl rfl ?_
  refine s_aloadN (pc' := 6) dr2_5 rfl rfl rfl ?_
  refine s_putF F1 E ga (host := "") (Or.inl (hw _ (List.mem_of_getElem? (i := 13) rfl))) Via.refl (Or.inl (hw _ (List.mem_of_getElem? (i := 14) rfl))) (hw _ (List.mem_of_getElem? (i := 1) rfl)) (ty := (.array .int)) (by decide) rfl rfl (pc' := 9) dr2_6 rfl (fun h6 W6 => ?_)
  refine s_aloadN (pc' := 10) dr2_9 rfl rfl rfl ?_
  refine s_iloadN (pc' := 11) dr2_10 rfl rfl ?_
  refine s_putF (F2.other W6 (Or.inr (slot_ne (Or.inl (hw _ (List.mem_of_getElem? (i := 16) rfl))) (Or.inl (hw _ (List.mem_of_getElem? (i := 14) rfl))) (by decide) (t := .int) (t' := .array .int) (by decide) (by decide)))) (E.wr W6) ga (host := "") (Or.inl (hw _ (List.mem_of_getElem? (i := 15) rfl))) Via.refl (Or.inl (hw _ (List.mem_of_getElem? (i := 16) rfl))) (hw _ (List.mem_of_getElem? (i := 1) rfl)) (ty := .int) (by decide) rfl rfl (pc' := 14) dr2_11 rfl (fun h11 W11 => ?_)
  refine s_ret rfl dr2_14 (by decide) (by decide) ⟨rfl, ?_, ?_, ?_, ?_⟩
  · exact (F1.same W6).other W11 (Or.inr (slot_ne (Or.inl (hw _ (List.mem_of_getElem? (i := 14) rfl))) (Or.inl (hw _ (List.mem_of_getElem? (i := 16) rfl))) (by decide) (t := .array .int) (t' := .int) (by decide) (by decide)))
  · exact (F2.other W6 (Or.inr (slot_ne (Or.inl (hw _ (List.mem_of_getElem? (i := 16) rfl))) (Or.inl (hw _ (List.mem_of_getElem? (i := 14) rfl))) (by decide) (t := .int) (t' := .array .int) (by decide) (by decide)))).same W11
  · exact (E.wr W6).wr W11
  · exact (Keep.of_wr W6).wr W11 (Or.inl (List.mem_cons_self ..))
def ir1 : OInfo := ("com/example/auscult/auscult/RowSet", prog_33_method_1_code, 1, none, "<init>", ({ frames := 2, cells := 1, slots := 4, locals := 26 } : Room))
theorem efr1 (x0 : Addr) (m : MethodId) : entryFrame m #[(.ref x0)] 1 = mkF m 0 #[.val (.ref x0)] [] := by first | (simp [entryFrame, mkF, argsToLocals, Value.category]; done) | rfl
theorem pdr1 : parseMethodDescriptor "()V" = some ⟨[], none⟩ := by decide +kernel
theorem dr1_0 : decode prog_33_method_1_code 0 = .ok (.aload_n 0, 1) := by decide +kernel
theorem dr1_1 : decode prog_33_method_1_code 1 = .ok (.iconst 4, 1) := by decide +kernel
theorem dr1_2 : decode prog_33_method_1_code 2 = .ok (.newarray .int, 2) := by decide +kernel
theorem dr1_4 : decode prog_33_method_1_code 4 = .ok (.iconst 0, 1) := by decide +kernel
theorem dr1_5 : decode prog_33_method_1_code 5 = .ok (.invokespecial 1, 3) := by decide +kernel
theorem dr1_8 : decode prog_33_method_1_code 8 = .ok (.return_, 1) := by decide +kernel
set_option maxRecDepth 65536 in
set_option maxHeartbeats 4000000 in
theorem rmr1 (l : Launch) (Z : State) (a0 : Array Value) (hw : ∀ d ∈ tables_1, d.before a0 Z = true) (n0 : Nat) (a : Addr) (h0 : Heap) (E : Exa Z h0 a "com/example/auscult/auscult/RowSet") (F1 : Fld Z h0 a "com/example/auscult/auscult/RowSet" "rows" "[I" .null) (F2 : Fld Z h0 a "com/example/auscult/auscult/RowSet" "size" "I" (.int 0)) (ga : n0 ≤ a) : oCon l Z n0 (⟨"com/example/auscult/auscult/RowSet", "<init>", "()V"⟩ : MethodName) ir1 #[.ref a] h0 (fun v h => v = none ∧ ∃ r k, n0 ≤ r ∧ RS Z h a r k []) := by
  refine oCon.mk (plainFor_of_name pnR) rfl rfl (efr1 a) fun C hC => ?_
  refine s_aloadN (pc' := 1) dr1_0 rfl rfl rfl ?_
  refine s_iconst (x := (4 : Int32)) (pc' := 2) dr1_1 rfl rfl ?_
  refine s_newA 4 (hw _ (List.mem_of_getElem? (i := 6) rfl)) (pc' := 4) dr1_2 rfl (by decide) (by decide) (by decide) (Nat.le_of_ble_eq_true rfl) (Nat.le_of_ble_eq_true rfl) (fun h2 b2 k2 g2 nb2 E2 A2 => ?_)
  refine s_iconst (x := (0 : Int32)) (pc' := 5) dr1_4 rfl rfl ?_
  refine s_callI2 (rmr2 C.l Z a0 hw n0 a b2 0 _ (E.ext E2) (F1.ext E2) (F2.ext E2) ga) rfl rfl (hw _ (List.mem_of_getElem? (i := 7) rfl)) (hw _ (List.mem_of_getElem? (i := 8) rfl)) (hw _ (List.mem_of_getElem? (i := 2) rfl)) (hw _ (List.mem_of_getElem? (i := 9) rfl)) (by decide) (o_len pdr2 rfl) rfl (pc' := 8) dr1_5 rfl (Nat.le_of_ble_eq_true rfl) (Nat.le_of_ble_eq_true rfl) (Nat.le_of_ble_eq_true rfl) (Nat.le_of_ble_eq_true rfl) (fun v5 h5 hQ5 => ?_)
  obtain ⟨rfl, q1, q2, q3, q4⟩ := hQ5
  dsimp only [oPush]
  have hne : a ≠ b2 := o_fresh E.lt g2
  exact s_ret rfl dr1_8 (by decide) (by decide) ⟨rfl, b2, k2, nb2, q1, q2, q3, hne, [0, 0, 0, 0], rfl, (o_padTo A2 4).keep q4 (ninS hne.symm nin0)⟩
def iad : OInfo := ("com/example/auscult/auscult/RowSet", prog_33_method_7_code, 4, none, "add", ({ frames := 2, cells := 0, slots := 0, locals := 40 } : Room))
theorem efad (x0 : Addr) (x1 : Int32) (m : MethodId) : entryFrame m #[(.ref x0), (.int x1)] 4 = mkF m 0 #[.val (.ref x0), .val (.int x1), .unset, .unset] [] := by first | (simp [entryFrame, mkF, argsToLocals, Value.category]; done) | rfl
theorem pdad : parseMethodDescriptor "(I)V" = some ⟨[.int], none⟩ := by decide +kernel
theorem n_ne4 {i : Nat} (h : i ≤ 3) : ¬ Int32.ofNat i = (4 : Int32) := (by decide : ∀ i : Fin 4, ¬ Int32.ofNat i.1 = (4 : Int32)) ⟨i, by omega⟩
theorem n_zero {i : Nat} (h : i ≤ 4) (q : Int32.ofNat i = 0) : i = 0 := (by decide : ∀ i : Fin 5, Int32.ofNat i.1 = (0 : Int32) → i.1 = 0) ⟨i, by omega⟩ q
theorem n_pos {i : Nat} (q : ¬ Int32.ofNat i = 0) : 0 < i := by rcases i with _ | i; exact absurd rfl q; omega
theorem ins_arr {xs junk : List Int32} {key : Int32} {i : Nat} (hi : i ≤ xs.length) (h3 : xs.length ≤ 3) (hj : (xs ++ junk).length = 4) :
    (((xs ++ junk).map Value.int).take (i + 1) ++ ((List.range (xs.length - i)).map fun q => ((xs ++ junk).map Value.int).getD (i + q) (.int 0)) ++ ((xs ++ junk).map Value.int).drop (i + 1 + (xs.length - i))).set i (.int key) = ((xs.take i ++ key :: xs.drop i) ++ junk.tail).map Value.int := by
  match xs, h3 with
  | [], _ => match junk, hj with | [_, _, _, _], _ => match i, hi with | 0, _ => rfl
  | [_], _ => match junk, hj with | [_, _, _], _ => match i, hi with | 0, _ => rfl | 1, _ => rfl
  | [_, _], _ => match junk, hj with | [_, _], _ => match i, hi with | 0, _ => rfl | 1, _ => rfl | 2, _ => rfl
  | [_, _, _], _ => match junk, hj with | [_], _ => match i, hi with | 0, _ => rfl | 1, _ => rfl | 2, _ => rfl | 3, _ => rfl
theorem dad_0 : decode prog_33_method_7_code 0 = .ok (.aload_n 0, 1) := by decide +kernel
theorem dad_1 : decode prog_33_method_7_code 1 = .ok (.getfield 16, 3) := by decide +kernel
theorem dad_4 : decode prog_33_method_7_code 4 = .ok (.ifCond .eq 18, 3) := by decide +kernel
theorem dad_7 : decode prog_33_method_7_code 7 = .ok (.aload_n 0, 1) := by decide +kernel
theorem dad_8 : decode prog_33_method_7_code 8 = .ok (.getfield 12, 3) := by decide +kernel
theorem dad_11 : decode prog_33_method_7_code 11 = .ok (.aload_n 0, 1) := by decide +kernel
theorem dad_12 : decode prog_33_method_7_code 12 = .ok (.getfield 16, 3) := by decide +kernel
theorem dad_15 : decode prog_33_method_7_code 15 = .ok (.iconst 1, 1) := by decide +kernel
theorem dad_16 : decode prog_33_method_7_code 16 = .ok (.isub, 1) := by decide +kernel
theorem dad_17 : decode prog_33_method_7_code 17 = .ok (.iaload, 1) := by decide +kernel
theorem dad_18 : decode prog_33_method_7_code 18 = .ok (.iload_n 1, 1) := by decide +kernel
theorem dad_19 : decode prog_33_method_7_code 19 = .ok (.if_icmp .ge 13, 3) := by decide +kernel
theorem dad_22 : decode prog_33_method_7_code 22 = .ok (.aload_n 0, 1) := by decide +kernel
theorem dad_23 : decode prog_33_method_7_code 23 = .ok (.getfield 16, 3) := by decide +kernel
theorem dad_26 : decode prog_33_method_7_code 26 = .ok (.ineg, 1) := by decide +kernel
theorem dad_27 : decode prog_33_method_7_code 27 = .ok (.iconst 1, 1) := by decide +kernel
theorem dad_28 : decode prog_33_method_7_code 28 = .ok (.isub, 1) := by decide +kernel
theorem dad_29 : decode prog_33_method_7_code 29 = .ok (.goto 16, 3) := by decide +kernel
theorem dad_32 : decode prog_33_method_7_code 32 = .ok (.aload_n 0, 1) := by decide +kernel
theorem dad_33 : decode prog_33_method_7_code 33 = .ok (.getfield 12, 3) := by decide +kernel
theorem dad_36 : decode prog_33_method_7_code 36 = .ok (.iconst 0, 1) := by decide +kernel
theorem dad_37 : decode prog_33_method_7_code 37 = .ok (.aload_n 0, 1) := by decide +kernel
theorem dad_38 : decode prog_33_method_7_code 38 = .ok (.getfield 16, 3) := by decide +kernel
theorem dad_41 : decode prog_33_method_7_code 41 = .ok (.iload_n 1, 1) := by decide +kernel
theorem dad_42 : decode prog_33_method_7_code 42 = .ok (.invokestatic 20, 3) := by decide +kernel
theorem dad_45 : decode prog_33_method_7_code 45 = .ok (.istore_n 2, 1) := by decide +kernel
theorem dad_46 : decode prog_33_method_7_code 46 = .ok (.iload_n 2, 1) := by decide +kernel
theorem dad_47 : decode prog_33_method_7_code 47 = .ok (.ifCond .lt 4, 3) := by decide +kernel
theorem dad_50 : decode prog_33_method_7_code 50 = .ok (.return_, 1) := by decide +kernel
theorem dad_51 : decode prog_33_method_7_code 51 = .ok (.iload_n 2, 1) := by decide +kernel
theorem dad_52 : decode prog_33_method_7_code 52 = .ok (.ineg, 1) := by decide +kernel
theorem dad_53 : decode prog_33_method_7_code 53 = .ok (.iconst 1, 1) := by decide +kernel
theorem dad_54 : decode prog_33_method_7_code 54 = .ok (.isub, 1) := by decide +kernel
theorem dad_55 : decode prog_33_method_7_code 55 = .ok (.istore_n 3, 1) := by decide +kernel
theorem dad_56 : decode prog_33_method_7_code 56 = .ok (.aload_n 0, 1) := by decide +kernel
theorem dad_57 : decode prog_33_method_7_code 57 = .ok (.getfield 16, 3) := by decide +kernel
theorem dad_60 : decode prog_33_method_7_code 60 = .ok (.aload_n 0, 1) := by decide +kernel
theorem dad_61 : decode prog_33_method_7_code 61 = .ok (.getfield 12, 3) := by decide +kernel
theorem dad_64 : decode prog_33_method_7_code 64 = .ok (.arraylength, 1) := by decide +kernel
theorem dad_65 : decode prog_33_method_7_code 65 = .ok (.if_icmp .ne 24, 3) := by decide +kernel
theorem dad_89 : decode prog_33_method_7_code 89 = .ok (.aload_n 0, 1) := by decide +kernel
theorem dad_90 : decode prog_33_method_7_code 90 = .ok (.getfield 12, 3) := by decide +kernel
theorem dad_93 : decode prog_33_method_7_code 93 = .ok (.iload_n 3, 1) := by decide +kernel
theorem dad_94 : decode prog_33_method_7_code 94 = .ok (.aload_n 0, 1) := by decide +kernel
theorem dad_95 : decode prog_33_method_7_code 95 = .ok (.getfield 12, 3) := by decide +kernel
theorem dad_98 : decode prog_33_method_7_code 98 = .ok (.iload_n 3, 1) := by decide +kernel
theorem dad_99 : decode prog_33_method_7_code 99 = .ok (.iconst 1, 1) := by decide +kernel
theorem dad_100 : decode prog_33_method_7_code 100 = .ok (.iadd, 1) := by decide +kernel
theorem dad_101 : decode prog_33_method_7_code 101 = .ok (.aload_n 0, 1) := by decide +kernel
theorem dad_102 : decode prog_33_method_7_code 102 = .ok (.getfield 16, 3) := by decide +kernel
theorem dad_105 : decode prog_33_method_7_code 105 = .ok (.iload_n 3, 1) := by decide +kernel
theorem dad_106 : decode prog_33_method_7_code 106 = .ok (.isub, 1) := by decide +kernel
theorem dad_107 : decode prog_33_method_7_code 107 = .ok (.invokestatic 36, 3) := by decide +kernel
theorem dad_110 : decode prog_33_method_7_code 110 = .ok (.aload_n 0, 1) := by decide +kernel
theorem dad_111 : decode prog_33_method_7_code 111 = .ok (.getfield 12, 3) := by decide +kernel
theorem dad_114 : decode prog_33_method_7_code 114 = .ok (.iload_n 3, 1) := by decide +kernel
theorem dad_115 : decode prog_33_method_7_code 115 = .ok (.iload_n 1, 1) := by decide +kernel
theorem dad_116 : decode prog_33_method_7_code 116 = .ok (.iastore, 1) := by decide +kernel
theorem dad_117 : decode prog_33_method_7_code 117 = .ok (.aload_n 0, 1) := by decide +kernel
theorem dad_118 : decode prog_33_method_7_code 118 = .ok (.dup, 1) := by decide +kernel
theorem dad_119 : decode prog_33_method_7_code 119 = .ok (.getfield 16, 3) := by decide +kernel
theorem dad_122 : decode prog_33_method_7_code 122 = .ok (.iconst 1, 1) := by decide +kernel
theorem dad_123 : decode prog_33_method_7_code 123 = .ok (.iadd, 1) := by decide +kernel
theorem dad_124 : decode prog_33_method_7_code 124 = .ok (.putfield 16, 3) := by decide +kernel
theorem dad_127 : decode prog_33_method_7_code 127 = .ok (.return_, 1) := by decide +kernel
set_option maxRecDepth 65536 in
set_option maxHeartbeats 4000000 in
theorem ad45 (l : Launch) (Z : State) (a0 : Array Value) (hw : ∀ d ∈ tables_1, d.before a0 Z = true) (n0 : Nat) (a r : Addr) (k : ClassId) (xs : List Int32) (key : Int32) (h0 : Heap) (ga : n0 ≤ a) (gr : n0 ≤ r) (H : RS Z h0 a r k xs) (hs : Srt xs) (hi3 : xs.length ≤ 3) {C : OCtx} {Q : Option Value → Heap → Prop} {z : Int32} (hr : BS xs key z) (fin : ∀ h, RS Z h a r k (ins key xs) → Q none h) {s3 : Slot} (hs3 : One s3 := by exact One.u) {s2 : Slot} (hs2 : One s2 := by exact One.u) : oRun C Z n0 iad Q h0 0 0 (mkF C.m 45 #[.val (.ref a), .val (.int key), s2, s3] [.int z]) := by
  obtain ⟨F1, F2, E, hne, junk, hj, A⟩ := H
  refine s_istoreN (kn := 2) rfl (pc' := 46) dad_45 rfl (o_st rfl (by first | exact One.u | exact One.val rfl | assumption) rfl) ?_
  dsimp only [List.set_cons_succ, List.set_cons_zero]
  refine s_iloadN (pc' := 47) dad_46 rfl rfl ?_
  refine s_if (pc' := 50) (pc'' := 51) dad_47 rfl (by decide) rfl (fun hc47 => ?_) (fun hc47 => ?_)
  · replace hc47 := b_lt hc47
    obtain ⟨i, hi, hx, rfl⟩ | ⟨i, hi, hA, hB, rfl⟩ := hr
    · exact absurd hc47 (n_nn (by omega))
    refine s_iloadN (pc' := 52) dad_51 rfl rfl ?_
    refine s_ineg (pc' := 53) dad_52 rfl ?_
    refine s_iconst (x := (1 : Int32)) (pc' := 54) dad_53 rfl rfl ?_
    refine s_isub (pc' := 55) dad_54 rfl ?_
    rw [n_neg]
    refine s_istoreN (kn := 3) rfl (pc' := 56) dad_55 rfl (o_st rfl (by first | exact One.u | exact One.val rfl | assumption) rfl) ?_
    dsimp only [List.set_cons_succ, List.set_cons_zero]
    refine s_aloadN (pc' := 57) dad_56 rfl rfl rfl ?_
    refine s_getF F2 (host := "") (Or.inl (hw _ (List.mem_of_getElem? (i := 15) rfl))) Via.refl (pc' := 60) dad_57 rfl ?_
    refine s_aloadN (pc' := 61) dad_60 rfl rfl rfl ?_
    refine s_getF F1 (host := "") (Or.inl (hw _ (List.mem_of_getElem? (i := 13) rfl))) Via.refl (pc' := 64) dad_61 rfl ?_
    refine s_alen A (pc' := 65) dad_64 rfl ?_
    refine s_icmp (pc' := 68) (pc'' := 89) dad_65 rfl (by decide) rfl (fun hc65 => ?_) (fun hc65 => ?_)
    · replace hc65 := b_ne hc65
      refine s_aloadN (pc' := 90) dad_89 rfl rfl rfl ?_
      refine s_getF F1 (host := "") (Or.inl (hw _ (List.mem_of_getElem? (i := 13) rfl))) Via.refl (pc' := 93) dad_90 rfl ?_
      refine s_iloadN (pc' := 94) dad_93 rfl rfl ?_
      refine s_aloadN (pc' := 95) dad_94 rfl rfl rfl ?_
      refine s_getF F1 (host := "") (Or.inl (hw _ (List.mem_of_getElem? (i := 13) rfl))) Via.refl (pc' := 98) dad_95 rfl ?_
      refine s_iloadN (pc' := 99) dad_98 rfl rfl ?_
      refine s_iconst (x := (1 : Int32)) (pc' := 100) dad_99 rfl rfl ?_
      refine s_iadd (pc' := 101) dad_100 rfl ?_
      refine s_aloadN (pc' := 102) dad_101 rfl rfl rfl ?_
      refine s_getF F2 (host := "") (Or.inl (hw _ (List.mem_of_getElem? (i := 15) rfl))) Via.refl (pc' := 105) dad_102 rfl ?_
      refine s_iloadN (pc' := 106) dad_105 rfl rfl ?_
      refine s_isub (pc' := 107) dad_106 rfl ?_
      rw [n_sub hi, n_succ]
      refine s_copy A A rfl gr (hw _ (List.mem_of_getElem? (i := 42) rfl)) (hw _ (List.mem_of_getElem? (i := 45) rfl)) (hw _ (List.mem_of_getElem? (i := 43) rfl)) (hw _ (List.mem_of_getElem? (i := 44) rfl)) (n_nn (by omega)) (n_nn (by omega)) (n_nn (by omega)) (by rw [n_cl (by omega), n_cl (by omega)]; show _ ≤ 4; omega) (by rw [n_cl (by omega), n_cl (by omega)]; show _ ≤ 4; omega) (by rw [n_cl (by omega), n_cl (by omega), List.length_map, hj]; omega) rfl (pc' := 110) dad_107 rfl (Nat.le_of_ble_eq_true rfl) (Nat.le_of_ble_eq_true rfl) (fun h107 K107 A107 => ?_)
      rw [n_cl (by omega), n_cl (by omega), n_cl (by omega)] at A107
      replace F1 := F1.keep K107 (ninS hne nin0)
      replace F2 := F2.keep K107 (ninS hne nin0)
      replace E := E.keep K107
      refine s_aloadN (pc' := 111) dad_110 rfl rfl rfl ?_
      refine s_getF F1 (host := "") (Or.inl (hw _ (List.mem_of_getElem? (i := 13) rfl))) Via.refl (pc' := 114) dad_111 rfl ?_
      refine s_iloadN (pc' := 115) dad_114 rfl rfl ?_
      refine s_iloadN (pc' := 116) dad_115 rfl rfl ?_
      refine s_iastore A107 gr (n_nn (by omega)) (n_lt4 (by omega)) i (n_cl (by omega)) (by simp only [List.length_append, List.length_take, List.length_map, List.length_range, List.length_drop] at hj ⊢; omega) (pc' := 117) dad_116 rfl (fun h116 W116 A116 => ?_)
      replace F1 := F1.other W116 (Or.inl hne)
      replace F2 := F2.other W116 (Or.inl hne)
      replace E := E.wr W116
      refine s_aloadN (pc' := 118) dad_117 rfl rfl rfl ?_
      refine s_dup (pc' := 119) dad_118 rfl rfl ?_
      refine s_getF F2 (host := "") (Or.inl (hw _ (List.mem_of_getElem? (i := 15) rfl))) Via.refl (pc' := 122) dad_119 rfl ?_
      refine s_iconst (x := (1 : Int32)) (pc' := 123) dad_122 rfl rfl ?_
      refine s_iadd (pc' := 124) dad_123 rfl ?_
      refine s_putF F2 E ga (host := "") (Or.inl (hw _ (List.mem_of_getElem? (i := 15) rfl))) Via.refl (Or.inl (hw _ (List.mem_of_getElem? (i := 16) rfl))) (hw _ (List.mem_of_getElem? (i := 1) rfl)) (ty := .int) (by decide) rfl rfl (pc' := 127) dad_124 rfl (fun h124 W124 => ?_)
      refine s_ret rfl dad_127 (by decide) (by decide) (fin _ ?_)
      have hsp : ins key xs = xs.take i ++ key :: xs.drop i := by
        have := ins_split hA hB
        rwa [List.take_append_drop] at this
      have hlen : (ins key xs).length = xs.length + 1 := by rw [hsp]; simp; omega
      refine ⟨F1.other W124 (Or.inr (slot_ne (Or.inl (hw _ (List.mem_of_getElem? (i := 14) rfl))) (Or.inl (hw _ (List.mem_of_getElem? (i := 16) rfl))) (by decide) (t := .array .int) (t' := .int) (by decide) (by decide))), ?_, E.wr W124, hne, junk.tail, ?_, ?_⟩
      · rw [hlen, ← n_succ]; exact F2.same W124
      · rw [List.length_append] at hj ⊢; rw [hlen, List.length_tail]; omega
      · rw [ins_arr hi hi3 hj] at A116; rw [hsp]; exact A116.other W124 (Ne.symm hne)
    · replace hc65 := b_neF hc65
      exact absurd hc65 (n_ne4 (by omega))
  · replace hc47 := b_ltF hc47
    obtain ⟨i, hi, hx, rfl⟩ | ⟨i, hi, hA, hB, rfl⟩ := hr
    · rw [ins_there hs (List.mem_of_getElem? hx)] at fin
      exact s_ret rfl dad_50 (by decide) (by decide) (fin h0 ⟨F1, F2, E, hne, junk, hj, A⟩)
    · exact absurd (n_isneg (by omega)) hc47
set_option maxRecDepth 65536 in
set_option maxHeartbeats 4000000 in
theorem rmad (l : Launch) (Z : State) (a0 : Array Value) (hw : ∀ d ∈ tables_1, d.before a0 Z = true) (n0 : Nat) (a r : Addr) (k : ClassId) (xs : List Int32) (key : Int32) (h0 : Heap) (ga : n0 ≤ a) (gr : n0 ≤ r) (H : RS Z h0 a r k xs) (hs : Srt xs) (hi3 : xs.length ≤ 3) : oCon l Z n0 (⟨"com/example/auscult/auscult/RowSet", "add", "(I)V"⟩ : MethodName) iad #[.ref a, .int key] h0 (fun v h => v = none ∧ RS Z h a r k (ins key xs)) := by
  refine oCon.mk (plainFor_of_name pnR) rfl rfl (efad a key) fun C hC => ?_
  subst hC
  obtain ⟨F1, F2, E, hne, junk, hj, A⟩ := H
  have fin : ∀ h, RS Z h a r k (ins key xs) → (fun (v : Option Value) (h : Heap) => v = none ∧ RS Z h a r k (ins key xs)) none h := fun h q => ⟨rfl, q⟩
  refine s_aloadN (pc' := 1) dad_0 rfl rfl rfl ?_
  refine s_getF F2 (host := "") (Or.inl (hw _ (List.mem_of_getElem? (i := 15) rfl))) Via.refl (pc' := 4) dad_1 rfl ?_
  refine s_if (pc' := 7) (pc'' := 22) dad_4 rfl (by decide) rfl (fun hc4 => ?_) (fun hc4 => ?_)
  · replace hc4 := b_eq hc4
    have hx0 : xs = [] := List.eq_nil_of_length_eq_zero (n_zero (by omega) hc4)
    refine s_aloadN (pc' := 23) dad_22 rfl rfl rfl ?_
    refine s_getF F2 (host := "") (Or.inl (hw _ (List.mem_of_getElem? (i := 15) rfl))) Via.refl (pc' := 26) dad_23 rfl ?_
    refine s_ineg (pc' := 27) dad_26 rfl ?_
    refine s_iconst (x := (1 : Int32)) (pc' := 28) dad_27 rfl rfl ?_
    refine s_isub (pc' := 29) dad_28 rfl ?_
    rw [n_neg']
    have hr : BS xs key (-(Int32.ofNat xs.length + 1)) := Or.inr ⟨xs.length, Nat.le_refl _, ?_, by simp, rfl⟩
    rotate_left
    · intro x hx
      first
      | (rw [hx0] at hx; simp at hx; done)
      | (obtain ⟨q1, q2, q3, q4⟩ := srt_split hs hw1; rw [show xs.length - 1 + 1 = xs.length by omega] at q3; rw [q3] at hx; rcases List.mem_append.mp hx with hx | hx; (have := q1 x hx; rw [o_lt] at *; omega); (cases List.mem_singleton.mp hx; exact hc19))
    refine s_goto (pc' := 45) dad_29 (by decide) rfl ?_
    exact ad45 C.l Z a0 hw n0 a r k xs key _ ga gr ⟨F1, F2, E, hne, junk, hj, A⟩ hs hi3 hr fin
  · replace hc4 := b_eqF hc4
    have hx1 : 0 < xs.length := n_pos hc4
    obtain ⟨w, hw1⟩ : ∃ w, xs[xs.length - 1]? = some w := ⟨xs[xs.length - 1]'(by omega), List.getElem?_eq_getElem (by omega)⟩
    refine s_aloadN (pc' := 8) dad_7 rfl rfl rfl ?_
    refine s_getF F1 (host := "") (Or.inl (hw _ (List.mem_of_getElem? (i := 13) rfl))) Via.refl (pc' := 11) dad_8 rfl ?_
    refine s_aloadN (pc' := 12) dad_11 rfl rfl rfl ?_
    refine s_getF F2 (host := "") (Or.inl (hw _ (List.mem_of_getElem? (i := 15) rfl))) Via.refl (pc' := 15) dad_12 rfl ?_
    refine s_iconst (x := (1 : Int32)) (pc' := 16) dad_15 rfl rfl ?_
    refine s_isub (pc' := 17) dad_16 rfl ?_
    rw [n_pred hx1]
    refine s_iaload A (n_nn (by omega)) (n_lt4 (by omega)) (v := .int w) (by rw [n_cl (by omega)]; exact getD_xs hw1) (pc' := 18) dad_17 rfl ?_
    refine s_iloadN (pc' := 19) dad_18 rfl rfl ?_
    refine s_icmp (pc' := 22) (pc'' := 32) dad_19 rfl (by decide) rfl (fun hc19 => ?_) (fun hc19 => ?_)
    · replace hc19 := b_ge hc19
      refine s_aloadN (pc' := 33) dad_32 rfl rfl rfl ?_
      refine s_getF F1 (host := "") (Or.inl (hw _ (List.mem_of_getElem? (i := 13) rfl))) Via.refl (pc' := 36) dad_33 rfl ?_
      refine s_iconst (x := (0 : Int32)) (pc' := 37) dad_36 rfl rfl ?_
      refine s_aloadN (pc' := 38) dad_37 rfl rfl rfl ?_
      refine s_getF F2 (host := "") (Or.inl (hw _ (List.mem_of_getElem? (i := 15) rfl))) Via.refl (pc' := 41) dad_38 rfl ?_
      refine s_iloadN (pc' := 42) dad_41 rfl rfl ?_
      refine s_callS4 (rmbs C.l Z a0 hw n0 r k xs junk key _ hs (by omega) A) (hw _ (List.mem_of_getElem? (i := 22) rfl)) (hw _ (List.mem_of_getElem? (i := 23) rfl)) (hw _ (List.mem_of_getElem? (i := 24) rfl)) (hw _ (List.mem_of_getElem? (i := 25) rfl)) (by decide) (o_len pdbs rfl) rfl (pc' := 45) dad_42 rfl (Nat.le_of_ble_eq_true rfl) (Nat.le_of_ble_eq_true rfl) (Nat.le_of_ble_eq_true rfl) (Nat.le_of_ble_eq_true rfl) (fun v42 h42 hQ42 => ?_)
      obtain ⟨z, rfl, rfl, hr⟩ := hQ42
      dsimp only [oPush]
      exact ad45 C.l Z a0 hw n0 a r k xs key _ ga gr ⟨F1, F2, E, hne, junk, hj, A⟩ hs hi3 hr fin
    · replace hc19 := b_geF hc19
      refine s_aloadN (pc' := 23) dad_22 rfl rfl rfl ?_
      refine s_getF F2 (host := "") (Or.inl (hw _ (List.mem_of_getElem? (i := 15) rfl))) Via.refl (pc' := 26) dad_23 rfl ?_
      refine s_ineg (pc' := 27) dad_26 rfl ?_
      refine s_iconst (x := (1 : Int32)) (pc' := 28) dad_27 rfl rfl ?_
      refine s_isub (pc' := 29) dad_28 rfl ?_
      rw [n_neg']
      have hr : BS xs key (-(Int32.ofNat xs.length + 1)) := Or.inr ⟨xs.length, Nat.le_refl _, ?_, by simp, rfl⟩
      rotate_left
      · intro x hx
        first
        | (rw [hx0] at hx; simp at hx; done)
        | (obtain ⟨q1, q2, q3, q4⟩ := srt_split hs hw1; rw [show xs.length - 1 + 1 = xs.length by omega] at q3; rw [q3] at hx; rcases List.mem_append.mp hx with hx | hx; (have := q1 x hx; rw [o_lt] at *; omega); (cases List.mem_singleton.mp hx; exact hc19))
      refine s_goto (pc' := 45) dad_29 (by decide) rfl ?_
      exact ad45 C.l Z a0 hw n0 a r k xs key _ ga gr ⟨F1, F2, E, hne, junk, hj, A⟩ hs hi3 hr fin
def ico : OInfo := ("com/example/auscult/auscult/RowSet", prog_33_method_5_code, 2, (some .boolean), "contains", ({ frames := 2, cells := 0, slots := 0, locals := 34 } : Room))
theorem efco (x0 : Addr) (x1 : Int32) (m : MethodId) : entryFrame m #[(.ref x0), (.int x1)] 2 = mkF m 0 #[.val (.ref x0), .val (.int x1)] [] := by first | (simp [entryFrame, mkF, argsToLocals, Value.category]; done) | rfl
theorem pdco : parseMethodDescriptor "(I)Z" = some ⟨[.int], some .boolean⟩ := by decide +kernel
theorem bs_no {key : Int32} {xs : List Int32} {i : Nat} (hA : ∀ x ∈ xs.take i, x < key) (hB : ∀ x ∈ xs.drop i, key < x) : key ∉ xs := fun h => by
  rw [← List.take_append_drop i xs] at h
  rcases List.mem_append.mp h with h | h
  · have := hA _ h; rw [o_lt] at this; omega
  · have := hB _ h; rw [o_lt] at this; omega
theorem dco_0 : decode prog_33_method_5_code 0 = .ok (.aload_n 0, 1) := by decide +kernel
theorem dco_1 : decode prog_33_method_5_code 1 = .ok (.getfield 12, 3) := by decide +kernel
theorem dco_4 : decode prog_33_method_5_code 4 = .ok (.iconst 0, 1) := by decide +kernel
theorem dco_5 : decode prog_33_method_5_code 5 = .ok (.aload_n 0, 1) := by decide +kernel
theorem dco_6 : decode prog_33_method_5_code 6 = .ok (.getfield 16, 3) := by decide +kernel
theorem dco_9 : decode prog_33_method_5_code 9 = .ok (.iload_n 1, 1) := by decide +kernel
theorem dco_10 : decode prog_33_method_5_code 10 = .ok (.invokestatic 20, 3) := by decide +kernel
theorem dco_13 : decode prog_33_method_5_code 13 = .ok (.ifCond .lt 7, 3) := by decide +kernel
theorem dco_16 : decode prog_33_method_5_code 16 = .ok (.iconst 1, 1) := by decide +kernel
theorem dco_17 : decode prog_33_method_5_code 17 = .ok (.goto 4, 3) := by decide +kernel
theorem dco_20 : decode prog_33_method_5_code 20 = .ok (.iconst 0, 1) := by decide +kernel
theorem dco_21 : decode prog_33_method_5_code 21 = .ok (.ireturn, 1) := by decide +kernel
set_option maxRecDepth 65536 in
set_option maxHeartbeats 4000000 in
theorem rmco (l : Launch) (Z : State) (a0 : Array Value) (hw : ∀ d ∈ tables_1, d.before a0 Z = true) (n0 : Nat) (a r : Addr) (k : ClassId) (xs : List Int32) (key : Int32) (h0 : Heap) (ga : n0 ≤ a) (gr : n0 ≤ r) (H : RS Z h0 a r k xs) (hs : Srt xs) (len4 : xs.length ≤ 4) : oCon l Z n0 (⟨"com/example/auscult/auscult/RowSet", "contains", "(I)Z"⟩ : MethodName) ico #[.ref a, .int key] h0 (fun v h => v = some (.int (if key ∈ xs then 1 else 0)) ∧ h = h0) := by
  refine oCon.mk (plainFor_of_name pnR) rfl rfl (efco a key) fun C hC => ?_
  obtain ⟨F1, F2, E, hne, junk, hj, A⟩ := H
  refine s_aloadN (pc' := 1) dco_0 rfl rfl rfl ?_
  refine s_getF F1 (host := "") (Or.inl (hw _ (List.mem_of_getElem? (i := 13) rfl))) Via.refl (pc' := 4) dco_1 rfl ?_
  refine s_iconst (x := (0 : Int32)) (pc' := 5) dco_4 rfl rfl ?_
  refine s_aloadN (pc' := 6) dco_5 rfl rfl rfl ?_
  refine s_getF F2 (host := "") (Or.inl (hw _ (List.mem_of_getElem? (i := 15) rfl))) Via.refl (pc' := 9) dco_6 rfl ?_
  refine s_iloadN (pc' := 10) dco_9 rfl rfl ?_
  refine s_callS4 (rmbs C.l Z a0 hw n0 r k xs junk key _ hs len4 A) (hw _ (List.mem_of_getElem? (i := 22) rfl)) (hw _ (List.mem_of_getElem? (i := 23) rfl)) (hw _ (List.mem_of_getElem? (i := 24) rfl)) (hw _ (List.mem_of_getElem? (i := 25) rfl)) (by decide) (o_len pdbs rfl) rfl (pc' := 13) dco_10 rfl (Nat.le_of_ble_eq_true rfl) (Nat.le_of_ble_eq_true rfl) (Nat.le_of_ble_eq_true rfl) (Nat.le_of_ble_eq_true rfl) (fun v10 h10 hQ10 => ?_)
  obtain ⟨z, rfl, rfl, hr⟩ := hQ10
  dsimp only [oPush]
  refine s_if (pc' := 16) (pc'' := 20) dco_13 rfl (by decide) rfl (fun hc13 => ?_) (fun hc13 => ?_)
  · replace hc13 := b_lt hc13
    have hm : key ∉ xs := by
      obtain ⟨i, hi, hx, rfl⟩ | ⟨i, hi, hA, hB, rfl⟩ := hr
      · exact absurd hc13 (n_nn (by omega))
      · exact bs_no hA hB
    refine s_iconst (x := (0 : Int32)) (pc' := 21) dco_20 rfl rfl ?_
    exact s_nret (t := .boolean) rfl (by simp) dco_21 (by decide) (by decide) ⟨by first | (rw [if_pos hm]; rfl) | (rw [if_neg hm]; rfl), rfl⟩
  · replace hc13 := b_ltF hc13
    have hm : key ∈ xs := by
      obtain ⟨i, hi, hx, rfl⟩ | ⟨i, hi, hA, hB, rfl⟩ := hr
      · exact List.mem_of_getElem? hx
      · exact absurd (n_isneg (by omega)) hc13
    refine s_iconst (x := (1 : Int32)) (pc' := 17) dco_16 rfl rfl ?_
    refine s_goto (pc' := 21) dco_17 (by decide) rfl ?_
    exact s_nret (t := .boolean) rfl (by simp) dco_21 (by decide) (by decide) ⟨by first | (rw [if_pos hm]; rfl) | (rw [if_neg hm]; rfl), rfl⟩
def ire : OInfo := ("com/example/auscult/auscult/RowSet", prog_33_method_8_code, 3, none, "remove", ({ frames := 2, cells := 0, slots := 0, locals := 40 } : Room))
theorem efre (x0 : Addr) (x1 : Int32) (m : MethodId) : entryFrame m #[(.ref x0), (.int x1)] 3 = mkF m 0 #[.val (.ref x0), .val (.int x1), .unset] [] := by first | (simp [entryFrame, mkF, argsToLocals, Value.category]; done) | rfl
theorem pdre : parseMethodDescriptor "(I)V" = some ⟨[.int], none⟩ := by decide +kernel
theorem rem_arr {xs junk : List Int32} {i : Nat} (hi : i < xs.length) (len4 : xs.length ≤ 4) (hj : (xs ++ junk).length = 4) :
    ∃ j2, (((xs ++ junk).map Value.int).take i ++ ((List.range (xs.length - i - 1)).map fun q => ((xs ++ junk).map Value.int).getD (i + 1 + q) (.int 0)) ++ ((xs ++ junk).map Value.int).drop (i + (xs.length - i - 1))) = ((xs.take i ++ xs.drop (i + 1)) ++ j2).map Value.int ∧ ((xs.take i ++ xs.drop (i + 1)) ++ j2).length = 4 := by
  match xs, len4 with
  | [], _ => cases hi
  | [z], _ => match junk, hj with | [p, q, s], _ => match i, hi with | 0, _ => exact ⟨[z, p, q, s], rfl, rfl⟩
  | [y, z], _ => match junk, hj with | [p, q], _ => match i, hi with | 0, _ => exact ⟨[z, p, q], rfl, rfl⟩ | 1, _ => exact ⟨[z, p, q], rfl, rfl⟩
  | [x, y, z], _ => match junk, hj with | [p], _ => match i, hi with | 0, _ => exact ⟨[z, p], rfl, rfl⟩ | 1, _ => exact ⟨[z, p], rfl, rfl⟩ | 2, _ => exact ⟨[z, p], rfl, rfl⟩
  | [w, x, y, z], _ => match junk, hj with | [], _ => match i, hi with | 0, _ => exact ⟨[z], rfl, rfl⟩ | 1, _ => exact ⟨[z], rfl, rfl⟩ | 2, _ => exact ⟨[z], rfl, rfl⟩ | 3, _ => exact ⟨[z], rfl, rfl⟩
theorem del_facts {xs : List Int32} {i : Nat} {key : Int32} (hs : Srt xs) (hx : xs[i]? = some key) : Srt (xs.take i ++ xs.drop (i + 1)) ∧ (∀ x, x ∈ xs.take i ++ xs.drop (i + 1) ↔ x ∈ xs ∧ ¬ x = key) ∧ True := by
  obtain ⟨q1, q2, q3, q4⟩ := srt_split hs hx
  have e : xs = xs.take i ++ key :: xs.drop (i + 1) := by conv => lhs; rw [← List.take_append_drop i xs, q4]
  refine ⟨?_, fun x => ?_, trivial⟩
  · have hs' : Srt (xs.take i ++ key :: xs.drop (i + 1)) := e ▸ hs
    exact hs'.sublist (List.Sublist.append (List.Sublist.refl _) (List.sublist_cons_self ..))
  · constructor
    · intro h
      rcases List.mem_append.mp h with h | h
      · refine ⟨List.mem_of_mem_take h, fun q => ?_⟩
        have := q1 x h; rw [q, o_lt] at this; omega
      · refine ⟨List.mem_of_mem_drop h, fun q => ?_⟩
        have := q2 x h; rw [q, o_lt] at this; omega
    · rintro ⟨h, q⟩
      rw [e] at h
      rcases List.mem_append.mp h with h | h
      · exact List.mem_append_left _ h
      · exact List.mem_append_right _ ((List.mem_cons.mp h).resolve_left q)
theorem dre_0 : decode prog_33_method_8_code 0 = .ok (.aload_n 0, 1) := by decide +kernel
theorem dre_1 : decode prog_33_method_8_code 1 = .ok (.getfield 12, 3) := by decide +kernel
theorem dre_4 : decode prog_33_method_8_code 4 = .ok (.iconst 0, 1) := by decide +kernel
theorem dre_5 : decode prog_33_method_8_code 5 = .ok (.aload_n 0, 1) := by decide +kernel
theorem dre_6 : decode prog_33_method_8_code 6 = .ok (.getfield 16, 3) := by decide +kernel
theorem dre_9 : decode prog_33_method_8_code 9 = .ok (.iload_n 1, 1) := by decide +kernel
theorem dre_10 : decode prog_33_method_8_code 10 = .ok (.invokestatic 20, 3) := by decide +kernel
theorem dre_13 : decode prog_33_method_8_code 13 = .ok (.istore_n 2, 1) := by decide +kernel
theorem dre_14 : decode prog_33_method_8_code 14 = .ok (.iload_n 2, 1) := by decide +kernel
theorem dre_15 : decode prog_33_method_8_code 15 = .ok (.ifCond .lt 36, 3) := by decide +kernel
theorem dre_18 : decode prog_33_method_8_code 18 = .ok (.aload_n 0, 1) := by decide +kernel
theorem dre_19 : decode prog_33_method_8_code 19 = .ok (.getfield 12, 3) := by decide +kernel
theorem dre_22 : decode prog_33_method_8_code 22 = .ok (.iload_n 2, 1) := by decide +kernel
theorem dre_23 : decode prog_33_method_8_code 23 = .ok (.iconst 1, 1) := by decide +kernel
theorem dre_24 : decode prog_33_method_8_code 24 = .ok (.iadd, 1) := by decide +kernel
theorem dre_25 : decode prog_33_method_8_code 25 = .ok (.aload_n 0, 1) := by decide +kernel
theorem dre_26 : decode prog_33_method_8_code 26 = .ok (.getfield 12, 3) := by decide +kernel
theorem dre_29 : decode prog_33_method_8_code 29 = .ok (.iload_n 2, 1) := by decide +kernel
theorem dre_30 : decode prog_33_method_8_code 30 = .ok (.aload_n 0, 1) := by decide +kernel
theorem dre_31 : decode prog_33_method_8_code 31 = .ok (.getfield 16, 3) := by decide +kernel
theorem dre_34 : decode prog_33_method_8_code 34 = .ok (.iload_n 2, 1) := by decide +kernel
theorem dre_35 : decode prog_33_method_8_code 35 = .ok (.isub, 1) := by decide +kernel
theorem dre_36 : decode prog_33_method_8_code 36 = .ok (.iconst 1, 1) := by decide +kernel
theorem dre_37 : decode prog_33_method_8_code 37 = .ok (.isub, 1) := by decide +kernel
theorem dre_38 : decode prog_33_method_8_code 38 = .ok (.invokestatic 36, 3) := by decide +kernel
theorem dre_41 : decode prog_33_method_8_code 41 = .ok (.aload_n 0, 1) := by decide +kernel
theorem dre_42 : decode prog_33_method_8_code 42 = .ok (.dup, 1) := by decide +kernel
theorem dre_43 : decode prog_33_method_8_code 43 = .ok (.getfield 16, 3) := by decide +kernel
theorem dre_46 : decode prog_33_method_8_code 46 = .ok (.iconst 1, 1) := by decide +kernel
theorem dre_47 : decode prog_33_method_8_code 47 = .ok (.isub, 1) := by decide +kernel
theorem dre_48 : decode prog_33_method_8_code 48 = .ok (.putfield 16, 3) := by decide +kernel
theorem dre_51 : decode prog_33_method_8_code 51 = .ok (.return_, 1) := by decide +kernel
set_option maxRecDepth 65536 in
set_option maxHeartbeats 4000000 in
theorem rmre (l : Launch) (Z : State) (a0 : Array Value) (hw : ∀ d ∈ tables_1, d.before a0 Z = true) (n0 : Nat) (a r : Addr) (k : ClassId) (xs : List Int32) (key : Int32) (h0 : Heap) (ga : n0 ≤ a) (gr : n0 ≤ r) (H : RS Z h0 a r k xs) (hs : Srt xs) (len4 : xs.length ≤ 4) : oCon l Z n0 (⟨"com/example/auscult/auscult/RowSet", "remove", "(I)V"⟩ : MethodName) ire #[.ref a, .int key] h0 (fun v h => v = none ∧ ∃ ys, RS Z h a r k ys ∧ Srt ys ∧ ys.length ≤ 4 ∧ ∀ x, x ∈ ys ↔ x ∈ xs ∧ ¬ x = key) := by
  refine oCon.mk (plainFor_of_name pnR) rfl rfl (efre a key) fun C hC => ?_
  obtain ⟨F1, F2, E, hne, junk, hj, A⟩ := H
  refine s_aloadN (pc' := 1) dre_0 rfl rfl rfl ?_
  refine s_getF F1 (host := "") (Or.inl (hw _ (List.mem_of_getElem? (i := 13) rfl))) Via.refl (pc' := 4) dre_1 rfl ?_
  refine s_iconst (x := (0 : Int32)) (pc' := 5) dre_4 rfl rfl ?_
  refine s_aloadN (pc' := 6) dre_5 rfl rfl rfl ?_
  refine s_getF F2 (host := "") (Or.inl (hw _ (List.mem_of_getElem? (i := 15) rfl))) Via.refl (pc' := 9) dre_6 rfl ?_
  refine s_iloadN (pc' := 10) dre_9 rfl rfl ?_
  refine s_callS4 (rmbs C.l Z a0 hw n0 r k xs junk key _ hs len4 A) (hw _ (List.mem_of_getElem? (i := 22) rfl)) (hw _ (List.mem_of_getElem? (i := 23) rfl)) (hw _ (List.mem_of_getElem? (i := 24) rfl)) (hw _ (List.mem_of_getElem? (i := 25) rfl)) (by decide) (o_len pdbs rfl) rfl (pc' := 13) dre_10 rfl (Nat.le_of_ble_eq_true rfl) (Nat.le_of_ble_eq_true rfl) (Nat.le_of_ble_eq_true rfl) (Nat.le_of_ble_eq_true rfl) (fun v10 h10 hQ10 => ?_)
  obtain ⟨z, rfl, rfl, hr⟩ := hQ10
  dsimp only [oPush]
  refine s_istoreN (kn := 2) rfl (pc' := 14) dre_13 rfl (o_st rfl (by first | exact One.u | exact One.val rfl | assumption) rfl) ?_
  dsimp only [List.set_cons_succ, List.set_cons_zero]
  refine s_iloadN (pc' := 15) dre_14 rfl rfl ?_
  refine s_if (pc' := 18) (pc'' := 51) dre_15 rfl (by decide) rfl (fun hc15 => ?_) (fun hc15 => ?_)
  · replace hc15 := b_lt hc15
    have hm : key ∉ xs := by
      obtain ⟨i, hi, hx, rfl⟩ | ⟨i, hi, hA, hB, rfl⟩ := hr
      · exact absurd hc15 (n_nn (by omega))
      · exact bs_no hA hB
    exact s_ret rfl dre_51 (by decide) (by decide) ⟨rfl, xs, ⟨F1, F2, E, hne, junk, hj, A⟩, hs, len4, fun x => ⟨fun h => ⟨h, fun q => hm (q ▸ h)⟩, fun h => h.1⟩⟩
  · replace hc15 := b_ltF hc15
    obtain ⟨i, hi, hx, rfl⟩ | ⟨i, hi, hA, hB, rfl⟩ := hr
    rotate_left
    · exact absurd (n_isneg (by omega)) hc15
    refine s_aloadN (pc' := 19) dre_18 rfl rfl rfl ?_
    refine s_getF F1 (host := "") (Or.inl (hw _ (List.mem_of_getElem? (i := 13) rfl))) Via.refl (pc' := 22) dre_19 rfl ?_
    refine s_iloadN (pc' := 23) dre_22 rfl rfl ?_
    refine s_iconst (x := (1 : Int32)) (pc' := 24) dre_23 rfl rfl ?_
    refine s_iadd (pc' := 25) dre_24 rfl ?_
    refine s_aloadN (pc' := 26) dre_25 rfl rfl rfl ?_
    refine s_getF F1 (host := "") (Or.inl (hw _ (List.mem_of_getElem? (i := 13) rfl))) Via.refl (pc' := 29) dre_26 rfl ?_
    refine s_iloadN (pc' := 30) dre_29 rfl rfl ?_
    refine s_aloadN (pc' := 31) dre_30 rfl rfl rfl ?_
    refine s_getF F2 (host := "") (Or.inl (hw _ (List.mem_of_getElem? (i := 15) rfl))) Via.refl (pc' := 34) dre_31 rfl ?_
    refine s_iloadN (pc' := 35) dre_34 rfl rfl ?_
    refine s_isub (pc' := 36) dre_35 rfl ?_
    refine s_iconst (x := (1 : Int32)) (pc' := 37) dre_36 rfl rfl ?_
    refine s_isub (pc' := 38) dre_37 rfl ?_
    rw [n_sub (Nat.le_of_lt hi), n_pred (by omega), n_succ]
    refine s_copy A A rfl gr (hw _ (List.mem_of_getElem? (i := 42) rfl)) (hw _ (List.mem_of_getElem? (i := 45) rfl)) (hw _ (List.mem_of_getElem? (i := 43) rfl)) (hw _ (List.mem_of_getElem? (i := 44) rfl)) (n_nn (by omega)) (n_nn (by omega)) (n_nn (by omega)) (by rw [n_cl (by omega), n_cl (by omega)]; show _ ≤ 4; omega) (by rw [n_cl (by omega), n_cl (by omega)]; show _ ≤ 4; omega) (by rw [n_cl (by omega), n_cl (by omega), List.length_map, hj]; omega) rfl (pc' := 41) dre_38 rfl (Nat.le_of_ble_eq_true rfl) (Nat.le_of_ble_eq_true rfl) (fun h38 K38 A38 => ?_)
    rw [n_cl (by omega), n_cl (by omega), n_cl (by omega)] at A38
    replace F1 := F1.keep K38 (ninS hne nin0)
    replace F2 := F2.keep K38 (ninS hne nin0)
    replace E := E.keep K38
    refine s_aloadN (pc' := 42) dre_41 rfl rfl rfl ?_
    refine s_dup (pc' := 43) dre_42 rfl rfl ?_
    refine s_getF F2 (host := "") (Or.inl (hw _ (List.mem_of_getElem? (i := 15) rfl))) Via.refl (pc' := 46) dre_43 rfl ?_
    refine s_iconst (x := (1 : Int32)) (pc' := 47) dre_46 rfl rfl ?_
    refine s_isub (pc' := 48) dre_47 rfl ?_
    rw [n_pred (by omega)]
    refine s_putF F2 E ga (host := "") (Or.inl (hw _ (List.mem_of_getElem? (i := 15) rfl))) Via.refl (Or.inl (hw _ (List.mem_of_getElem? (i := 16) rfl))) (hw _ (List.mem_of_getElem? (i := 1) rfl)) (ty := .int) (by decide) rfl rfl (pc' := 51) dre_48 rfl (fun h48 W48 => ?_)
    obtain ⟨j2, ea, ej⟩ := rem_arr hi len4 hj
    rw [ea] at A38
    have hl1 : (xs.take i ++ xs.drop (i + 1)).length = xs.length - 1 := by simp; omega
    obtain ⟨p1, p2, p3⟩ := del_facts hs hx
    refine s_ret rfl dre_51 (by decide) (by decide) ⟨rfl, xs.take i ++ xs.drop (i + 1), ⟨F1.other W48 (Or.inr (slot_ne (Or.inl (hw _ (List.mem_of_getElem? (i := 14) rfl))) (Or.inl (hw _ (List.mem_of_getElem? (i := 16) rfl))) (by decide) (t := .array .int) (t' := .int) (by decide) (by decide))), ?_, E.wr W48, hne, j2, ej, A38.other W48 (Ne.symm hne)⟩, p1, by omega, p2⟩
    rw [hl1]; exact F2.same W48
theorem pn0 : plainName "com/example/auscult/auscult/RowSetContainsPinLaw" = true := by first | (simp [plainName, overriddenIn]; done) | decide +kernel
def i0 : OInfo := ("com/example/auscult/auscult/RowSetContainsPinLaw", code, maxLocals, (some .boolean), "law", room_1)
theorem ef0 (x0 : Int32) (x1 : Int32) (x2 : Int32) (x3 : Int32) (x4 : Int32) (x5 : Int32) (m : MethodId) : entryFrame m #[(.int x0), (.int x1), (.int x2), (.int x3), (.int x4), (.int x5)] maxLocals = mkF m 0 #[.val (.int x0), .val (.int x1), .val (.int x2), .val (.int x3), .val (.int x4), .val (.int x5), .unset, .unset, .unset, .unset, .unset, .unset, .unset] [] := by first | (simp [entryFrame, mkF, argsToLocals, Value.category, maxLocals]; done) | rfl
set_option maxRecDepth 65536 in
set_option maxHeartbeats 4000000 in
theorem sg11 (Z : State) (n0 : Nat) {C : OCtx} {Q : Option Value → Heap → Prop} {h : Heap} {cs sl : Nat} {a b c d q m n : Int32} {s7 s8 s9 s10 s11 s12 : Slot} (K : ∀ z, (z = 0 ∨ z = 1) → oRun C Z n0 i0 Q h cs sl (mkF C.m 23 #[.val (.int a), .val (.int b), .val (.int c), .val (.int d), .val (.int q), .val (.int m), .val (.int n), s7, s8, s9, s10, s11, s12] [.int z])) : oRun C Z n0 i0 Q h cs sl (mkF C.m 11 #[.val (.int a), .val (.int b), .val (.int c), .val (.int d), .val (.int q), .val (.int m), .val (.int n), s7, s8, s9, s10, s11, s12] []) := by
  refine s_iload (pc' := 13) at_11 rfl rfl ?_
  refine s_iconst (x := (1 : Int32)) (pc' := 14) at_13 rfl rfl ?_
  refine s_iand (pc' := 15) at_14 rfl ?_
  refine s_if (pc' := 18) (pc'' := 22) at_15 rfl (by decide) rfl (fun hc15 => ?_) (fun hc15 => ?_)
  · replace hc15 := b_eq hc15
    refine s_iconst (x := (0 : Int32)) (pc' := 23) at_22 rfl rfl ?_
    first
    | exact K 0 (Or.inl rfl)
    | exact K 1 (Or.inr rfl)
  · replace hc15 := b_eqF hc15
    refine s_iconst (x := (1 : Int32)) (pc' := 19) at_18 rfl rfl ?_
    refine s_goto (pc' := 23) at_19 (by decide) rfl ?_
    first
    | exact K 0 (Or.inl rfl)
    | exact K 1 (Or.inr rfl)
set_option maxRecDepth 65536 in
set_option maxHeartbeats 4000000 in
theorem sg34 (Z : State) (n0 : Nat) {C : OCtx} {Q : Option Value → Heap → Prop} {h : Heap} {cs sl : Nat} {a b c d q m n z : Int32} {s9 s10 s11 s12 : Slot} {u : Int32} (K : ∀ x, oRun C Z n0 i0 Q h cs sl (mkF C.m 75 #[.val (.int a), .val (.int b), .val (.int c), .val (.int d), .val (.int q), .val (.int m), .val (.int n), .val (.int z), .val (.int u), s9, s10, s11, s12] [.int x])) : oRun C Z n0 i0 Q h cs sl (mkF C.m 34 #[.val (.int a), .val (.int b), .val (.int c), .val (.int d), .val (.int q), .val (.int m), .val (.int n), .val (.int z), .val (.int u), s9, s10, s11, s12] []) := by
  refine s_iload (pc' := 36) at_34 rfl rfl ?_
  refine s_if (pc' := 39) (pc'' := 43) at_36 rfl (by decide) rfl (fun hc36 => ?_) (fun hc36 => ?_)
  · replace hc36 := b_ne hc36
    refine s_iload (pc' := 45) at_43 rfl rfl ?_
    refine s_iconst (x := (1 : Int32)) (pc' := 46) at_45 rfl rfl ?_
    refine s_icmp (pc' := 49) (pc'' := 53) at_46 rfl (by decide) rfl (fun hc46 => ?_) (fun hc46 => ?_)
    · replace hc46 := b_ne hc46
      refine s_iload (pc' := 55) at_53 rfl rfl ?_
      refine s_iconst (x := (2 : Int32)) (pc' := 56) at_55 rfl rfl ?_
      refine s_icmp (pc' := 59) (pc'' := 63) at_56 rfl (by decide) rfl (fun hc56 => ?_) (fun hc56 => ?_)
      · replace hc56 := b_ne hc56
        refine s_iload (pc' := 65) at_63 rfl rfl ?_
        refine s_iconst (x := (3 : Int32)) (pc' := 66) at_65 rfl rfl ?_
        refine s_icmp (pc' := 69) (pc'' := 73) at_66 rfl (by decide) rfl (fun hc66 => ?_) (fun hc66 => ?_)
        · replace hc66 := b_ne hc66
          refine s_iload (pc' := 75) at_73 rfl rfl ?_
          exact K _
        · replace hc66 := b_neF hc66
          refine s_iloadN (pc' := 70) at_69 rfl rfl ?_
          refine s_goto (pc' := 75) at_70 (by decide) rfl ?_
          exact K _
      · replace hc56 := b_neF hc56
        refine s_iloadN (pc' := 60) at_59 rfl rfl ?_
        refine s_goto (pc' := 75) at_60 (by decide) rfl ?_
        exact K _
    · replace hc46 := b_neF hc46
      refine s_iloadN (pc' := 50) at_49 rfl rfl ?_
      refine s_goto (pc' := 75) at_50 (by decide) rfl ?_
      exact K _
  · replace hc36 := b_neF hc36
    refine s_iloadN (pc' := 40) at_39 rfl rfl ?_
    refine s_goto (pc' := 75) at_40 (by decide) rfl ?_
    exact K _
set_option maxRecDepth 65536 in
set_option maxHeartbeats 4000000 in
theorem sg86 (l : Launch) (Z : State) (a0 : Array Value) (hw : ∀ d ∈ tables_1, d.before a0 Z = true) (n0 : Nat) {C : OCtx} {Q : Option Value → Heap → Prop} {h : Heap} {a b c d q m n z x : Int32} {o : Addr} {s8 s11 s12 : Slot} (r : Addr) (k : ClassId) (xs : List Int32) (go : n0 ≤ o) (gr : n0 ≤ r) (H : RS Z h o r k xs) (hs : Srt xs) (h3 : xs.length ≤ 3)
    (K : ∀ h' ys, ys = (if n < 1 then xs else ins a xs) → RS Z h' o r k ys → oRun C Z n0 i0 Q h' 2 6 (mkF C.m 98 #[.val (.int a), .val (.int b), .val (.int c), .val (.int d), .val (.int q), .val (.int m), .val (.int n), .val (.int z), s8, .val (.int x), .val (.ref o), s11, s12] [])) : oRun C Z n0 i0 Q h 2 6 (mkF C.m 86 #[.val (.int a), .val (.int b), .val (.int c), .val (.int d), .val (.int q), .val (.int m), .val (.int n), .val (.int z), s8, .val (.int x), .val (.ref o), s11, s12] []) := by
  refine s_iload (pc' := 88) at_86 rfl rfl ?_
  refine s_iconst (x := (1 : Int32)) (pc' := 89) at_88 rfl rfl ?_
  refine s_icmp (pc' := 92) (pc'' := 98) at_89 rfl (by decide) rfl (fun hc89 => ?_) (fun hc89 => ?_)
  · replace hc89 := b_lt hc89
    first
    | exact K h xs (by rw [if_pos hc89]) H
    | exact K h95 (ins a xs) (by rw [if_neg hc89]) hQ95
  · replace hc89 := b_ltF hc89
    refine s_aload (pc' := 94) at_92 rfl rfl rfl ?_
    refine s_iloadN (pc' := 95) at_94 rfl rfl ?_
    refine s_callV1 (rmad C.l Z a0 hw n0 o r k xs a h go gr H hs h3) H.2.2.1 (hw _ (List.mem_of_getElem? (i := 37) rfl)) (hw _ (List.mem_of_getElem? (i := 38) rfl)) (hw _ (List.mem_of_getElem? (i := 40) rfl)) (hw _ (List.mem_of_getElem? (i := 39) rfl)) (o_nf (hw _ (List.mem_of_getElem? (i := 40) rfl)) rfl) (hw _ (List.mem_of_getElem? (i := 2) rfl)) (hw _ (List.mem_of_getElem? (i := 41) rfl)) (by decide) (o_len pdad rfl) rfl (pc' := 98) at_95 rfl (Nat.le_of_ble_eq_true rfl) (Nat.le_of_ble_eq_true rfl) (Nat.le_of_ble_eq_true rfl) (Nat.le_of_ble_eq_true rfl) (fun v95 h95 hQ95 => ?_)
    obtain ⟨rfl, hQ95⟩ := hQ95
    dsimp only [oPush]
    first
    | exact K h xs (by rw [if_pos hc89]) H
    | exact K h95 (ins a xs) (by rw [if_neg hc89]) hQ95
set_option maxRecDepth 65536 in
set_option maxHeartbeats 4000000 in
theorem sg98 (l : Launch) (Z : State) (a0 : Array Value) (hw : ∀ d ∈ tables_1, d.before a0 Z = true) (n0 : Nat) {C : OCtx} {Q : Option Value → Heap → Prop} {h : Heap} {a b c d q m n z x : Int32} {o : Addr} {s8 s11 s12 : Slot} (r : Addr) (k : ClassId) (xs : List Int32) (go : n0 ≤ o) (gr : n0 ≤ r) (H : RS Z h o r k xs) (hs : Srt xs) (h3 : xs.length ≤ 3)
    (K : ∀ h' ys, ys = (if n < 2 then xs else ins b xs) → RS Z h' o r k ys → oRun C Z n0 i0 Q h' 2 6 (mkF C.m 110 #[.val (.int a), .val (.int b), .val (.int c), .val (.int d), .val (.int q), .val (.int m), .val (.int n), .val (.int z), s8, .val (.int x), .val (.ref o), s11, s12] [])) : oRun C Z n0 i0 Q h 2 6 (mkF C.m 98 #[.val (.int a), .val (.int b), .val (.int c), .val (.int d), .val (.int q), .val (.int m), .val (.int n), .val (.int z), s8, .val (.int x), .val (.ref o), s11, s12] []) := by
  refine s_iload (pc' := 100) at_98 rfl rfl ?_
  refine s_iconst (x := (2 : Int32)) (pc' := 101) at_100 rfl rfl ?_
  refine s_icmp (pc' := 104) (pc'' := 110) at_101 rfl (by decide) rfl (fun hc101 => ?_) (fun hc101 => ?_)
  · replace hc101 := b_lt hc101
    first
    | exact K h xs (by rw [if_pos hc101]) H
    | exact K h107 (ins b xs) (by rw [if_neg hc101]) hQ107
  · replace hc101 := b_ltF hc101
    refine s_aload (pc' := 106) at_104 rfl rfl rfl ?_
    refine s_iloadN (pc' := 107) at_106 rfl rfl ?_
    refine s_callV1 (rmad C.l Z a0 hw n0 o r k xs b h go gr H hs h3) H.2.2.1 (hw _ (List.mem_of_getElem? (i := 37) rfl)) (hw _ (List.mem_of_getElem? (i := 38) rfl)) (hw _ (List.mem_of_getElem? (i := 40) rfl)) (hw _ (List.mem_of_getElem? (i := 39) rfl)) (o_nf (hw _ (List.mem_of_getElem? (i := 40) rfl)) rfl) (hw _ (List.mem_of_getElem? (i := 2) rfl)) (hw _ (List.mem_of_getElem? (i := 41) rfl)) (by decide) (o_len pdad rfl) rfl (pc' := 110) at_107 rfl (Nat.le_of_ble_eq_true rfl) (Nat.le_of_ble_eq_true rfl) (Nat.le_of_ble_eq_true rfl) (Nat.le_of_ble_eq_true rfl) (fun v107 h107 hQ107 => ?_)
    obtain ⟨rfl, hQ107⟩ := hQ107
    dsimp only [oPush]
    first
    | exact K h xs (by rw [if_pos hc101]) H
    | exact K h107 (ins b xs) (by rw [if_neg hc101]) hQ107
set_option maxRecDepth 65536 in
set_option maxHeartbeats 4000000 in
theorem sg110 (l : Launch) (Z : State) (a0 : Array Value) (hw : ∀ d ∈ tables_1, d.before a0 Z = true) (n0 : Nat) {C : OCtx} {Q : Option Value → Heap → Prop} {h : Heap} {a b c d q m n z x : Int32} {o : Addr} {s8 s11 s12 : Slot} (r : Addr) (k : ClassId) (xs : List Int32) (go : n0 ≤ o) (gr : n0 ≤ r) (H : RS Z h o r k xs) (hs : Srt xs) (h3 : xs.length ≤ 3)
    (K : ∀ h' ys, ys = (if n < 3 then xs else ins c xs) → RS Z h' o r k ys → oRun C Z n0 i0 Q h' 2 6 (mkF C.m 122 #[.val (.int a), .val (.int b), .val (.int c), .val (.int d), .val (.int q), .val (.int m), .val (.int n), .val (.int z), s8, .val (.int x), .val (.ref o), s11, s12] [])) : oRun C Z n0 i0 Q h 2 6 (mkF C.m 110 #[.val (.int a), .val (.int b), .val (.int c), .val (.int d), .val (.int q), .val (.int m), .val (.int n), .val (.int z), s8, .val (.int x), .val (.ref o), s11, s12] []) := by
  refine s_iload (pc' := 112) at_110 rfl rfl ?_
  refine s_iconst (x := (3 : Int32)) (pc' := 113) at_112 rfl rfl ?_
  refine s_icmp (pc' := 116) (pc'' := 122) at_113 rfl (by decide) rfl (fun hc113 => ?_) (fun hc113 => ?_)
  · replace hc113 := b_lt hc113
    first
    | exact K h xs (by rw [if_pos hc113]) H
    | exact K h119 (ins c xs) (by rw [if_neg hc113]) hQ119
  · replace hc113 := b_ltF hc113
    refine s_aload (pc' := 118) at_116 rfl rfl rfl ?_
    refine s_iloadN (pc' := 119) at_118 rfl rfl ?_
    refine s_callV1 (rmad C.l Z a0 hw n0 o r k xs c h go gr H hs h3) H.2.2.1 (hw _ (List.mem_of_getElem? (i := 37) rfl)) (hw _ (List.mem_of_getElem? (i := 38) rfl)) (hw _ (List.mem_of_getElem? (i := 40) rfl)) (hw _ (List.mem_of_getElem? (i := 39) rfl)) (o_nf (hw _ (List.mem_of_getElem? (i := 40) rfl)) rfl) (hw _ (List.mem_of_getElem? (i := 2) rfl)) (hw _ (List.mem_of_getElem? (i := 41) rfl)) (by decide) (o_len pdad rfl) rfl (pc' := 122) at_119 rfl (Nat.le_of_ble_eq_true rfl) (Nat.le_of_ble_eq_true rfl) (Nat.le_of_ble_eq_true rfl) (Nat.le_of_ble_eq_true rfl) (fun v119 h119 hQ119 => ?_)
    obtain ⟨rfl, hQ119⟩ := hQ119
    dsimp only [oPush]
    first
    | exact K h xs (by rw [if_pos hc113]) H
    | exact K h119 (ins c xs) (by rw [if_neg hc113]) hQ119
set_option maxRecDepth 65536 in
set_option maxHeartbeats 4000000 in
theorem sg122 (l : Launch) (Z : State) (a0 : Array Value) (hw : ∀ d ∈ tables_1, d.before a0 Z = true) (n0 : Nat) {C : OCtx} {Q : Option Value → Heap → Prop} {h : Heap} {a b c d q m n z x : Int32} {o : Addr} {s8 s11 s12 : Slot} (r : Addr) (k : ClassId) (xs : List Int32) (go : n0 ≤ o) (gr : n0 ≤ r) (H : RS Z h o r k xs) (hs : Srt xs) (h3 : xs.length ≤ 3)
    (K : ∀ h' ys, ys = (if n < 4 then xs else ins d xs) → RS Z h' o r k ys → oRun C Z n0 i0 Q h' 2 6 (mkF C.m 134 #[.val (.int a), .val (.int b), .val (.int c), .val (.int d), .val (.int q), .val (.int m), .val (.int n), .val (.int z), s8, .val (.int x), .val (.ref o), s11, s12] [])) : oRun C Z n0 i0 Q h 2 6 (mkF C.m 122 #[.val (.int a), .val (.int b), .val (.int c), .val (.int d), .val (.int q), .val (.int m), .val (.int n), .val (.int z), s8, .val (.int x), .val (.ref o), s11, s12] []) := by
  refine s_iload (pc' := 124) at_122 rfl rfl ?_
  refine s_iconst (x := (4 : Int32)) (pc' := 125) at_124 rfl rfl ?_
  refine s_icmp (pc' := 128) (pc'' := 134) at_125 rfl (by decide) rfl (fun hc125 => ?_) (fun hc125 => ?_)
  · replace hc125 := b_lt hc125
    first
    | exact K h xs (by rw [if_pos hc125]) H
    | exact K h131 (ins d xs) (by rw [if_neg hc125]) hQ131
  · replace hc125 := b_ltF hc125
    refine s_aload (pc' := 130) at_128 rfl rfl rfl ?_
    refine s_iloadN (pc' := 131) at_130 rfl rfl ?_
    refine s_callV1 (rmad C.l Z a0 hw n0 o r k xs d h go gr H hs h3) H.2.2.1 (hw _ (List.mem_of_getElem? (i := 37) rfl)) (hw _ (List.mem_of_getElem? (i := 38) rfl)) (hw _ (List.mem_of_getElem? (i := 40) rfl)) (hw _ (List.mem_of_getElem? (i := 39) rfl)) (o_nf (hw _ (List.mem_of_getElem? (i := 40) rfl)) rfl) (hw _ (List.mem_of_getElem? (i := 2) rfl)) (hw _ (List.mem_of_getElem? (i := 41) rfl)) (by decide) (o_len pdad rfl) rfl (pc' := 134) at_131 rfl (Nat.le_of_ble_eq_true rfl) (Nat.le_of_ble_eq_true rfl) (Nat.le_of_ble_eq_true rfl) (Nat.le_of_ble_eq_true rfl) (fun v131 h131 hQ131 => ?_)
    obtain ⟨rfl, hQ131⟩ := hQ131
    dsimp only [oPush]
    first
    | exact K h xs (by rw [if_pos hc125]) H
    | exact K h131 (ins d xs) (by rw [if_neg hc125]) hQ131
set_option maxRecDepth 65536 in
set_option maxHeartbeats 4000000 in
theorem sg134 (l : Launch) (Z : State) (a0 : Array Value) (hw : ∀ d ∈ tables_1, d.before a0 Z = true) (n0 : Nat) {C : OCtx} {Q : Option Value → Heap → Prop} {h : Heap} {a b c d q m n z x : Int32} {o : Addr} {s8 s11 s12 : Slot} (r : Addr) (k : ClassId) (xs : List Int32) (go : n0 ≤ o) (gr : n0 ≤ r) (H : RS Z h o r k xs) (hs : Srt xs) (h4 : xs.length ≤ 4)
    (K : ∀ h' ys, RS Z h' o r k ys → Srt ys → ys.length ≤ 4 → (∀ y, y ∈ ys ↔ y ∈ xs ∧ ¬ (¬ z = 0 ∧ y = b)) → oRun C Z n0 i0 Q h' 2 6 (mkF C.m 145 #[.val (.int a), .val (.int b), .val (.int c), .val (.int d), .val (.int q), .val (.int m), .val (.int n), .val (.int z), s8, .val (.int x), .val (.ref o), s11, s12] [])) : oRun C Z n0 i0 Q h 2 6 (mkF C.m 134 #[.val (.int a), .val (.int b), .val (.int c), .val (.int d), .val (.int q), .val (.int m), .val (.int n), .val (.int z), s8, .val (.int x), .val (.ref o), s11, s12] []) := by
  refine s_iload (pc' := 136) at_134 rfl rfl ?_
  refine s_if (pc' := 139) (pc'' := 145) at_136 rfl (by decide) rfl (fun hc136 => ?_) (fun hc136 => ?_)
  · replace hc136 := b_eq hc136
    first
    | exact K h xs H hs h4 (fun y => ⟨fun q => ⟨q, fun w => w.1 hc136⟩, fun q => q.1⟩)
    | exact K h142 ys q1 q2 q3 (fun y => ⟨fun q => ⟨((q4 y).mp q).1, fun w => ((q4 y).mp q).2 w.2⟩, fun q => (q4 y).mpr ⟨q.1, fun w => q.2 ⟨hc136, w⟩⟩⟩)
  · replace hc136 := b_eqF hc136
    refine s_aload (pc' := 141) at_139 rfl rfl rfl ?_
    refine s_iloadN (pc' := 142) at_141 rfl rfl ?_
    refine s_callV1 (rmre C.l Z a0 hw n0 o r k xs b h go gr H hs h4) H.2.2.1 (hw _ (List.mem_of_getElem? (i := 17) rfl)) (hw _ (List.mem_of_getElem? (i := 18) rfl)) (hw _ (List.mem_of_getElem? (i := 20) rfl)) (hw _ (List.mem_of_getElem? (i := 19) rfl)) (o_nf (hw _ (List.mem_of_getElem? (i := 20) rfl)) rfl) (hw _ (List.mem_of_getElem? (i := 2) rfl)) (hw _ (List.mem_of_getElem? (i := 21) rfl)) (by decide) (o_len pdre rfl) rfl (pc' := 145) at_142 rfl (Nat.le_of_ble_eq_true rfl) (Nat.le_of_ble_eq_true rfl) (Nat.le_of_ble_eq_true rfl) (Nat.le_of_ble_eq_true rfl) (fun v142 h142 hQ142 => ?_)
    obtain ⟨rfl, ys, q1, q2, q3, q4⟩ := hQ142
    dsimp only [oPush]
    first
    | exact K h xs H hs h4 (fun y => ⟨fun q => ⟨q, fun w => w.1 hc136⟩, fun q => q.1⟩)
    | exact K h142 ys q1 q2 q3 (fun y => ⟨fun q => ⟨((q4 y).mp q).1, fun w => ((q4 y).mp q).2 w.2⟩, fun q => (q4 y).mpr ⟨q.1, fun w => q.2 ⟨hc136, w⟩⟩⟩)
set_option maxRecDepth 65536 in
set_option maxHeartbeats 4000000 in
theorem sg145 (Z : State) (n0 : Nat) {C : OCtx} {Q : Option Value → Heap → Prop} {h : Heap} {a b c d q m n z x : Int32} {o : Addr} {s8 s11 s12 : Slot} (K : ∀ w : Int32, ((w = 1 ∧ ((¬ n < 1 ∧ x = a) ∨ (¬ n < 2 ∧ x = b) ∨ (¬ n < 3 ∧ x = c) ∨ (¬ n < 4 ∧ x = d))) ∨ (w = 0 ∧ ¬ ((¬ n < 1 ∧ x = a) ∨ (¬ n < 2 ∧ x = b) ∨ (¬ n < 3 ∧ x = c) ∨ (¬ n < 4 ∧ x = d)))) → oRun C Z n0 i0 Q h 2 6 (mkF C.m 198 #[.val (.int a), .val (.int b), .val (.int c), .val (.int d), .val (.int q), .val (.int m), .val (.int n), .val (.int z), s8, .val (.int x), .val (.ref o), s11, s12] [.int w])) : oRun C Z n0 i0 Q h 2 6 (mkF C.m 145 #[.val (.int a), .val (.int b), .val (.int c), .val (.int d), .val (.int q), .val (.int m), .val (.int n), .val (.int z), s8, .val (.int x), .val (.ref o), s11, s12] []) := by
  refine s_iload (pc' := 147) at_145 rfl rfl ?_
  refine s_iconst (x := (1 : Int32)) (pc' := 148) at_147 rfl rfl ?_
  refine s_icmp (pc' := 151) (pc'' := 157) at_148 rfl (by decide) rfl (fun hc148 => ?_) (fun hc148 => ?_)
  · replace hc148 := b_lt hc148
    refine s_iload (pc' := 159) at_157 rfl rfl ?_
    refine s_iconst (x := (2 : Int32)) (pc' := 160) at_159 rfl rfl ?_
    refine s_icmp (pc' := 163) (pc'' := 169) at_160 rfl (by decide) rfl (fun hc160 => ?_) (fun hc160 => ?_)
    · replace hc160 := b_lt hc160
      refine s_iload (pc' := 171) at_169 rfl rfl ?_
      refine s_iconst (x := (3 : Int32)) (pc' := 172) at_171 rfl rfl ?_
      refine s_icmp (pc' := 175) (pc'' := 181) at_172 rfl (by decide) rfl (fun hc172 => ?_) (fun hc172 => ?_)
      · replace hc172 := b_lt hc172
        refine s_iload (pc' := 183) at_181 rfl rfl ?_
        refine s_iconst (x := (4 : Int32)) (pc' := 184) at_183 rfl rfl ?_
        refine s_icmp (pc' := 187) (pc'' := 197) at_184 rfl (by decide) rfl (fun hc184 => ?_) (fun hc184 => ?_)
        · replace hc184 := b_lt hc184
          refine s_iconst (x := (0 : Int32)) (pc' := 198) at_197 rfl rfl ?_
          first
          | exact K 1 (Or.inl ⟨rfl, by simp_all⟩)
          | exact K 0 (Or.inr ⟨rfl, by simp_all⟩)
        · replace hc184 := b_ltF hc184
          refine s_iload (pc' := 189) at_187 rfl rfl ?_
          refine s_iloadN (pc' := 190) at_189 rfl rfl ?_
          refine s_icmp (pc' := 193) (pc'' := 197) at_190 rfl (by decide) rfl (fun hc190 => ?_) (fun hc190 => ?_)
          · replace hc190 := b_ne hc190
            refine s_iconst (x := (0 : Int32)) (pc' := 198) at_197 rfl rfl ?_
            first
            | exact K 1 (Or.inl ⟨rfl, by simp_all⟩)
            | exact K 0 (Or.inr ⟨rfl, by simp_all⟩)
          · replace hc190 := b_neF hc190
            refine s_iconst (x := (1 : Int32)) (pc' := 194) at_193 rfl rfl ?_
            refine s_goto (pc' := 198) at_194 (by decide) rfl ?_
            first
            | exact K 1 (Or.inl ⟨rfl, by simp_all⟩)
            | exact K 0 (Or.inr ⟨rfl, by simp_all⟩)
      · replace hc172 := b_ltF hc172
        refine s_iload (pc' := 177) at_175 rfl rfl ?_
        refine s_iloadN (pc' := 178) at_177 rfl rfl ?_
        refine s_icmp (pc' := 181) (pc'' := 193) at_178 rfl (by decide) rfl (fun hc178 => ?_) (fun hc178 => ?_)
        · replace hc178 := b_eq hc178
          refine s_iconst (x := (1 : Int32)) (pc' := 194) at_193 rfl rfl ?_
          refine s_goto (pc' := 198) at_194 (by decide) rfl ?_
          first
          | exact K 1 (Or.inl ⟨rfl, by simp_all⟩)
          | exact K 0 (Or.inr ⟨rfl, by simp_all⟩)
        · replace hc178 := b_eqF hc178
          refine s_iload (pc' := 183) at_181 rfl rfl ?_
          refine s_iconst (x := (4 : Int32)) (pc' := 184) at_183 rfl rfl ?_
          refine s_icmp (pc' := 187) (pc'' := 197) at_184 rfl (by decide) rfl (fun hc184 => ?_) (fun hc184 => ?_)
          · replace hc184 := b_lt hc184
            refine s_iconst (x := (0 : Int32)) (pc' := 198) at_197 rfl rfl ?_
            first
            | exact K 1 (Or.inl ⟨rfl, by simp_all⟩)
            | exact K 0 (Or.inr ⟨rfl, by simp_all⟩)
          · replace hc184 := b_ltF hc184
            refine s_iload (pc' := 189) at_187 rfl rfl ?_
            refine s_iloadN (pc' := 190) at_189 rfl rfl ?_
            refine s_icmp (pc' := 193) (pc'' := 197) at_190 rfl (by decide) rfl (fun hc190 => ?_) (fun hc190 => ?_)
            · replace hc190 := b_ne hc190
              refine s_iconst (x := (0 : Int32)) (pc' := 198) at_197 rfl rfl ?_
              first
              | exact K 1 (Or.inl ⟨rfl, by simp_all⟩)
              | exact K 0 (Or.inr ⟨rfl, by simp_all⟩)
            · replace hc190 := b_neF hc190
              refine s_iconst (x := (1 : Int32)) (pc' := 194) at_193 rfl rfl ?_
              refine s_goto (pc' := 198) at_194 (by decide) rfl ?_
              first
              | exact K 1 (Or.inl ⟨rfl, by simp_all⟩)
              | exact K 0 (Or.inr ⟨rfl, by simp_all⟩)
    · replace hc160 := b_ltF hc160
      refine s_iload (pc' := 165) at_163 rfl rfl ?_
      refine s_iloadN (pc' := 166) at_165 rfl rfl ?_
      refine s_icmp (pc' := 169) (pc'' := 193) at_166 rfl (by decide) rfl (fun hc166 => ?_) (fun hc166 => ?_)
      · replace hc166 := b_eq hc166
        refine s_iconst (x := (1 : Int32)) (pc' := 194) at_193 rfl rfl ?_
        refine s_goto (pc' := 198) at_194 (by decide) rfl ?_
        first
        | exact K 1 (Or.inl ⟨rfl, by simp_all⟩)
        | exact K 0 (Or.inr ⟨rfl, by simp_all⟩)
      · replace hc166 := b_eqF hc166
        refine s_iload (pc' := 171) at_169 rfl rfl ?_
        refine s_iconst (x := (3 : Int32)) (pc' := 172) at_171 rfl rfl ?_
        refine s_icmp (pc' := 175) (pc'' := 181) at_172 rfl (by decide) rfl (fun hc172 => ?_) (fun hc172 => ?_)
        · replace hc172 := b_lt hc172
          refine s_iload (pc' := 183) at_181 rfl rfl ?_
          refine s_iconst (x := (4 : Int32)) (pc' := 184) at_183 rfl rfl ?_
          refine s_icmp (pc' := 187) (pc'' := 197) at_184 rfl (by decide) rfl (fun hc184 => ?_) (fun hc184 => ?_)
          · replace hc184 := b_lt hc184
            refine s_iconst (x := (0 : Int32)) (pc' := 198) at_197 rfl rfl ?_
            first
            | exact K 1 (Or.inl ⟨rfl, by simp_all⟩)
            | exact K 0 (Or.inr ⟨rfl, by simp_all⟩)
          · replace hc184 := b_ltF hc184
            refine s_iload (pc' := 189) at_187 rfl rfl ?_
            refine s_iloadN (pc' := 190) at_189 rfl rfl ?_
            refine s_icmp (pc' := 193) (pc'' := 197) at_190 rfl (by decide) rfl (fun hc190 => ?_) (fun hc190 => ?_)
            · replace hc190 := b_ne hc190
              refine s_iconst (x := (0 : Int32)) (pc' := 198) at_197 rfl rfl ?_
              first
              | exact K 1 (Or.inl ⟨rfl, by simp_all⟩)
              | exact K 0 (Or.inr ⟨rfl, by simp_all⟩)
            · replace hc190 := b_neF hc190
              refine s_iconst (x := (1 : Int32)) (pc' := 194) at_193 rfl rfl ?_
              refine s_goto (pc' := 198) at_194 (by decide) rfl ?_
              first
              | exact K 1 (Or.inl ⟨rfl, by simp_all⟩)
              | exact K 0 (Or.inr ⟨rfl, by simp_all⟩)
        · replace hc172 := b_ltF hc172
          refine s_iload (pc' := 177) at_175 rfl rfl ?_
          refine s_iloadN (pc' := 178) at_177 rfl rfl ?_
          refine s_icmp (pc' := 181) (pc'' := 193) at_178 rfl (by decide) rfl (fun hc178 => ?_) (fun hc178 => ?_)
          · replace hc178 := b_eq hc178
            refine s_iconst (x := (1 : Int32)) (pc' := 194) at_193 rfl rfl ?_
            refine s_goto (pc' := 198) at_194 (by decide) rfl ?_
            first
            | exact K 1 (Or.inl ⟨rfl, by simp_all⟩)
            | exact K 0 (Or.inr ⟨rfl, by simp_all⟩)
          · replace hc178 := b_eqF hc178
            refine s_iload (pc' := 183) at_181 rfl rfl ?_
            refine s_iconst (x := (4 : Int32)) (pc' := 184) at_183 rfl rfl ?_
            refine s_icmp (pc' := 187) (pc'' := 197) at_184 rfl (by decide) rfl (fun hc184 => ?_) (fun hc184 => ?_)
            · replace hc184 := b_lt hc184
              refine s_iconst (x := (0 : Int32)) (pc' := 198) at_197 rfl rfl ?_
              first
              | exact K 1 (Or.inl ⟨rfl, by simp_all⟩)
              | exact K 0 (Or.inr ⟨rfl, by simp_all⟩)
            · replace hc184 := b_ltF hc184
              refine s_iload (pc' := 189) at_187 rfl rfl ?_
              refine s_iloadN (pc' := 190) at_189 rfl rfl ?_
              refine s_icmp (pc' := 193) (pc'' := 197) at_190 rfl (by decide) rfl (fun hc190 => ?_) (fun hc190 => ?_)
              · replace hc190 := b_ne hc190
                refine s_iconst (x := (0 : Int32)) (pc' := 198) at_197 rfl rfl ?_
                first
                | exact K 1 (Or.inl ⟨rfl, by simp_all⟩)
                | exact K 0 (Or.inr ⟨rfl, by simp_all⟩)
              · replace hc190 := b_neF hc190
                refine s_iconst (x := (1 : Int32)) (pc' := 194) at_193 rfl rfl ?_
                refine s_goto (pc' := 198) at_194 (by decide) rfl ?_
                first
                | exact K 1 (Or.inl ⟨rfl, by simp_all⟩)
                | exact K 0 (Or.inr ⟨rfl, by simp_all⟩)
  · replace hc148 := b_ltF hc148
    refine s_iload (pc' := 153) at_151 rfl rfl ?_
    refine s_iloadN (pc' := 154) at_153 rfl rfl ?_
    refine s_icmp (pc' := 157) (pc'' := 193) at_154 rfl (by decide) rfl (fun hc154 => ?_) (fun hc154 => ?_)
    · replace hc154 := b_eq hc154
      refine s_iconst (x := (1 : Int32)) (pc' := 194) at_193 rfl rfl ?_
      refine s_goto (pc' := 198) at_194 (by decide) rfl ?_
      first
      | exact K 1 (Or.inl ⟨rfl, by simp_all⟩)
      | exact K 0 (Or.inr ⟨rfl, by simp_all⟩)
    · replace hc154 := b_eqF hc154
      refine s_iload (pc' := 159) at_157 rfl rfl ?_
      refine s_iconst (x := (2 : Int32)) (pc' := 160) at_159 rfl rfl ?_
      refine s_icmp (pc' := 163) (pc'' := 169) at_160 rfl (by decide) rfl (fun hc160 => ?_) (fun hc160 => ?_)
      · replace hc160 := b_lt hc160
        refine s_iload (pc' := 171) at_169 rfl rfl ?_
        refine s_iconst (x := (3 : Int32)) (pc' := 172) at_171 rfl rfl ?_
        refine s_icmp (pc' := 175) (pc'' := 181) at_172 rfl (by decide) rfl (fun hc172 => ?_) (fun hc172 => ?_)
        · replace hc172 := b_lt hc172
          refine s_iload (pc' := 183) at_181 rfl rfl ?_
          refine s_iconst (x := (4 : Int32)) (pc' := 184) at_183 rfl rfl ?_
          refine s_icmp (pc' := 187) (pc'' := 197) at_184 rfl (by decide) rfl (fun hc184 => ?_) (fun hc184 => ?_)
          · replace hc184 := b_lt hc184
            refine s_iconst (x := (0 : Int32)) (pc' := 198) at_197 rfl rfl ?_
            first
            | exact K 1 (Or.inl ⟨rfl, by simp_all⟩)
            | exact K 0 (Or.inr ⟨rfl, by simp_all⟩)
          · replace hc184 := b_ltF hc184
            refine s_iload (pc' := 189) at_187 rfl rfl ?_
            refine s_iloadN (pc' := 190) at_189 rfl rfl ?_
            refine s_icmp (pc' := 193) (pc'' := 197) at_190 rfl (by decide) rfl (fun hc190 => ?_) (fun hc190 => ?_)
            · replace hc190 := b_ne hc190
              refine s_iconst (x := (0 : Int32)) (pc' := 198) at_197 rfl rfl ?_
              first
              | exact K 1 (Or.inl ⟨rfl, by simp_all⟩)
              | exact K 0 (Or.inr ⟨rfl, by simp_all⟩)
            · replace hc190 := b_neF hc190
              refine s_iconst (x := (1 : Int32)) (pc' := 194) at_193 rfl rfl ?_
              refine s_goto (pc' := 198) at_194 (by decide) rfl ?_
              first
              | exact K 1 (Or.inl ⟨rfl, by simp_all⟩)
              | exact K 0 (Or.inr ⟨rfl, by simp_all⟩)
        · replace hc172 := b_ltF hc172
          refine s_iload (pc' := 177) at_175 rfl rfl ?_
          refine s_iloadN (pc' := 178) at_177 rfl rfl ?_
          refine s_icmp (pc' := 181) (pc'' := 193) at_178 rfl (by decide) rfl (fun hc178 => ?_) (fun hc178 => ?_)
          · replace hc178 := b_eq hc178
            refine s_iconst (x := (1 : Int32)) (pc' := 194) at_193 rfl rfl ?_
            refine s_goto (pc' := 198) at_194 (by decide) rfl ?_
            first
            | exact K 1 (Or.inl ⟨rfl, by simp_all⟩)
            | exact K 0 (Or.inr ⟨rfl, by simp_all⟩)
          · replace hc178 := b_eqF hc178
            refine s_iload (pc' := 183) at_181 rfl rfl ?_
            refine s_iconst (x := (4 : Int32)) (pc' := 184) at_183 rfl rfl ?_
            refine s_icmp (pc' := 187) (pc'' := 197) at_184 rfl (by decide) rfl (fun hc184 => ?_) (fun hc184 => ?_)
            · replace hc184 := b_lt hc184
              refine s_iconst (x := (0 : Int32)) (pc' := 198) at_197 rfl rfl ?_
              first
              | exact K 1 (Or.inl ⟨rfl, by simp_all⟩)
              | exact K 0 (Or.inr ⟨rfl, by simp_all⟩)
            · replace hc184 := b_ltF hc184
              refine s_iload (pc' := 189) at_187 rfl rfl ?_
              refine s_iloadN (pc' := 190) at_189 rfl rfl ?_
              refine s_icmp (pc' := 193) (pc'' := 197) at_190 rfl (by decide) rfl (fun hc190 => ?_) (fun hc190 => ?_)
              · replace hc190 := b_ne hc190
                refine s_iconst (x := (0 : Int32)) (pc' := 198) at_197 rfl rfl ?_
                first
                | exact K 1 (Or.inl ⟨rfl, by simp_all⟩)
                | exact K 0 (Or.inr ⟨rfl, by simp_all⟩)
              · replace hc190 := b_neF hc190
                refine s_iconst (x := (1 : Int32)) (pc' := 194) at_193 rfl rfl ?_
                refine s_goto (pc' := 198) at_194 (by decide) rfl ?_
                first
                | exact K 1 (Or.inl ⟨rfl, by simp_all⟩)
                | exact K 0 (Or.inr ⟨rfl, by simp_all⟩)
      · replace hc160 := b_ltF hc160
        refine s_iload (pc' := 165) at_163 rfl rfl ?_
        refine s_iloadN (pc' := 166) at_165 rfl rfl ?_
        refine s_icmp (pc' := 169) (pc'' := 193) at_166 rfl (by decide) rfl (fun hc166 => ?_) (fun hc166 => ?_)
        · replace hc166 := b_eq hc166
          refine s_iconst (x := (1 : Int32)) (pc' := 194) at_193 rfl rfl ?_
          refine s_goto (pc' := 198) at_194 (by decide) rfl ?_
          first
          | exact K 1 (Or.inl ⟨rfl, by simp_all⟩)
          | exact K 0 (Or.inr ⟨rfl, by simp_all⟩)
        · replace hc166 := b_eqF hc166
          refine s_iload (pc' := 171) at_169 rfl rfl ?_
          refine s_iconst (x := (3 : Int32)) (pc' := 172) at_171 rfl rfl ?_
          refine s_icmp (pc' := 175) (pc'' := 181) at_172 rfl (by decide) rfl (fun hc172 => ?_) (fun hc172 => ?_)
          · replace hc172 := b_lt hc172
            refine s_iload (pc' := 183) at_181 rfl rfl ?_
            refine s_iconst (x := (4 : Int32)) (pc' := 184) at_183 rfl rfl ?_
            refine s_icmp (pc' := 187) (pc'' := 197) at_184 rfl (by decide) rfl (fun hc184 => ?_) (fun hc184 => ?_)
            · replace hc184 := b_lt hc184
              refine s_iconst (x := (0 : Int32)) (pc' := 198) at_197 rfl rfl ?_
              first
              | exact K 1 (Or.inl ⟨rfl, by simp_all⟩)
              | exact K 0 (Or.inr ⟨rfl, by simp_all⟩)
            · replace hc184 := b_ltF hc184
              refine s_iload (pc' := 189) at_187 rfl rfl ?_
              refine s_iloadN (pc' := 190) at_189 rfl rfl ?_
              refine s_icmp (pc' := 193) (pc'' := 197) at_190 rfl (by decide) rfl (fun hc190 => ?_) (fun hc190 => ?_)
              · replace hc190 := b_ne hc190
                refine s_iconst (x := (0 : Int32)) (pc' := 198) at_197 rfl rfl ?_
                first
                | exact K 1 (Or.inl ⟨rfl, by simp_all⟩)
                | exact K 0 (Or.inr ⟨rfl, by simp_all⟩)
              · replace hc190 := b_neF hc190
                refine s_iconst (x := (1 : Int32)) (pc' := 194) at_193 rfl rfl ?_
                refine s_goto (pc' := 198) at_194 (by decide) rfl ?_
                first
                | exact K 1 (Or.inl ⟨rfl, by simp_all⟩)
                | exact K 0 (Or.inr ⟨rfl, by simp_all⟩)
          · replace hc172 := b_ltF hc172
            refine s_iload (pc' := 177) at_175 rfl rfl ?_
            refine s_iloadN (pc' := 178) at_177 rfl rfl ?_
            refine s_icmp (pc' := 181) (pc'' := 193) at_178 rfl (by decide) rfl (fun hc178 => ?_) (fun hc178 => ?_)
            · replace hc178 := b_eq hc178
              refine s_iconst (x := (1 : Int32)) (pc' := 194) at_193 rfl rfl ?_
              refine s_goto (pc' := 198) at_194 (by decide) rfl ?_
              first
              | exact K 1 (Or.inl ⟨rfl, by simp_all⟩)
              | exact K 0 (Or.inr ⟨rfl, by simp_all⟩)
            · replace hc178 := b_eqF hc178
              refine s_iload (pc' := 183) at_181 rfl rfl ?_
              refine s_iconst (x := (4 : Int32)) (pc' := 184) at_183 rfl rfl ?_
              refine s_icmp (pc' := 187) (pc'' := 197) at_184 rfl (by decide) rfl (fun hc184 => ?_) (fun hc184 => ?_)
              · replace hc184 := b_lt hc184
                refine s_iconst (x := (0 : Int32)) (pc' := 198) at_197 rfl rfl ?_
                first
                | exact K 1 (Or.inl ⟨rfl, by simp_all⟩)
                | exact K 0 (Or.inr ⟨rfl, by simp_all⟩)
              · replace hc184 := b_ltF hc184
                refine s_iload (pc' := 189) at_187 rfl rfl ?_
                refine s_iloadN (pc' := 190) at_189 rfl rfl ?_
                refine s_icmp (pc' := 193) (pc'' := 197) at_190 rfl (by decide) rfl (fun hc190 => ?_) (fun hc190 => ?_)
                · replace hc190 := b_ne hc190
                  refine s_iconst (x := (0 : Int32)) (pc' := 198) at_197 rfl rfl ?_
                  first
                  | exact K 1 (Or.inl ⟨rfl, by simp_all⟩)
                  | exact K 0 (Or.inr ⟨rfl, by simp_all⟩)
                · replace hc190 := b_neF hc190
                  refine s_iconst (x := (1 : Int32)) (pc' := 194) at_193 rfl rfl ?_
                  refine s_goto (pc' := 198) at_194 (by decide) rfl ?_
                  first
                  | exact K 1 (Or.inl ⟨rfl, by simp_all⟩)
                  | exact K 0 (Or.inr ⟨rfl, by simp_all⟩)
set_option maxRecDepth 65536 in
set_option maxHeartbeats 4000000 in
theorem sg200 (Z : State) (n0 : Nat) {C : OCtx} {Q : Option Value → Heap → Prop} {h : Heap} {a b c d q m n z x : Int32} {o : Addr} {s8 s12 : Slot} {w : Int32} (K : ∀ e : Int32, ((e = 1 ∧ (¬ w = 0 ∧ ¬ (¬ z = 0 ∧ x = b))) ∨ (e = 0 ∧ ¬ (¬ w = 0 ∧ ¬ (¬ z = 0 ∧ x = b)))) → oRun C Z n0 i0 Q h 2 6 (mkF C.m 221 #[.val (.int a), .val (.int b), .val (.int c), .val (.int d), .val (.int q), .val (.int m), .val (.int n), .val (.int z), s8, .val (.int x), .val (.ref o), .val (.int w), s12] [.int e])) : oRun C Z n0 i0 Q h 2 6 (mkF C.m 200 #[.val (.int a), .val (.int b), .val (.int c), .val (.int d), .val (.int q), .val (.int m), .val (.int n), .val (.int z), s8, .val (.int x), .val (.ref o), .val (.int w), s12] []) := by
  refine s_iload (pc' := 202) at_200 rfl rfl ?_
  refine s_if (pc' := 205) (pc'' := 220) at_202 rfl (by decide) rfl (fun hc202 => ?_) (fun hc202 => ?_)
  · replace hc202 := b_eq hc202
    refine s_iconst (x := (0 : Int32)) (pc' := 221) at_220 rfl rfl ?_
    first
    | exact K 1 (Or.inl ⟨rfl, by simp_all⟩)
    | exact K 0 (Or.inr ⟨rfl, by simp_all⟩)
  · replace hc202 := b_eqF hc202
    refine s_iload (pc' := 207) at_205 rfl rfl ?_
    refine s_if (pc' := 210) (pc'' := 216) at_207 rfl (by decide) rfl (fun hc207 => ?_) (fun hc207 => ?_)
    · replace hc207 := b_eq hc207
      refine s_iconst (x := (1 : Int32)) (pc' := 217) at_216 rfl rfl ?_
      refine s_goto (pc' := 221) at_217 (by decide) rfl ?_
      first
      | exact K 1 (Or.inl ⟨rfl, by simp_all⟩)
      | exact K 0 (Or.inr ⟨rfl, by simp_all⟩)
    · replace hc207 := b_eqF hc207
      refine s_iload (pc' := 212) at_210 rfl rfl ?_
      refine s_iloadN (pc' := 213) at_212 rfl rfl ?_
      refine s_icmp (pc' := 216) (pc'' := 220) at_213 rfl (by decide) rfl (fun hc213 => ?_) (fun hc213 => ?_)
      · replace hc213 := b_eq hc213
        refine s_iconst (x := (0 : Int32)) (pc' := 221) at_220 rfl rfl ?_
        first
        | exact K 1 (Or.inl ⟨rfl, by simp_all⟩)
        | exact K 0 (Or.inr ⟨rfl, by simp_all⟩)
      · replace hc213 := b_eqF hc213
        refine s_iconst (x := (1 : Int32)) (pc' := 217) at_216 rfl rfl ?_
        refine s_goto (pc' := 221) at_217 (by decide) rfl ?_
        first
        | exact K 1 (Or.inl ⟨rfl, by simp_all⟩)
        | exact K 0 (Or.inr ⟨rfl, by simp_all⟩)
theorem o_if (P : Prop) [Decidable P] {k : Int32} {l : List Int32} {n : Nat} (hs : Srt l) (hl : l.length ≤ n) : Srt (if P then l else ins k l) ∧ (if P then l else ins k l).length ≤ n + 1 := by
  split
  · exact ⟨hs, by omega⟩
  · exact ⟨srt_ins hs, Nat.le_trans ins_len (by omega)⟩
theorem o_mem (P : Prop) [Decidable P] {k y : Int32} {l : List Int32} : y ∈ (if P then l else ins k l) ↔ (¬ P ∧ y = k) ∨ y ∈ l := by
  split
  · rename_i h; simp [h]
  · rename_i h; simp [h, mem_ins]
theorem law_plain {a b c d n z x w e : Int32} {x1 x2 x3 x4 ys : List Int32} (e1 : x1 = if n < 1 then [] else ins a []) (e2 : x2 = if n < 2 then x1 else ins b x1) (e3 : x3 = if n < 3 then x2 else ins c x2) (e4 : x4 = if n < 4 then x3 else ins d x3)
    (hy : ∀ y, y ∈ ys ↔ y ∈ x4 ∧ ¬ (¬ z = 0 ∧ y = b)) (hin : (w = 1 ∧ ((¬ n < 1 ∧ x = a) ∨ (¬ n < 2 ∧ x = b) ∨ (¬ n < 3 ∧ x = c) ∨ (¬ n < 4 ∧ x = d))) ∨ (w = 0 ∧ ¬ ((¬ n < 1 ∧ x = a) ∨ (¬ n < 2 ∧ x = b) ∨ (¬ n < 3 ∧ x = c) ∨ (¬ n < 4 ∧ x = d)))) (he : (e = 1 ∧ (¬ w = 0 ∧ ¬ (¬ z = 0 ∧ x = b))) ∨ (e = 0 ∧ ¬ (¬ w = 0 ∧ ¬ (¬ z = 0 ∧ x = b)))) : (if x ∈ ys then (1 : Int32) else 0) = e := by
  have hm : x ∈ x4 ↔ ((¬ n < 1 ∧ x = a) ∨ (¬ n < 2 ∧ x = b) ∨ (¬ n < 3 ∧ x = c) ∨ (¬ n < 4 ∧ x = d)) := by
    subst e4 e3 e2 e1
    rw [o_mem, o_mem, o_mem, o_mem]
    simp only [List.not_mem_nil, or_false]
    constructor
    · rintro (h | h | h | h) <;> simp [h]
    · rintro (h | h | h | h) <;> simp [h]
  have h2 := hy x
  rw [hm] at h2
  have h10 : ¬ (1 : Int32) = 0 := by decide
  rcases hin with ⟨rfl, hin⟩ | ⟨rfl, hin⟩
  · rcases he with ⟨rfl, he⟩ | ⟨rfl, he⟩
    · rw [if_pos (h2.mpr ⟨hin, he.2⟩)]
    · rw [if_neg fun q => he ⟨h10, (h2.mp q).2⟩]
  · rcases he with ⟨rfl, he⟩ | ⟨rfl, he⟩
    · exact absurd rfl he.1
    · rw [if_neg fun q => hin (h2.mp q).1]
set_option maxRecDepth 65536 in
set_option maxHeartbeats 4000000 in
theorem rm0 (l : Launch) (Z : State) (a0 : Array Value) (hw : ∀ d ∈ tables_1, d.before a0 Z = true) (n0 : Nat) (a b c d q m : Int32) (h0 : Heap) : oCon l Z n0 x i0 #[.int a, .int b, .int c, .int d, .int q, .int m] h0 (fun v h => v = some (.int 1)) := by
  refine oCon.mk (plainFor_of_name pn0) rfl rfl (ef0 a b c d q m) fun C hC => ?_
  refine s_iload (pc' := 2) at_0 rfl rfl ?_
  refine s_iconst (x := (4 : Int32)) (pc' := 3) at_2 rfl rfl ?_
  refine s_iushr (pc' := 4) at_3 rfl ?_
  refine s_bipush (x := (7 : Int32)) (pc' := 6) at_4 rfl rfl ?_
  refine s_iand (pc' := 7) at_6 rfl ?_
  refine s_iconst (x := (5 : Int32)) (pc' := 8) at_7 rfl rfl ?_
  refine s_irem (pc' := 9) at_8 rfl (by decide) ?_
  refine s_istore (pc' := 11) at_9 rfl (o_st rfl (by first | exact One.u | exact One.val rfl | assumption) rfl) ?_
  dsimp only [List.set_cons_succ, List.set_cons_zero]
  refine sg11 Z n0 fun z hz => ?_
  refine s_istore (pc' := 25) at_23 rfl (o_st rfl (by first | exact One.u | exact One.val rfl | assumption) rfl) ?_
  dsimp only [List.set_cons_succ, List.set_cons_zero]
  refine s_iload (pc' := 27) at_25 rfl rfl ?_
  refine s_iconst (x := (1 : Int32)) (pc' := 28) at_27 rfl rfl ?_
  refine s_iushr (pc' := 29) at_28 rfl ?_
  refine s_bipush (x := (7 : Int32)) (pc' := 31) at_29 rfl rfl ?_
  refine s_iand (pc' := 32) at_31 rfl ?_
  refine s_istore (pc' := 34) at_32 rfl (o_st rfl (by first | exact One.u | exact One.val rfl | assumption) rfl) ?_
  dsimp only [List.set_cons_succ, List.set_cons_zero]
  refine sg34 Z n0 fun x => ?_
  refine s_istore (pc' := 77) at_75 rfl (o_st rfl (by first | exact One.u | exact One.val rfl | assumption) rfl) ?_
  dsimp only [List.set_cons_succ, List.set_cons_zero]
  refine s_new (hw _ (List.mem_of_getElem? (i := 0) rfl)) (hw _ (List.mem_of_getElem? (i := 1) rfl)) (hw _ (List.mem_of_getElem? (i := 2) rfl)) (pc' := 80) at_77 rfl (Nat.le_of_ble_eq_true rfl) (Nat.le_of_ble_eq_true rfl) (fun h77 b77 g77 nb77 E77 A77 D77 => ?_)
  refine s_dup (pc' := 81) at_80 rfl rfl ?_
  refine s_callI0 (rmr1 C.l Z a0 hw n0 b77 _ A77 (D77 (Or.inl (hw _ (List.mem_of_getElem? (i := 14) rfl))) (ty := .array .int) (by decide)) (D77 (Or.inl (hw _ (List.mem_of_getElem? (i := 16) rfl))) (ty := .int) (by decide)) nb77) rfl rfl (hw _ (List.mem_of_getElem? (i := 3) rfl)) (hw _ (List.mem_of_getElem? (i := 4) rfl)) (hw _ (List.mem_of_getElem? (i := 2) rfl)) (hw _ (List.mem_of_getElem? (i := 5) rfl)) (by decide) (o_len pdr1 rfl) rfl (pc' := 84) at_81 rfl (Nat.le_of_ble_eq_true rfl) (Nat.le_of_ble_eq_true rfl) (Nat.le_of_ble_eq_true rfl) (Nat.le_of_ble_eq_true rfl) (fun v81 h81 hQ81 => ?_)
  obtain ⟨rfl, r, k, gr, H⟩ := hQ81
  dsimp only [oPush]
  refine s_astore (pc' := 86) at_84 rfl rfl (o_st rfl (by first | exact One.u | exact One.val rfl | assumption) rfl) ?_
  dsimp only [List.set_cons_succ, List.set_cons_zero]
  refine sg86 C.l Z a0 hw n0 r k [] nb77 gr H List.Pairwise.nil (Nat.zero_le _) fun h1 x1 e1 H1 => ?_
  have p1 : Srt x1 ∧ x1.length ≤ 1 := by rw [e1]; exact o_if _ List.Pairwise.nil (Nat.le_refl 0)
  refine sg98 C.l Z a0 hw n0 r k x1 nb77 gr H1 p1.1 (by omega) fun h2 x2 e2 H2 => ?_
  have p2 : Srt x2 ∧ x2.length ≤ 2 := by rw [e2]; exact o_if _ p1.1 p1.2
  refine sg110 C.l Z a0 hw n0 r k x2 nb77 gr H2 p2.1 (by omega) fun h3 x3 e3 H3 => ?_
  have p3 : Srt x3 ∧ x3.length ≤ 3 := by rw [e3]; exact o_if _ p2.1 p2.2
  refine sg122 C.l Z a0 hw n0 r k x3 nb77 gr H3 p3.1 (by omega) fun h4 x4 e4 H4 => ?_
  have p4 : Srt x4 ∧ x4.length ≤ 4 := by rw [e4]; exact o_if _ p3.1 p3.2
  refine sg134 C.l Z a0 hw n0 r k x4 nb77 gr H4 p4.1 p4.2 fun h5 ys H5 p5 p6 p7 => ?_
  refine sg145 Z n0 fun w hin => ?_
  refine s_istore (pc' := 200) at_198 rfl (o_st rfl (by first | exact One.u | exact One.val rfl | assumption) rfl) ?_
  dsimp only [List.set_cons_succ, List.set_cons_zero]
  refine sg200 Z n0 fun e he => ?_
  refine s_istore (pc' := 223) at_221 rfl (o_st rfl (by first | exact One.u | exact One.val rfl | assumption) rfl) ?_
  dsimp only [List.set_cons_succ, List.set_cons_zero]
  refine s_aload (pc' := 225) at_223 rfl rfl rfl ?_
  refine s_iload (pc' := 227) at_225 rfl rfl ?_
  refine s_callV1 (rmco C.l Z a0 hw n0 b77 r k ys x _ nb77 gr H5 p5 p6) H5.2.2.1 (hw _ (List.mem_of_getElem? (i := 32) rfl)) (hw _ (List.mem_of_getElem? (i := 33) rfl)) (hw _ (List.mem_of_getElem? (i := 35) rfl)) (hw _ (List.mem_of_getElem? (i := 34) rfl)) (o_nf (hw _ (List.mem_of_getElem? (i := 35) rfl)) rfl) (hw _ (List.mem_of_getElem? (i := 2) rfl)) (hw _ (List.mem_of_getElem? (i := 36) rfl)) (by decide) (o_len pdco rfl) rfl (pc' := 230) at_227 rfl (Nat.le_of_ble_eq_true rfl) (Nat.le_of_ble_eq_true rfl) (Nat.le_of_ble_eq_true rfl) (Nat.le_of_ble_eq_true rfl) (fun v227 h227 hQ227 => ?_)
  obtain ⟨rfl, rfl⟩ := hQ227
  dsimp only [oPush]
  refine s_iload (pc' := 232) at_230 rfl rfl ?_
  refine s_icmp (pc' := 235) (pc'' := 239) at_232 rfl (by decide) rfl (fun hc232 => ?_) (fun hc232 => ?_)
  · replace hc232 := b_ne hc232
    exact absurd (law_plain e1 e2 e3 e4 p7 hin he) hc232
  · replace hc232 := b_neF hc232
    refine s_iconst (x := (1 : Int32)) (pc' := 236) at_235 rfl rfl ?_
    refine s_goto (pc' := 240) at_236 (by decide) rfl ?_
    exact s_nret (t := .boolean) rfl (by simp) at_240 (Nat.le_of_ble_eq_true rfl) (Nat.le_of_ble_eq_true rfl) rfl
set_option maxRecDepth 65536 in
set_option maxHeartbeats 4000000 in
theorem comes_1 {Post : Tables → Env → Array Value → State → Outcome → State → Prop} (hpost : ∀ tb e args s v u, (limb_1_1.after args s (.returned v) u = true ∧ limb_1_2.after args s (.returned v) u = true ∧ True) → FrameEnd s (.returned v) u (Jvm.fieldLocs frame_1_writes args s ++ Jvm.arrayLocs frame_1_arrays args s ++ Jvm.staticLocs frame_1_statics s) 16 128 → Post tb e args s (.returned v) u) :
    ArmFor flags0 classFile x code maxLocals ret World_1 tables_1 room_1 Calls_1 rest_1 Pre_1 Post := by
  intro l hfl _ _ p e ha hc hk s m args below hf hA hF happ hP
  obtain ⟨hcalls, hrest, hpre⟩ := hP
  obtain ⟨-, -, -, hnamed, -, -, -, hat⟩ := (Spec.applies_iff hf).mp happ
  obtain ⟨hg, hn⟩ := and_e (Cond.before_iff.mp (show (Jvm.Cond.and given_1 narrow_1).before args s = true from hpre))
  obtain ⟨hcount, hr0⟩ := and_e hg
  obtain ⟨ha0, hr1⟩ := and_e hr0
  obtain ⟨ha1, hr2⟩ := and_e hr1
  obtain ⟨ha2, hr3⟩ := and_e hr2
  obtain ⟨ha3, hr4⟩ := and_e hr3
  obtain ⟨ha4, hr5⟩ := and_e hr4
  have ha5 := hr5
  obtain ⟨w0, w1, w2, w3, w4, w5, rfl⟩ : ∃ w0 w1 w2 w3 w4 w5 : Value, args = #[w0, w1, w2, w3, w4, w5] := by
    have hs : args.size = 6 := by simpa [Cond.value, given_1] using hcount
    obtain ⟨L⟩ := args
    match L, hs with
    | [w0, w1, w2, w3, w4, w5], _ => exact ⟨w0, w1, w2, w3, w4, w5, rfl⟩
  have hw := fun d (hd : d ∈ tables_1) => atoms_spec (ws := Jvm.Cond.code x code maxLocals ret :: tables_1) hat d (List.mem_cons_of_mem _ hd)
  have hfit : Fit s := fun {y c} hc i hi => by
    obtain ⟨ha, rfl⟩ := Array.getElem?_eq_some_iff.mp hc
    have q := List.all_eq_true.mp ((Array.all_eq_true_iff_forall_mem.mp hF) _ (Array.getElem_mem ha)) i (List.mem_range.mpr hi)
    simpa [Array.getElem?_eq_getElem hi] using q
  obtain ⟨i0, e0⟩ := is_v ha0
  obtain rfl : w0 = (.int i0) := Option.some.inj e0
  obtain ⟨i1, e1⟩ := is_v ha1
  obtain rfl : w1 = (.int i1) := Option.some.inj e1
  obtain ⟨i2, e2⟩ := is_v ha2
  obtain rfl : w2 = (.int i2) := Option.some.inj e2
  obtain ⟨i3, e3⟩ := is_v ha3
  obtain rfl : w3 = (.int i3) := Option.some.inj e3
  obtain ⟨i4, e4⟩ := is_v ha4
  obtain rfl : w4 = (.int i4) := Option.some.inj e4
  obtain ⟨i5, e5⟩ := is_v ha5
  obtain rfl : w5 = (.int i5) := Option.some.inj e5
  obtain ⟨n, o, q1, q2, q3, _, L, rfl, ⟨N, -, rfl⟩, hq⟩ := (rm0 l s _ hw s.heap.size i0 i1 i2 i3 i4 i5 s.heap) (Old.start s) tables_1 p e ha hc hk s m _ below hf ((Spec.applies_iff_loose hf).mp happ).1 ⟨rfl, State.Warmed39.refl s, rfl⟩ trivial
  refine ⟨n, _, q1, q2, q3, hpost _ _ _ _ _ _ ⟨Cond.after_iff.mpr rfl, Cond.after_iff.mpr (eq_i res_at (Term.int_eval (1)) rfl), trivial⟩ ⟨hq.1, hq.2.1, (hq.2.2.sift fun y hy => Or.inr (N y hy)).mono (by decide) (by decide)⟩⟩
theorem main_1_1 : Claimed_1_1 := comes_1 fun _ _ _ _ _ _ h hF => ⟨h.1, hF⟩
theorem main_1_2 : Claimed_1_2 := comes_1 fun _ _ _ _ _ _ h hF => ⟨h.2.1, hF⟩
end Jvm.Pilot.@@N@@
namespace Jvm.Pilot.@@N@@
open Jvm Jvm.ClassFile Sem Op Lib Jvm.Free Jvm.Stand Jvm.Pilot.@@N@@.Jvm.D
/-! MADE BY PROGRAM (witnessworld.py) out of the Statement's table words and the real class files: 11 classes; the members and pool entries that the words name. The judged class is class 1, her method 1. -/
namespace start1
open Jvm.ClassFile
def u (s : String) : CpInfo := .utf8 (stringToUtf16 s)
/-- a pool by its gaps: so many unusable entries, then the entry; so many at the end -/
def gap : Nat → List CpInfo → List CpInfo
  | 0, r => r
  | n + 1, r => .unusable :: gap n r
def poolList (es : List (Nat × CpInfo)) (last : Nat) : List CpInfo := es.foldr (fun e r => gap e.1 (e.2 :: r)) (gap last [])
def pool (es : List (Nat × CpInfo)) (last : Nat) : Array CpInfo := ⟨poolList es last⟩
def fileOf (pool : Array CpInfo) (this : Nat) (attrs : Array Attribute := #[]) (ms : Array MethodInfo := #[]) (fl : Nat := 33) (sup : Nat := 0) (ifs : Array Nat := #[]) (fds : Array FieldInfo := #[]) : ClassFile where
  minorVersion := 0
  majorVersion := 65
  constantPool := pool
  accessFlags := fl
  thisClass := this
  superClass := sup
  interfaces := ifs
  fields := fds
  methods := ms
  attributes := attrs
def plain (name : String) (sup : Option ClassId) : Class where
  name := name
  kind := .ordinary
  loader := none
  accessFlags := 33
  super := sup
  interfaces := #[]
  cf := none
  fields := #[]
  methods := #[]
  instanceTypes := #[]
  staticTypes := #[]
  resolved := #[]
  callSites := []
  init := .initialized
  statics := none
  mirror := none

def pool0 : Array CpInfo := pool [(5, u "<init>"), (0, u "()V"), (1, .class_ 10), (1, u "java/lang/Object")] 113

def k0c0 : Code := { maxStack := 0, maxLocals := 1, code := object_method_1_code, exceptionTable := #[], attributes := #[] }
def k0m0 : Method := { name := "<init>", desc := "()V", sig := { parameters := [], returnType := none }, accessFlags := 1, code := some k0c0 }
/-- java/lang/Object -/
def k0 : Class := { plain "java/lang/Object" none with
  accessFlags := 33
  interfaces := #[]
  cf := some (fileOf pool0 8 #[] #[{ accessFlags := 1, nameIndex := 5, descriptorIndex := 6, attributes := #[] }] 33 0 #[] #[])
  fields := #[]
  methods := #[k0m0]
  instanceTypes := #[]
  staticTypes := #[]
  resolved := Array.replicate 124 none
  statics := none }

def pool1 : Array CpInfo := pool [(2, .class_ 4), (0, .nameAndType 5 6), (0, u "java/lang/Object"), (0, u "<init>"), (0, u "()V"), (0, .class_ 8), (0, u "com/example/auscult/auscult/RowSet"), (0, .methodref 7 3), (0, .methodref 7 11), (0, .nameAndType 12 13), (0, u "add"), (0, u "(I)V"), (0, .methodref 7 15), (0, .nameAndType 16 13), (0, u "remove"), (0, .methodref 7 18), (0, .nameAndType 19 20), (0, u "contains"), (0, u "(I)Z"), (0, .class_ 22), (0, u "com/example/auscult/auscult/RowSetContainsPinLaw"), (2, u "law"), (0, u "(IIIIII)Z")] 3

def k1m0 : Method := { name := "<init>", desc := "()V", sig := { parameters := [], returnType := none }, accessFlags := 1, code := none }
def k1c1 : Code := { maxStack := 2, maxLocals := 13, code := code, exceptionTable := #[], attributes := #[] }
def k1m1 : Method := { name := "law", desc := "(IIIIII)Z", sig := { parameters := [.int, .int, .int, .int, .int, .int], returnType := some .boolean }, accessFlags := 9, code := some k1c1 }
/-- com/example/auscult/auscult/RowSetContainsPinLaw -/
def k1 : Class := { plain "com/example/auscult/auscult/RowSetContainsPinLaw" (some 0) with
  accessFlags := 49
  interfaces := #[]
  cf := some (fileOf pool1 21 #[] #[{ accessFlags := 1, nameIndex := 5, descriptorIndex := 6, attributes := #[] }, { accessFlags := 9, nameIndex := 25, descriptorIndex := 26, attributes := #[] }] 49 2 #[] #[])
  fields := #[]
  methods := #[k1m0, k1m1]
  instanceTypes := #[]
  staticTypes := #[]
  resolved := Array.replicate 30 none
  statics := none }

def pool2 : Array CpInfo := pool [(1, .methodref 2 3), (0, .class_ 4), (0, .nameAndType 5 6), (0, u "com/example/auscult/auscult/RowSet"), (0, u "<init>"), (0, u "([II)V"), (0, .methodref 8 9), (0, .class_ 10), (0, .nameAndType 5 11), (0, u "java/lang/Object"), (0, u "()V"), (0, .fieldref 2 13), (0, .nameAndType 14 15), (0, u "rows"), (0, u "[I"), (0, .fieldref 2 17), (0, .nameAndType 18 19), (0, u "size"), (0, u "I"), (0, .methodref 21 22), (0, .class_ 23), (0, .nameAndType 24 25), (0, u "java/util/Arrays"), (0, u "binarySearch"), (0, u "([IIII)I"), (10, .methodref 37 38), (0, .class_ 39), (0, .nameAndType 40 41), (0, u "java/lang/System"), (0, u "arraycopy"), (0, u "(Ljava/lang/Object;ILjava/lang/Object;II)V"), (5, u "(I)Z"), (35, u "contains"), (9, u "add"), (0, u "(I)V"), (0, u "remove")] 17

def k2c0 : Code := { maxStack := 3, maxLocals := 1, code := prog_33_method_1_code, exceptionTable := #[], attributes := #[] }
def k2m0 : Method := { name := "<init>", desc := "()V", sig := { parameters := [], returnType := none }, accessFlags := 0, code := some k2c0 }
def k2c1 : Code := { maxStack := 2, maxLocals := 3, code := prog_33_method_2_code, exceptionTable := #[], attributes := #[] }
def k2m1 : Method := { name := "<init>", desc := "([II)V", sig := { parameters := [(.array .int), .int], returnType := none }, accessFlags := 2, code := some k2c1 }
def k2c2 : Code := { maxStack := 4, maxLocals := 2, code := prog_33_method_5_code, exceptionTable := #[], attributes := #[] }
def k2m2 : Method := { name := "contains", desc := "(I)Z", sig := { parameters := [.int], returnType := some .boolean }, accessFlags := 0, code := some k2c2 }
def k2c3 : Code := { maxStack := 6, maxLocals := 4, code := prog_33_method_7_code, exceptionTable := #[], attributes := #[] }
def k2m3 : Method := { name := "add", desc := "(I)V", sig := { parameters := [.int], returnType := none }, accessFlags := 0, code := some k2c3 }
def k2c4 : Code := { maxStack := 6, maxLocals := 3, code := prog_33_method_8_code, exceptionTable := #[], attributes := #[] }
def k2m4 : Method := { name := "remove", desc := "(I)V", sig := { parameters := [.int], returnType := none }, accessFlags := 0, code := some k2c4 }
/-- com/example/auscult/auscult/RowSet -/
def k2 : Class := { plain "com/example/auscult/auscult/RowSet" (some 0) with
  accessFlags := 48
  interfaces := #[]
  cf := some (fileOf pool2 2 #[] #[{ accessFlags := 0, nameIndex := 5, descriptorIndex := 11, attributes := #[] }, { accessFlags := 2, nameIndex := 5, descriptorIndex := 6, attributes := #[] }, { accessFlags := 0, nameIndex := 83, descriptorIndex := 47, attributes := #[] }, { accessFlags := 0, nameIndex := 93, descriptorIndex := 94, attributes := #[] }, { accessFlags := 0, nameIndex := 95, descriptorIndex := 94, attributes := #[] }] 48 8 #[] #[{ accessFlags := 2, nameIndex := 14, descriptorIndex := 15, attributes := #[] }, { accessFlags := 2, nameIndex := 18, descriptorIndex := 19, attributes := #[] }])
  fields := #[{ name := "rows", type := (.array .int), accessFlags := 2, slot := 0, constantValue := 0 }, { name := "size", type := .int, accessFlags := 2, slot := 1, constantValue := 0 }]
  methods := #[k2m0, k2m1, k2m2, k2m3, k2m4]
  instanceTypes := #[(.array .int), .int]
  staticTypes := #[]
  resolved := Array.replicate 113 none
  statics := none }

def pool3 : Array CpInfo := pool [(2, .class_ 4), (1, u "java/lang/Object"), (0, u "<init>"), (0, u "()V"), (6, .methodref 14 15), (0, .class_ 16), (0, .nameAndType 17 18), (0, u "java/util/Arrays"), (0, u "rangeCheck"), (0, u "(III)V"), (55, .class_ 76), (1, u "java/util/Arrays$NaturalOrder"), (36, .class_ 115), (1, u "java/util/Arrays$LegacyMergeSort"), (1, u "Z"), (89, u "binarySearch0"), (1, .methodref 14 210), (0, .nameAndType 207 211), (0, u "([IIII)I"), (163, .class_ 376), (0, u "java/util/Arrays$ArrayList"), (68, u "$assertionsDisabled"), (269, u "MIN_ARRAY_SORT_GRAN"), (0, u "I"), (2, u "INSERTIONSORT_THRESHOLD"), (74, u "binarySearch"), (180, .class_ 976), (0, u "java/util/Arrays$ArrayItr")] 52

def k3m0 : Method := { name := "<init>", desc := "()V", sig := { parameters := [], returnType := none }, accessFlags := 2, code := none }
def k3c1 : Code := { maxStack := 4, maxLocals := 3, code := jdk_65_method_30_code, exceptionTable := #[], attributes := #[] }
def k3m1 : Method := { name := "rangeCheck", desc := "(III)V", sig := { parameters := [.int, .int, .int], returnType := none }, accessFlags := 8, code := some k3c1 }
def k3c2 : Code := { maxStack := 4, maxLocals := 4, code := jdk_65_method_58_code, exceptionTable := #[], attributes := #[] }
def k3m2 : Method := { name := "binarySearch", desc := "([IIII)I", sig := { parameters := [(.array .int), .int, .int, .int], returnType := some .int }, accessFlags := 9, code := some k3c2 }
def k3c3 : Code := { maxStack := 2, maxLocals := 8, code := jdk_65_method_59_code, exceptionTable := #[], attributes := #[] }
def k3m3 : Method := { name := "binarySearch0", desc := "([IIII)I", sig := { parameters := [(.array .int), .int, .int, .int], returnType := some .int }, accessFlags := 10, code := some k3c3 }
/-- java/util/Arrays -/
def k3 : Class := { plain "java/util/Arrays" (some 0) with
  accessFlags := 49
  interfaces := #[]
  cf := some (fileOf pool3 14 #[.nestMembers #[975, 375, 113, 74]] #[{ accessFlags := 2, nameIndex := 5, descriptorIndex := 6, attributes := #[] }, { accessFlags := 8, nameIndex := 17, descriptorIndex := 18, attributes := #[] }, { accessFlags := 9, nameIndex := 794, descriptorIndex := 211, attributes := #[] }, { accessFlags := 10, nameIndex := 207, descriptorIndex := 211, attributes := #[] }] 49 2 #[] #[{ accessFlags := 26, nameIndex := 715, descriptorIndex := 716, attributes := #[] }, { accessFlags := 26, nameIndex := 719, descriptorIndex := 716, attributes := #[] }, { accessFlags := 4120, nameIndex := 445, descriptorIndex := 117, attributes := #[] }])
  fields := #[{ name := "MIN_ARRAY_SORT_GRAN", type := .int, accessFlags := 26, slot := 0, constantValue := 0 }, { name := "INSERTIONSORT_THRESHOLD", type := .int, accessFlags := 26, slot := 1, constantValue := 0 }, { name := "$assertionsDisabled", type := .boolean, accessFlags := 4120, slot := 2, constantValue := 0 }]
  methods := #[k3m0, k3m1, k3m2, k3m3]
  instanceTypes := #[]
  staticTypes := #[.int, .int, .boolean]
  resolved := Array.replicate 1029 none
  statics := none }

def pool4 : Array CpInfo := pool [(2, .class_ 4), (1, u "java/lang/Object"), (0, u "<init>"), (0, u "()V"), (1, .class_ 10), (1, u "java/lang/System"), (0, u "allowSecurityManager"), (0, u "I"), (16, u "cons"), (0, u "Ljava/io/Console;"), (77, .class_ 110), (1, u "java/lang/System$CallersHolder"), (43, u "initialErrStream"), (0, u "Ljava/io/PrintStream;"), (19, u "security"), (0, u "Ljava/lang/SecurityManager;"), (31, .class_ 209), (0, u "java/lang/System$1"), (7, u "props"), (0, u "Ljava/util/Properties;"), (2, u "lineSeparator"), (0, u "Ljava/lang/String;"), (96, .class_ 321), (1, u "java/lang/System$LoggerFinder"), (5, .class_ 328), (0, u "java/lang/System$Logger"), (67, u "err"), (2, u "out"), (91, u "notSupportedJnuEncoding"), (15, u "in"), (17, u "initialIn"), (0, u "Ljava/io/InputStream;"), (35, u "bootLayer"), (0, u "Ljava/lang/ModuleLayer;"), (99, .class_ 664), (0, u "java/lang/System$2"), (9, u "NEVER"), (2, u "MAYBE"), (49, u "arraycopy"), (0, u "(Ljava/lang/Object;ILjava/lang/Object;II)V"), (72, .class_ 802), (0, u "java/lang/System$Logger$Level")] 31

def k4m0 : Method := { name := "<init>", desc := "()V", sig := { parameters := [], returnType := none }, accessFlags := 2, code := none }
def k4m1 : Method := { name := "arraycopy", desc := "(Ljava/lang/Object;ILjava/lang/Object;II)V", sig := { parameters := [(.object "java/lang/Object"), .int, (.object "java/lang/Object"), .int, .int], returnType := none }, accessFlags := 265, code := none }
/-- java/lang/System -/
def k4 : Class := { plain "java/lang/System" (some 0) with
  accessFlags := 49
  interfaces := #[]
  cf := some (fileOf pool4 8 #[.nestMembers #[319, 327, 801, 108, 663, 208]] #[{ accessFlags := 2, nameIndex := 5, descriptorIndex := 6, attributes := #[] }, { accessFlags := 265, nameIndex := 727, descriptorIndex := 728, attributes := #[] }] 49 2 #[] #[{ accessFlags := 25, nameIndex := 507, descriptorIndex := 526, attributes := #[] }, { accessFlags := 25, nameIndex := 399, descriptorIndex := 155, attributes := #[] }, { accessFlags := 25, nameIndex := 396, descriptorIndex := 155, attributes := #[] }, { accessFlags := 10, nameIndex := 525, descriptorIndex := 526, attributes := #[] }, { accessFlags := 26, nameIndex := 674, descriptorIndex := 12, attributes := #[] }, { accessFlags := 26, nameIndex := 677, descriptorIndex := 12, attributes := #[] }, { accessFlags := 10, nameIndex := 11, descriptorIndex := 12, attributes := #[] }, { accessFlags := 74, nameIndex := 175, descriptorIndex := 176, attributes := #[] }, { accessFlags := 10, nameIndex := 491, descriptorIndex := 222, attributes := #[] }, { accessFlags := 74, nameIndex := 29, descriptorIndex := 30, attributes := #[] }, { accessFlags := 74, nameIndex := 154, descriptorIndex := 155, attributes := #[] }, { accessFlags := 10, nameIndex := 217, descriptorIndex := 218, attributes := #[] }, { accessFlags := 10, nameIndex := 221, descriptorIndex := 222, attributes := #[] }, { accessFlags := 8, nameIndex := 562, descriptorIndex := 563, attributes := #[] }])
  fields := #[{ name := "in", type := (.object "java/io/InputStream"), accessFlags := 25, slot := 0, constantValue := 0 }, { name := "out", type := (.object "java/io/PrintStream"), accessFlags := 25, slot := 1, constantValue := 0 }, { name := "err", type := (.object "java/io/PrintStream"), accessFlags := 25, slot := 2, constantValue := 0 }, { name := "initialIn", type := (.object "java/io/InputStream"), accessFlags := 10, slot := 3, constantValue := 0 }, { name := "NEVER", type := .int, accessFlags := 26, slot := 4, constantValue := 0 }, { name := "MAYBE", type := .int, accessFlags := 26, slot := 5, constantValue := 0 }, { name := "allowSecurityManager", type := .int, accessFlags := 10, slot := 6, constantValue := 0 }, { name := "security", type := (.object "java/lang/SecurityManager"), accessFlags := 74, slot := 7, constantValue := 0 }, { name := "notSupportedJnuEncoding", type := (.object "java/lang/String"), accessFlags := 10, slot := 8, constantValue := 0 }, { name := "cons", type := (.object "java/io/Console"), accessFlags := 74, slot := 9, constantValue := 0 }, { name := "initialErrStream", type := (.object "java/io/PrintStream"), accessFlags := 74, slot := 10, constantValue := 0 }, { name := "props", type := (.object "java/util/Properties"), accessFlags := 10, slot := 11, constantValue := 0 }, { name := "lineSeparator", type := (.object "java/lang/String"), accessFlags := 10, slot := 12, constantValue := 0 }, { name := "bootLayer", type := (.object "java/lang/ModuleLayer"), accessFlags := 8, slot := 13, constantValue := 0 }]
  methods := #[k4m0, k4m1]
  instanceTypes := #[]
  staticTypes := #[(.object "java/io/InputStream"), (.object "java/io/PrintStream"), (.object "java/io/PrintStream"), (.object "java/io/InputStream"), .int, .int, .int, (.object "java/lang/SecurityManager"), (.object "java/lang/String"), (.object "java/io/Console"), (.object "java/io/PrintStream"), (.object "java/util/Properties"), (.object "java/lang/String"), (.object "java/lang/ModuleLayer")]
  resolved := Array.replicate 834 none
  statics := none }

def pool5 : Array CpInfo := pool [(1, u "java/lang/Cloneable"), (0, .class_ 1), (0, u "java/lang/Object"), (0, .class_ 3)] 3

/-- java/lang/Cloneable -/
def k5 : Class := { plain "java/lang/Cloneable" (some 0) with
  accessFlags := 1537
  interfaces := #[]
  cf := some (fileOf pool5 2 #[] #[] 1537 4 #[] #[])
  fields := #[]
  methods := #[]
  instanceTypes := #[]
  staticTypes := #[]
  resolved := Array.replicate 8 none
  statics := none }

def pool6 : Array CpInfo := pool [(1, u "java/io/Serializable"), (0, .class_ 1), (0, u "java/lang/Object"), (0, .class_ 3)] 3

/-- java/io/Serializable -/
def k6 : Class := { plain "java/io/Serializable" (some 0) with
  accessFlags := 1537
  interfaces := #[]
  cf := some (fileOf pool6 2 #[] #[] 1537 4 #[] #[])
  fields := #[]
  methods := #[]
  instanceTypes := #[]
  staticTypes := #[]
  resolved := Array.replicate 8 none
  statics := none }

/-- the primitive byte -/
def k7 : Class := { plain "byte" none with kind := .primitive 'B', accessFlags := 0x411 }
/-- [B -/
def k8 : Class := { plain "[B" (some 0) with kind := .array 7 .byte, interfaces := #[5, 6], accessFlags := 1041 }

/-- the primitive int -/
def k9 : Class := { plain "int" none with kind := .primitive 'I', accessFlags := 0x411 }
/-- [I -/
def k10 : Class := { plain "[I" (some 0) with kind := .array 9 .int, interfaces := #[5, 6], accessFlags := 1041 }

def heap : Heap := #[]
def classes : Array Class := #[k0, k1, k2, k3, k4, k5, k6, k7, k8, k9, k10]
def interned : List (Array UInt16 × Addr) := []
def slotsUsed : Nat := 0
def theMethod : MethodId := ⟨1, 1⟩
def args0 : Array Value := #[.int 5, .int 3, .int 5, .int 1, .int 4, .int 51]
def aboutOver (below : List Frame) : State where
  vm := { classes := classes, interned := interned.toArray }
  heap := heap
  slotsUsed := slotsUsed
  threads := #[{ frames := .invoking theMethod args0 :: below }]
def below0 : List Frame := [.native { method := ⟨0, 0⟩, args := #[] }]
def about1 : State := aboutOver below0
def p0 : Program := .bare "" "" ""
def e0 : Env := launch0.env 0 0 0
theorem w_frames : about1.frames = Frame.invoking theMethod args0 :: below0 := rfl
set_option maxRecDepth 65536 in
theorem w_args : argsFit about1.vm theMethod args0 = true := by decide +kernel
set_option maxRecDepth 65536 in
theorem w_heap : heapFits about1 = true := by decide +kernel
set_option maxRecDepth 65536 in
theorem w_runnable : about1.curStatus? = some .runnable := by decide +kernel
set_option maxRecDepth 65536 in
theorem w_alone : about1.alone = true := by decide +kernel
set_option maxRecDepth 65536 in
theorem w_named : about1.methodNamed? x = some theMethod := by decide +kernel
set_option maxRecDepth 65536 in
theorem w_hears : about1.hears theMethod below0 = true := by decide +kernel
set_option maxRecDepth 65536 in
theorem w_ripe : about1.ripe theMethod args0 below0 = true := by decide +kernel
theorem w_running : about1.status = .running := rfl
set_option maxRecDepth 65536 in
theorem w_room : about1.hasRoom e0.platform room_1 = true :=
  launch0.hasRoom_least _ room_1 (by decide +kernel) (by decide +kernel) (by decide +kernel) (by decide +kernel) (by decide +kernel) (by decide +kernel)
theorem allAtoms_all (ts : List Jvm.Cond) (a : Array Jvm.Value) (st : Jvm.State) : (allAtoms ts).before a st = ts.all (fun c => c.before a st) := by
  induction ts with
  | nil => rfl
  | cons c t ih =>
    show (Jvm.Cond.and c (allAtoms t)).before a st = _
    rw [Jvm.Cond.before_and, ih, List.all_cons]
def words1 : List Jvm.Cond := Jvm.Cond.code x code maxLocals ret :: tables_1
/-- a 'code' word, met by the world's own term for the bytes: nothing is compared byte by byte -/
theorem code_word {y : MethodName} {bytes : ByteArray} {mx : Nat} {rt : Option FieldType} {a : Array Value} {s : State} {m : MethodId} {meth : Method} {c : Code} (h1 : s.methodNamed? y = some m) (h2 : s.vm.method? m = some meth) (h3 : meth.code = some c) (h4 : c.code = bytes)
    (h5 : (c.maxLocals == mx && c.exceptionTable.isEmpty && decide (c.maxStack ≤ mostOperands) && decide (meth.sig.returnType = rt) && !meth.locks && decide (parseMethodDescriptor y.desc = some meth.sig)) = true) : (Jvm.Cond.code y bytes mx rt).before a s = true := by
  simp only [Bool.and_eq_true, beq_iff_eq, Bool.not_eq_true', decide_eq_true_eq] at h5
  obtain ⟨⟨⟨⟨⟨g1, g2⟩, g3⟩, g4⟩, g5⟩, g6⟩ := h5
  simp [Cond.before, Cond.holds, Cond.value, h1, h2, h3, h4, g1, g2, g3, g4, g5, g6]
def isCode : Jvm.Cond → Bool
  | .code _ _ _ _ => true
  | _ => false
theorem all_split {L : List Jvm.Cond} {P : Jvm.Cond → Bool} (h1 : L.all (fun c => isCode c || P c) = true) (h2 : ∀ c ∈ L.filter isCode, P c = true) : L.all P = true := by
  refine List.all_eq_true.mpr fun c hc => ?_
  have h := List.all_eq_true.mp h1 c hc
  rcases Bool.eq_false_or_eq_true (isCode c) with hi | hi
  · exact h2 c (List.mem_filter.mpr ⟨hc, hi⟩)
  · simpa [hi] using h
set_option maxRecDepth 65536 in
theorem w_c0 : (Jvm.Cond.code x code maxLocals ret).before args0 about1 = true := code_word (m := ⟨1, 1⟩) (meth := k1m1) (c := k1c1) (by decide +kernel) rfl rfl rfl (by decide +kernel)
set_option maxRecDepth 65536 in
theorem w_c1 : (Jvm.Cond.code ({ cls := "com/example/auscult/auscult/RowSet", name := "<init>", desc := "()V" } : Jvm.MethodName) prog_33_method_1_code (1 : Nat) (Option.none : Option Jvm.ClassFile.FieldType)).before args0 about1 = true := code_word (m := ⟨2, 0⟩) (meth := k2m0) (c := k2c0) (by decide +kernel) rfl rfl rfl (by decide +kernel)
set_option maxRecDepth 65536 in
theorem w_c2 : (Jvm.Cond.code ({ cls := "com/example/auscult/auscult/RowSet", name := "<init>", desc := "([II)V" } : Jvm.MethodName) prog_33_method_2_code (3 : Nat) (Option.none : Option Jvm.ClassFile.FieldType)).before args0 about1 = true := code_word (m := ⟨2, 1⟩) (meth := k2m1) (c := k2c1) (by decide +kernel) rfl rfl rfl (by decide +kernel)
set_option maxRecDepth 65536 in
theorem w_c3 : (Jvm.Cond.code ({ cls := "java/lang/Object", name := "<init>", desc := "()V" } : Jvm.MethodName) object_method_1_code (1 : Nat) (Option.none : Option Jvm.ClassFile.FieldType)).before args0 about1 = true := code_word (m := ⟨0, 0⟩) (meth := k0m0) (c := k0c0) (by decide +kernel) rfl rfl rfl (by decide +kernel)
set_option maxRecDepth 65536 in
theorem w_c4 : (Jvm.Cond.code ({ cls := "com/example/auscult/auscult/RowSet", name := "remove", desc := "(I)V" } : Jvm.MethodName) prog_33_method_8_code (3 : Nat) (Option.none : Option Jvm.ClassFile.FieldType)).before args0 about1 = true := code_word (m := ⟨2, 4⟩) (meth := k2m4) (c := k2c4) (by decide +kernel) rfl rfl rfl (by decide +kernel)
set_option maxRecDepth 65536 in
theorem w_c5 : (Jvm.Cond.code ({ cls := "java/util/Arrays", name := "binarySearch", desc := "([IIII)I" } : Jvm.MethodName) jdk_65_method_58_code (4 : Nat) (Option.some Jvm.ClassFile.FieldType.int)).before args0 about1 = true := code_word (m := ⟨3, 2⟩) (meth := k3m2) (c := k3c2) (by decide +kernel) rfl rfl rfl (by decide +kernel)
set_option maxRecDepth 65536 in
theorem w_c6 : (Jvm.Cond.code ({ cls := "java/util/Arrays", name := "rangeCheck", desc := "(III)V" } : Jvm.MethodName) jdk_65_method_30_code (3 : Nat) (Option.none : Option Jvm.ClassFile.FieldType)).before args0 about1 = true := code_word (m := ⟨3, 1⟩) (meth := k3m1) (c := k3c1) (by decide +kernel) rfl rfl rfl (by decide +kernel)
set_option maxRecDepth 65536 in
theorem w_c7 : (Jvm.Cond.code ({ cls := "java/util/Arrays", name := "binarySearch0", desc := "([IIII)I" } : Jvm.MethodName) jdk_65_method_59_code (8 : Nat) (Option.some Jvm.ClassFile.FieldType.int)).before args0 about1 = true := code_word (m := ⟨3, 3⟩) (meth := k3m3) (c := k3c3) (by decide +kernel) rfl rfl rfl (by decide +kernel)
set_option maxRecDepth 65536 in
theorem w_c8 : (Jvm.Cond.code ({ cls := "com/example/auscult/auscult/RowSet", name := "contains", desc := "(I)Z" } : Jvm.MethodName) prog_33_method_5_code (2 : Nat) (Option.some Jvm.ClassFile.FieldType.boolean)).before args0 about1 = true := code_word (m := ⟨2, 2⟩) (meth := k2m2) (c := k2c2) (by decide +kernel) rfl rfl rfl (by decide +kernel)
set_option maxRecDepth 65536 in
theorem w_c9 : (Jvm.Cond.code ({ cls := "com/example/auscult/auscult/RowSet", name := "add", desc := "(I)V" } : Jvm.MethodName) prog_33_method_7_code (4 : Nat) (Option.none : Option Jvm.ClassFile.FieldType)).before args0 about1 = true := code_word (m := ⟨2, 3⟩) (meth := k2m3) (c := k2c3) (by decide +kernel) rfl rfl rfl (by decide +kernel)
def codes1 : List Jvm.Cond := [Jvm.Cond.code x code maxLocals ret, Jvm.Cond.code ({ cls := "com/example/auscult/auscult/RowSet", name := "<init>", desc := "()V" } : Jvm.MethodName) prog_33_method_1_code (1 : Nat) (Option.none : Option Jvm.ClassFile.FieldType), Jvm.Cond.code ({ cls := "com/example/auscult/auscult/RowSet", name := "<init>", desc := "([II)V" } : Jvm.MethodName) prog_33_method_2_code (3 : Nat) (Option.none : Option Jvm.ClassFile.FieldType), Jvm.Cond.code ({ cls := "java/lang/Object", name := "<init>", desc := "()V" } : Jvm.MethodName) object_method_1_code (1 : Nat) (Option.none : Option Jvm.ClassFile.FieldType), Jvm.Cond.code ({ cls := "com/example/auscult/auscult/RowSet", name := "remove", desc := "(I)V" } : Jvm.MethodName) prog_33_method_8_code (3 : Nat) (Option.none : Option Jvm.ClassFile.FieldType), Jvm.Cond.code ({ cls := "java/util/Arrays", name := "binarySearch", desc := "([IIII)I" } : Jvm.MethodName) jdk_65_method_58_code (4 : Nat) (Option.some Jvm.ClassFile.FieldType.int), Jvm.Cond.code ({ cls := "java/util/Arrays", name := "rangeCheck", desc := "(III)V" } : Jvm.MethodName) jdk_65_method_30_code (3 : Nat) (Option.none : Option Jvm.ClassFile.FieldType), Jvm.Cond.code ({ cls := "java/util/Arrays", name := "binarySearch0", desc := "([IIII)I" } : Jvm.MethodName) jdk_65_method_59_code (8 : Nat) (Option.some Jvm.ClassFile.FieldType.int), Jvm.Cond.code ({ cls := "com/example/auscult/auscult/RowSet", name := "contains", desc := "(I)Z" } : Jvm.MethodName) prog_33_method_5_code (2 : Nat) (Option.some Jvm.ClassFile.FieldType.boolean), Jvm.Cond.code ({ cls := "com/example/auscult/auscult/RowSet", name := "add", desc := "(I)V" } : Jvm.MethodName) prog_33_method_7_code (4 : Nat) (Option.none : Option Jvm.ClassFile.FieldType)]
set_option maxRecDepth 65536 in
theorem codes_eq : words1.filter isCode = codes1 := rfl
theorem w_codes : ∀ c ∈ words1.filter isCode, c.before args0 about1 = true := by
  rw [codes_eq]
  intro c hc
  simp only [codes1, List.mem_cons, List.not_mem_nil, or_false] at hc
  rcases hc with rfl | rfl | rfl | rfl | rfl | rfl | rfl | rfl | rfl | rfl
  · exact w_c0
  · exact w_c1
  · exact w_c2
  · exact w_c3
  · exact w_c4
  · exact w_c5
  · exact w_c6
  · exact w_c7
  · exact w_c8
  · exact w_c9
set_option maxRecDepth 65536 in
theorem w_t1 : (words1.take 24).all (fun c => isCode c || c.before args0 about1) = true := by decide +kernel
set_option maxRecDepth 65536 in
theorem w_t2 : (words1.drop 24).all (fun c => isCode c || c.before args0 about1) = true := by decide +kernel
theorem w_tables : (allAtoms (Jvm.Cond.code x code maxLocals ret :: tables_1)).before args0 about1 = true := by
  rw [allAtoms_all]
  show words1.all (fun c => c.before args0 about1) = true
  refine all_split ?_ w_codes
  rw [← List.take_append_drop 24 words1, List.all_append, w_t1, w_t2]
  rfl
set_option maxRecDepth 65536 in
theorem w_case : (Jvm.Cond.and given_1 narrow_1).before args0 about1 = true := by decide +kernel
theorem w_applies : (headSpec (Jvm.Cond.code x code maxLocals ret :: tables_1) room_1).applies x e0.platform about1 = true :=
  (Spec.applies_iff w_frames).mpr ⟨w_running, w_runnable, w_alone, w_named, w_hears, w_ripe, w_room, w_tables⟩
theorem atStart : AtStart classFile x code maxLocals ret World_1 tables_1 room_1 Calls_1 rest_1 Pre_1 launch0 p0 e0 about1 theMethod args0 below0 :=
  ⟨lists_1, trivial, launch0.admits_env _ _ _, launch0.least_env, fairChoices_fair.cas, fairChoices_fair.clock, w_frames, w_args, w_heap, w_applies, trivial, trivial, w_case⟩
end start1
theorem witness_1 : WitnessClaimed_1 := ⟨start1.p0, start1.e0, start1.about1, start1.theMethod, start1.args0, start1.below0, start1.atStart⟩
end Jvm.Pilot.@@N@@
