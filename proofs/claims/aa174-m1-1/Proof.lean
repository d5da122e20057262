import JvmDerived
import JvmDerived.Pilot.@@N@@Statement
import JvmDerived.Pilot.@@N@@Code
set_option linter.unusedVariables false
set_option linter.unusedSimpArgs false
namespace Jvm.RoadKit
open Sem ClassFile Op Lib Jvm.Stand Jvm.Free Jvm.LawKit
section New
variable {p : Program} {l : Launch} {e : Env} {R : Room} {s : State} {m : MethodId} {args : Array Value} {below : List Frame} {meth : Method} {c : Code} {T : State} {locs : List Loc} {cells slots : Nat}
theorem retI (X : Stand p l e R s m args below meth c T locs cells slots) (hx : p.tables.exec = Jvm.exec) {pc : Nat} {Ls : Array Slot} {z : Int32} {rest : List Value} (hret : meth.sig.returnType = some .int) (hd : decode c.code pc = .ok (.ireturn, 1)) {fs : List Frame}
    (hl : ∀ (f : JFrame) (acts : List Action), f.method = m → f.locked = none → f.entered = [] → (doReturn e (T.setTop f) acts (some (.int z))).1 = T.setFrames fs) : Steps p.tables e below (T.setTop (mkF m pc Ls (.int z :: rest))) (T.setFrames fs) := by
  have hm' : T.vm.method? m = some meth := X.method'
  have hn : narrow .int (.int z) = .int z := rfl
  show Steps p.tables e below (T.setTop { method := m, pc := pc, locals := Ls, stack := _ :: rest, locked := none }) _
  jvm_step X.here [X.here.top, hx, hd, hm', hret, hn]
  first | (intro acts; rw [hl _ acts rfl rfl rfl]) | rw [hl _ _ rfl rfl rfl]
  exact Steps.refl _
end New
end Jvm.RoadKit
namespace Jvm.Pilot.@@N@@
open Jvm Jvm.ClassFile Sem Op Lib Jvm.Free Jvm.Stand Jvm.LawKit Jvm.RoadKit Bundle Jvm.Pilot.@@N@@.Jvm.D
-- OWN CORE: a calculus of runs over the library's Stand (lawnew's family)
abbrev OCtx := Program × Launch × Env × State × MethodId × Array Value × List Frame × Method × Code
def OCtx.p (C : OCtx) : Program := C.1
def OCtx.l (C : OCtx) : Launch := C.2.1
def OCtx.e (C : OCtx) : Env := C.2.2.1
def OCtx.s (C : OCtx) : State := C.2.2.2.1
def OCtx.m (C : OCtx) : MethodId := C.2.2.2.2.1
def OCtx.args (C : OCtx) : Array Value := C.2.2.2.2.2.1
def OCtx.below (C : OCtx) : List Frame := C.2.2.2.2.2.2.1
def OCtx.meth (C : OCtx) : Method := C.2.2.2.2.2.2.2.1
def OCtx.c (C : OCtx) : Code := C.2.2.2.2.2.2.2.2
-- a body: its class, bytes, locals, return type, name, room
abbrev OInfo := String × ByteArray × Nat × Option FieldType × String × Room
abbrev OInfo.own (I : OInfo) : String := I.1
abbrev OInfo.bytes (I : OInfo) : ByteArray := I.2.1
abbrev OInfo.ml (I : OInfo) : Nat := I.2.2.1
abbrev OInfo.ret (I : OInfo) : Option FieldType := I.2.2.2.1
abbrev OInfo.mn (I : OInfo) : String := I.2.2.2.2.1
abbrev OInfo.R (I : OInfo) : Room := I.2.2.2.2.2
-- where a run stands
def oK (C : OCtx) (s0 : State) (Z : State) (n0 : Nat) (I : OInfo) (T : State) (locs : List Loc) (cs sl : Nat) (h : Heap) : Prop :=
  Stand C.p C.l C.e I.R s0 C.m C.args C.below C.meth C.c T locs cs sl ∧ C.p.tables.exec = Jvm.exec ∧ Z.Warmed39 s0.vm ∧ s0.vm.findClass I.own = some C.m.cls ∧ C.c.code = I.bytes ∧ C.c.maxLocals = I.ml ∧
  C.meth.sig.returnType = I.ret ∧ C.meth.name = I.mn ∧ C.meth.locks = false ∧ T.heap = h ∧ Fr n0 locs ∧ Old Z n0 h
theorem o_fresh {a b : Addr} {h : Heap} (q : a < h.size) (g : b = h.size) : a ≠ b := fun e => by subst e; rw [g] at q; exact Nat.lt_irrefl _ q
theorem o_fresh' {a b : Addr} {n : Nat} (q : a < n) (g : n ≤ b) : a ≠ b := fun e => by subst e; exact Nat.lt_irrefl _ (Nat.lt_of_lt_of_le q g)
theorem o_le {Z : State} {n0 : Nat} {h : Heap} (O : Old Z n0 h) : n0 ≤ h.size := O.1 ▸ O.2.1
-- what goes along: the tables' literals say their texts; ws: cells that no literal holds
def wX (C : OCtx) (Z : State) (EL : List (String × Nat)) (ws : List Addr) (vm0 : Vm) (h : Heap) : Prop := (∃ a0, EW Z a0 EL) ∧ (∃ k0, C.s.Since vm0 k0 ∧ k0 ≤ h.size) ∧ CHr Z EL C.s.vm C.s.heap vm0 h ∧ ∀ x ∈ ws, Safe Z EL vm0 h x ∧ x < h.size
def oRun (C : OCtx) (Z : State) (n0 : Nat) (I : OInfo) (EL : List (String × Nat)) (ws : List Addr) (Q : Option Value → Heap → Prop) (h : Heap) (cs sl : Nat) (g : JFrame) : Prop :=
  ∀ vm0 T locs, oK C (C.s.setVm vm0) Z n0 I T locs cs sl h → wX C Z EL ws vm0 h → ∃ t o, Steps C.p.tables C.e C.below (T.setTop g) t ∧ t.status = .running ∧ Ended t C.below o ∧ (∃ v L, o = .returned v ∧ (Fr n0 L ∧ Old Z n0 t.heap ∧ Q v t.heap) ∧ CHr Z EL C.s.vm C.s.heap t.vm t.heap ∧ ReturnedEndW C.s o t L I.R.cells I.R.slots)
def oCon (l : Launch) (Z : State) (n0 : Nat) (EL : List (String × Nat)) (ws : List Addr) (y : MethodName) (I : OInfo) (as' : Array Value) (h0 : Heap) (Q : Option Value → Heap → Prop) : Prop :=
  Old Z n0 h0 → ∀ wc, MetFree l y (head1 (Jvm.Cond.code y I.bytes I.ml I.ret :: wc) I.R) (fun a U => a = as' ∧ Z.Warmed39 U.vm ∧ U.heap = h0 ∧ CHv Z EL U.vm h0 ∧ ∀ x ∈ ws, Safe Z EL U.vm h0 x ∧ x < h0.size) (fun _ _ _ _ _ => True)
    (fun _ U o U' => ∃ v L, o = .returned v ∧ (Fr n0 L ∧ Old Z n0 U'.heap ∧ Q v U'.heap) ∧ CHr Z EL U.vm U.heap U'.vm U'.heap ∧ ReturnedEndW U o U' L I.R.cells I.R.slots)
theorem oCon.mk {l : Launch} {Z : State} {n0 : Nat} {EL : List (String × Nat)} {ws : List Addr} {y : MethodName} {I : OInfo} {as' : Array Value} {h0 : Heap} {Q : Option Value → Heap → Prop} {a0 : Array Value} (hEL : EW Z a0 EL) (hp : plainFor y = true) (hy1 : y.cls = I.own) (hy2 : y.name = I.mn) {Ls : Array Slot} (ef : ∀ m, entryFrame m as' I.ml = mkF m 0 Ls [])
    (body : ∀ C : OCtx, C.l = l → oRun C Z n0 I EL ws Q h0 0 0 (mkF C.m 0 Ls [])) : oCon l Z n0 EL ws y I as' h0 Q := by
  intro hn wc
  refine MetFree.of_bodySF hp hisR ?_
  intro p e s m args below meth c s₁ Bd hml0 hP hK
  obtain ⟨rfl, hZ, hh, hC, hS⟩ := hP
  have hown : s.vm.findClass I.own = some m.cls := by rw [← hy1]; exact findClass_of_methodNamed Bd.named
  have hnm : meth.name = I.mn := by rw [← hy2]; exact (name_of_methodNamed Bd.named Bd.method).1
  have e0 : s₁.heap = h0 := by rw [← hh, Bd.state]; rfl
  have X0 : Stand p l e I.R s m args below meth c s₁ [] 0 0 := Stand.of_body Bd
  subst hh
  have r := body (p, l, e, s, m, args, below, meth, c) rfl s.vm s₁ [] ⟨X0, Bd.exec, hZ, hown, Bd.bytes, hml0, Bd.returns, hnm, Bd.notSynchronized, e0, Fr.nil n0, hn⟩ ⟨⟨a0, hEL⟩, ⟨0, (State.WarmedH.refl s).since 0, Nat.zero_le _⟩, CHr.refl hC, hS⟩
  obtain ⟨t, o, h1, h2, h3, h4⟩ := r
  refine ⟨t, o, castTop (ef m) h1, h2, h3, h4⟩
theorem wX.step {C : OCtx} {Z : State} {EL : List (String × Nat)} {ws : List Addr} {vm0 vm1 : Vm} {h h' : Heap} (V : wX C Z EL ws vm0 h) (R : CHr Z EL vm0 h vm1 h') (S : ∃ k0, C.s.Since vm1 k0 ∧ k0 ≤ h'.size) : wX C Z EL ws vm1 h' :=
  ⟨V.1, S, V.2.2.1.trans R, fun x hx => ⟨R.safe (V.2.2.2 x hx).2 (V.2.2.2 x hx).1, Nat.lt_of_lt_of_le (V.2.2.2 x hx).2 R.2.1⟩⟩
theorem wX.move {C : OCtx} {Z : State} {EL : List (String × Nat)} {ws : List Addr} {vm0 : Vm} {h h' : Heap} (V : wX C Z EL ws vm0 h) (R : CHr Z EL vm0 h vm0 h') : wX C Z EL ws vm0 h' := by
  obtain ⟨k0, q1, q2⟩ := V.2.1
  exact V.step R ⟨k0, q1, Nat.le_trans q2 R.2.1⟩
theorem wX.wr {C : OCtx} {Z : State} {EL : List (String × Nat)} {ws : List Addr} {vm0 : Vm} {h h' : Heap} {a : Addr} {sl : Nat} {v : Value} (V : wX C Z EL ws vm0 h) (W : Wr h h' a sl v) (hs : a ∈ ws) : wX C Z EL ws vm0 h' := V.move (CHr.wr W (V.2.2.2 a hs).1 V.2.2.1.1)
theorem wX.ext {C : OCtx} {Z : State} {EL : List (String × Nat)} {ws : List Addr} {vm0 : Vm} {h h' : Heap} (V : wX C Z EL ws vm0 h) (E : Ext h h') : wX C Z EL ws vm0 h' := V.move (CHr.ext E V.2.2.1.1)
theorem wX.new {C : OCtx} {Z : State} {EL : List (String × Nat)} {ws : List Addr} {vm0 : Vm} {h h' : Heap} {a : Addr} (V : wX C Z EL ws vm0 h) (E : Ext h h') (ha : a = h.size) (hlt : a < h'.size) : wX C Z EL (a :: ws) vm0 h' := by
  have V' := V.ext E
  refine ⟨V'.1, V'.2.1, V'.2.2.1, fun x hx => ?_⟩
  rcases List.mem_cons.mp hx with rfl | hx
  · exact ⟨Safe.ext E V.2.2.1.1 (Safe.new (Nat.le_of_eq ha.symm)), hlt⟩
  · exact V'.2.2.2 x hx
theorem wX.sub {C : OCtx} {Z : State} {EL : List (String × Nat)} {ws ws' : List Addr} {vm0 : Vm} {h : Heap} (V : wX C Z EL ws vm0 h) (q : ∀ x ∈ ws', x ∈ ws) : wX C Z EL ws' vm0 h := ⟨V.1, V.2.1, V.2.2.1, fun x hx => V.2.2.2 x (q x hx)⟩
-- a callee's contract pays a call (over the library's BackS.of_freeW)
theorem o_back {p : Program} {l : Launch} {e : Env} {R : Room} {s : State} {args : Array Value} {below : List Frame} {Z : State} {a0 : Array Value} {EL : List (String × Nat)} {ws : List Addr} {h : Heap} {vm0 : Vm} {n0 : Nat} {y : MethodName} {J : OInfo} {W : Nat} {as' : Array Value} {Q : Option Value → Heap → Prop}
    (hM : oCon l Z n0 EL ws y J as' h Q) (hn : Old Z n0 h) (hZ : Z.Warmed39 vm0) (wc : (Jvm.Cond.code y J.bytes J.ml J.ret).before a0 Z = true) (wz : (Jvm.Cond.initialized y.cls).before a0 Z = true) (hf : J.R.frames + 1 ≤ R.frames) (hl : W + (J.ml + 11) + J.R.locals ≤ R.locals) {a1 : Array Value} (hEL : EW Z a1 EL) (H : CHv Z EL vm0 h) (hS : ∀ x ∈ ws, Safe Z EL vm0 h x ∧ x < h.size) {len : Nat} :
    BackS l R p e below (s.setVm vm0) args y len W (fun A a => a = as' ∧ A.U.heap = h ∧ A.cells + J.R.cells ≤ R.cells ∧ A.slots + J.R.slots ≤ R.slots)
      (fun A _ v B => ∃ L, (Fr n0 L ∧ Old Z n0 B.U.heap ∧ Q v B.U.heap) ∧ B.locs = A.locs ++ L ∧ B.cells = A.cells + J.R.cells ∧ B.slots = A.slots + J.R.slots ∧ CHr Z EL vm0 h B.U.vm B.U.heap) :=
  BackS.of_freeW (bytes := J.bytes) (maxL := J.ml) (ret := J.ret) (E := fun _ first o t L k n => k = J.R.cells ∧ n = J.R.slots ∧ (∃ v, o = .returned v ∧ (Fr n0 L ∧ Old Z n0 t.heap ∧ Q v t.heap)) ∧ CHr Z EL first.vm first.heap t.vm t.heap) (hM hn []) hf hl
    (fun m meth c A a Y hp => by
      have hU : Z.Warmed39 A.U.vm := wtrans (s := s.setVm vm0) hZ Y.warmed
      refine ⟨?_, mv hU wc, mv hU wz, hp.2.2.1, hp.2.2.2⟩
      show (Jvm.Cond.and _ .tt).before a A.U = true
      rw [Cond.before_and, mv hU wc]; rfl)
    (fun m meth c A a g mk Y hp => ⟨hp.1, wtrans (s := s.setVm vm0) hZ Y.warmed, hp.2.1, (CHv.at Y hZ hEL H).1, fun x hx => ⟨(CHv.at Y hZ hEL H).safe (hS x hx).2 (hS x hx).1, (hS x hx).2⟩⟩) (fun _ _ _ _ _ _ _ _ _ => trivial)
    (fun _ _ _ _ q => by obtain ⟨v, L, h1, h2, h3, h4⟩ := q; exact ⟨L, _, _, h4, rfl, rfl, ⟨v, h1, h2⟩, h3⟩)
    (fun m meth c A a g mk v t L k n Y hp _ _ q => by
      obtain ⟨e1, e2, ⟨v', e3, e4⟩, e5⟩ := q
      cases e3; subst e1 e2
      refine ⟨L, e4, rfl, rfl, rfl, (CHv.at Y hZ hEL H).trans ?_⟩
      rw [← hp.2.1]; exact e5)
section OwnCore
variable {C : OCtx} {Z : State} {n0 : Nat} {I : OInfo} {EL : List (String × Nat)} {ws : List Addr} {Q : Option Value → Heap → Prop} {h : Heap} {cs sl pc pc' : Nat} {L : Array Slot} {S : List Value} {x y : Int32}
theorem oStep {g g' : JFrame} (st : ∀ {s0 : State} T locs, oK C s0 Z n0 I T locs cs sl h → ∀ t, Steps C.p.tables C.e C.below (T.setTop g') t → Steps C.p.tables C.e C.below (T.setTop g) t) (r : oRun C Z n0 I EL ws Q h cs sl g') : oRun C Z n0 I EL ws Q h cs sl g := by
  intro vm0 T locs K V
  obtain ⟨t, o, h1, h2⟩ := r vm0 T locs K V
  exact ⟨t, o, st T locs K t h1, h2⟩
theorem oMove {g g' : JFrame} (st : ∀ {s0 : State} T locs, oK C s0 Z n0 I T locs cs sl h → ∃ T' locs', oK C s0 Z n0 I T' locs' cs sl h ∧ ∀ t, Steps C.p.tables C.e C.below (T'.setTop g') t → Steps C.p.tables C.e C.below (T.setTop g) t) (r : oRun C Z n0 I EL ws Q h cs sl g') : oRun C Z n0 I EL ws Q h cs sl g := by
  intro vm0 T locs K V
  obtain ⟨T', locs', K', st'⟩ := st T locs K
  obtain ⟨t, o, h1, h2⟩ := r vm0 T' locs' K' V
  exact ⟨t, o, st' t h1, h2⟩
theorem s_aloadN {k : Fin 4} {v : Value} (hd : decode I.bytes pc = .ok (.aload_n k, 1)) (hq : pc + 1 = pc') (hl : L[k.val]? = some (.val v)) (hv : v.isRef = true) (r : oRun C Z n0 I EL ws Q h cs sl (mkF C.m pc' L (v :: S))) : oRun C Z n0 I EL ws Q h cs sl (mkF C.m pc L S) := by
  subst hq; exact oStep (fun T locs K t kt => XS.aloadN K.1.here K.2.1 rfl (hb K.2.2.2.2.1 hd) hl hv kt) r
theorem s_aload {k : Nat} {v : Value} (hd : decode I.bytes pc = .ok (.aload k, 2)) (hq : pc + 2 = pc') (hl : L[k]? = some (.val v)) (hv : v.isRef = true) (r : oRun C Z n0 I EL ws Q h cs sl (mkF C.m pc' L (v :: S))) : oRun C Z n0 I EL ws Q h cs sl (mkF C.m pc L S) := by
  subst hq; exact oStep (fun T locs K t kt => XS.aload K.1.here K.2.1 rfl (hb K.2.2.2.2.1 hd) hl hv kt) r
theorem s_iloadN {k : Fin 4} (hd : decode I.bytes pc = .ok (.iload_n k, 1)) (hq : pc + 1 = pc') (hl : L[k.val]? = some (.val (.int x))) (r : oRun C Z n0 I EL ws Q h cs sl (mkF C.m pc' L (.int x :: S))) : oRun C Z n0 I EL ws Q h cs sl (mkF C.m pc L S) := by
  subst hq; exact oStep (fun T locs K t kt => XS.iloadN K.1.here K.2.1 rfl (hb K.2.2.2.2.1 hd) hl kt) r
theorem s_iload {k : Nat} (hd : decode I.bytes pc = .ok (.iload k, 2)) (hq : pc + 2 = pc') (hl : L[k]? = some (.val (.int x))) (r : oRun C Z n0 I EL ws Q h cs sl (mkF C.m pc' L (.int x :: S))) : oRun C Z n0 I EL ws Q h cs sl (mkF C.m pc L S) := by
  subst hq; exact oStep (fun T locs K t kt => XS.iload K.1.here K.2.1 rfl (hb K.2.2.2.2.1 hd) hl kt) r
theorem s_iconst {i : Int} (hd : decode I.bytes pc = .ok (.iconst i, 1)) (hq : pc + 1 = pc') (hx : Int32.ofInt i = x) (r : oRun C Z n0 I EL ws Q h cs sl (mkF C.m pc' L (.int x :: S))) : oRun C Z n0 I EL ws Q h cs sl (mkF C.m pc L S) := by
  subst hq hx; exact oStep (fun T locs K t kt => XS.iconst K.1.here K.2.1 rfl (hb K.2.2.2.2.1 hd) kt) r
theorem s_bipush {i : Int} (hd : decode I.bytes pc = .ok (.bipush i, 2)) (hq : pc + 2 = pc') (hx : (Int8.ofInt i).toInt32 = x) (r : oRun C Z n0 I EL ws Q h cs sl (mkF C.m pc' L (.int x :: S))) : oRun C Z n0 I EL ws Q h cs sl (mkF C.m pc L S) := by
  subst hq hx; exact oStep (fun T locs K t kt => XS.bipush K.1.here K.2.1 rfl (hb K.2.2.2.2.1 hd) kt) r
theorem s_sipush {i : Int} (hd : decode I.bytes pc = .ok (.sipush i, 3)) (hq : pc + 3 = pc') (hx : (Int16.ofInt i).toInt32 = x) (r : oRun C Z n0 I EL ws Q h cs sl (mkF C.m pc' L (.int x :: S))) : oRun C Z n0 I EL ws Q h cs sl (mkF C.m pc L S) := by
  subst hq hx; exact oStep (fun T locs K t kt => XS.sipush K.1.here K.2.1 rfl (hb K.2.2.2.2.1 hd) kt) r
theorem s_null (hd : decode I.bytes pc = .ok (.aconst_null, 1)) (hq : pc + 1 = pc') (r : oRun C Z n0 I EL ws Q h cs sl (mkF C.m pc' L (.null :: S))) : oRun C Z n0 I EL ws Q h cs sl (mkF C.m pc L S) := by
  subst hq; exact oStep (fun T locs K t kt => XS.aconstNull K.1.here K.2.1 rfl (hb K.2.2.2.2.1 hd) kt) r
theorem s_iadd (hd : decode I.bytes pc = .ok (.iadd, 1)) (hq : pc + 1 = pc') (r : oRun C Z n0 I EL ws Q h cs sl (mkF C.m pc' L (.int (x + y) :: S))) : oRun C Z n0 I EL ws Q h cs sl (mkF C.m pc L (.int y :: .int x :: S)) := by
  subst hq; exact oStep (fun T locs K t kt => XS.iadd K.1.here K.2.1 rfl (hb K.2.2.2.2.1 hd) rfl kt) r
theorem s_isub (hd : decode I.bytes pc = .ok (.isub, 1)) (hq : pc + 1 = pc') (r : oRun C Z n0 I EL ws Q h cs sl (mkF C.m pc' L (.int (x - y) :: S))) : oRun C Z n0 I EL ws Q h cs sl (mkF C.m pc L (.int y :: .int x :: S)) := by
  subst hq; exact oStep (fun T locs K t kt => XS.isub K.1.here K.2.1 rfl (hb K.2.2.2.2.1 hd) rfl kt) r
theorem s_imul (hd : decode I.bytes pc = .ok (.imul, 1)) (hq : pc + 1 = pc') (r : oRun C Z n0 I EL ws Q h cs sl (mkF C.m pc' L (.int (x * y) :: S))) : oRun C Z n0 I EL ws Q h cs sl (mkF C.m pc L (.int y :: .int x :: S)) := by
  subst hq; exact oStep (fun T locs K t kt => XS.imul K.1.here K.2.1 rfl (hb K.2.2.2.2.1 hd) rfl kt) r
theorem s_idiv (hd : decode I.bytes pc = .ok (.idiv, 1)) (hq : pc + 1 = pc') (hy : y ≠ 0) (r : oRun C Z n0 I EL ws Q h cs sl (mkF C.m pc' L (.int (x / y) :: S))) : oRun C Z n0 I EL ws Q h cs sl (mkF C.m pc L (.int y :: .int x :: S)) := by
  subst hq; exact oStep (fun T locs K t kt => XS.idiv K.1.here K.2.1 rfl (hb K.2.2.2.2.1 hd) rfl hy kt) r
theorem o_rem (x y : Int32) : x - (x / y) * y = x % y := irem_eq_mod x y
theorem s_irem (hd : decode I.bytes pc = .ok (.irem, 1)) (hq : pc + 1 = pc') (hy : y ≠ 0) (r : oRun C Z n0 I EL ws Q h cs sl (mkF C.m pc' L (.int (x % y) :: S))) : oRun C Z n0 I EL ws Q h cs sl (mkF C.m pc L (.int y :: .int x :: S)) := by
  subst hq; rw [← o_rem] at r; exact oStep (fun T locs K t kt => XS.irem K.1.here K.2.1 rfl (hb K.2.2.2.2.1 hd) rfl hy kt) r
theorem s_ineg (hd : decode I.bytes pc = .ok (.ineg, 1)) (hq : pc + 1 = pc') (r : oRun C Z n0 I EL ws Q h cs sl (mkF C.m pc' L (.int (-x) :: S))) : oRun C Z n0 I EL ws Q h cs sl (mkF C.m pc L (.int x :: S)) := by
  subst hq; exact oStep (fun T locs K t kt => XS.ineg K.1.here K.2.1 rfl (hb K.2.2.2.2.1 hd) rfl kt) r
theorem s_iand (hd : decode I.bytes pc = .ok (.iand, 1)) (hq : pc + 1 = pc') (r : oRun C Z n0 I EL ws Q h cs sl (mkF C.m pc' L (.int (x &&& y) :: S))) : oRun C Z n0 I EL ws Q h cs sl (mkF C.m pc L (.int y :: .int x :: S)) := by
  subst hq; exact oStep (fun T locs K t kt => XS.iand K.1.here K.2.1 rfl (hb K.2.2.2.2.1 hd) rfl kt) r
theorem s_ior (hd : decode I.bytes pc = .ok (.ior, 1)) (hq : pc + 1 = pc') (r : oRun C Z n0 I EL ws Q h cs sl (mkF C.m pc' L (.int (x ||| y) :: S))) : oRun C Z n0 I EL ws Q h cs sl (mkF C.m pc L (.int y :: .int x :: S)) := by
  subst hq; exact oStep (fun T locs K t kt => XT.ior K.1.here K.2.1 rfl (hb K.2.2.2.2.1 hd) rfl kt) r
theorem s_ixor (hd : decode I.bytes pc = .ok (.ixor, 1)) (hq : pc + 1 = pc') (r : oRun C Z n0 I EL ws Q h cs sl (mkF C.m pc' L (.int (x ^^^ y) :: S))) : oRun C Z n0 I EL ws Q h cs sl (mkF C.m pc L (.int y :: .int x :: S)) := by
  subst hq; exact oStep (fun T locs K t kt => XT.ixor K.1.here K.2.1 rfl (hb K.2.2.2.2.1 hd) rfl kt) r
theorem s_ishl (hd : decode I.bytes pc = .ok (.ishl, 1)) (hq : pc + 1 = pc') (r : oRun C Z n0 I EL ws Q h cs sl (mkF C.m pc' L (.int (x <<< (y &&& 31)) :: S))) : oRun C Z n0 I EL ws Q h cs sl (mkF C.m pc L (.int y :: .int x :: S)) := by
  subst hq; exact oStep (fun T locs K t kt => XT.ishl K.1.here K.2.1 rfl (hb K.2.2.2.2.1 hd) rfl kt) r
theorem s_ishr (hd : decode I.bytes pc = .ok (.ishr, 1)) (hq : pc + 1 = pc') (r : oRun C Z n0 I EL ws Q h cs sl (mkF C.m pc' L (.int (x >>> (y &&& 31)) :: S))) : oRun C Z n0 I EL ws Q h cs sl (mkF C.m pc L (.int y :: .int x :: S)) := by
  subst hq; exact oStep (fun T locs K t kt => XT.ishr K.1.here K.2.1 rfl (hb K.2.2.2.2.1 hd) rfl kt) r
theorem s_iushr (hd : decode I.bytes pc = .ok (.iushr, 1)) (hq : pc + 1 = pc') (r : oRun C Z n0 I EL ws Q h cs sl (mkF C.m pc' L (.int (XT.ushr x y) :: S))) : oRun C Z n0 I EL ws Q h cs sl (mkF C.m pc L (.int y :: .int x :: S)) := by
  subst hq; exact oStep (fun T locs K t kt => XT.iushr K.1.here K.2.1 rfl (hb K.2.2.2.2.1 hd) rfl kt) r
theorem s_i2c (hd : decode I.bytes pc = .ok (.i2c, 1)) (hq : pc + 1 = pc') (r : oRun C Z n0 I EL ws Q h cs sl (mkF C.m pc' L (.int (x.toUInt32.toUInt16.toUInt32.toInt32) :: S))) : oRun C Z n0 I EL ws Q h cs sl (mkF C.m pc L (.int x :: S)) := by
  subst hq; exact oStep (fun T locs K t kt => XT.i2c K.1.here K.2.1 rfl (hb K.2.2.2.2.1 hd) rfl kt) r
theorem s_i2b (hd : decode I.bytes pc = .ok (.i2b, 1)) (hq : pc + 1 = pc') (r : oRun C Z n0 I EL ws Q h cs sl (mkF C.m pc' L (.int (x.toInt8.toInt32) :: S))) : oRun C Z n0 I EL ws Q h cs sl (mkF C.m pc L (.int x :: S)) := by
  subst hq; exact oStep (fun T locs K t kt => XT.i2b K.1.here K.2.1 rfl (hb K.2.2.2.2.1 hd) rfl kt) r
theorem s_dup {v : Value} (hd : decode I.bytes pc = .ok (.dup, 1)) (hq : pc + 1 = pc') (hc : v.category = 1) (r : oRun C Z n0 I EL ws Q h cs sl (mkF C.m pc' L (v :: v :: S))) : oRun C Z n0 I EL ws Q h cs sl (mkF C.m pc L (v :: S)) := by
  subst hq; exact oStep (fun T locs K t kt => XS.dup K.1.here K.2.1 rfl (hb K.2.2.2.2.1 hd) rfl hc kt) r
theorem s_pop {v : Value} (hd : decode I.bytes pc = .ok (.pop, 1)) (hq : pc + 1 = pc') (hc : v.category = 1) (r : oRun C Z n0 I EL ws Q h cs sl (mkF C.m pc' L S)) : oRun C Z n0 I EL ws Q h cs sl (mkF C.m pc L (v :: S)) := by
  subst hq; exact oStep (fun T locs K t kt => XT.pop K.1.here K.2.1 rfl (hb K.2.2.2.2.1 hd) rfl hc kt) r
theorem s_istoreN {k : Fin 4} {kn : Nat} {L : List Slot} (hk : k.val = kn) (hd : decode I.bytes pc = .ok (.istore_n k, 1)) (hq : pc + 1 = pc') (hl : storeLocals L.toArray kn (.int x) = some (L.set kn (.val (.int x))).toArray) (r : oRun C Z n0 I EL ws Q h cs sl (mkF C.m pc' (L.set kn (.val (.int x))).toArray S)) : oRun C Z n0 I EL ws Q h cs sl (mkF C.m pc L.toArray (.int x :: S)) := by
  subst hq hk; exact oStep (fun T locs K t kt => XS.istoreN K.1.here K.2.1 rfl (hb K.2.2.2.2.1 hd) rfl hl kt) r
theorem s_istore {k : Nat} {L : List Slot} (hd : decode I.bytes pc = .ok (.istore k, 2)) (hq : pc + 2 = pc') (hl : storeLocals L.toArray k (.int x) = some (L.set k (.val (.int x))).toArray) (r : oRun C Z n0 I EL ws Q h cs sl (mkF C.m pc' (L.set k (.val (.int x))).toArray S)) : oRun C Z n0 I EL ws Q h cs sl (mkF C.m pc L.toArray (.int x :: S)) := by
  subst hq; exact oStep (fun T locs K t kt => XS.istore K.1.here K.2.1 rfl (hb K.2.2.2.2.1 hd) rfl hl kt) r
theorem s_astoreN {k : Fin 4} {kn : Nat} {v : Value} {L : List Slot} (hk : k.val = kn) (hd : decode I.bytes pc = .ok (.astore_n k, 1)) (hq : pc + 1 = pc') (hv : v.isRef = true) (hl : storeLocals L.toArray kn v = some (L.set kn (.val v)).toArray) (r : oRun C Z n0 I EL ws Q h cs sl (mkF C.m pc' (L.set kn (.val v)).toArray S)) : oRun C Z n0 I EL ws Q h cs sl (mkF C.m pc L.toArray (v :: S)) := by
  subst hq hk; exact oStep (fun T locs K t kt => XS.astoreN K.1.here K.2.1 rfl (hb K.2.2.2.2.1 hd) rfl hv hl kt) r
theorem s_astore {k : Nat} {v : Value} {L : List Slot} (hd : decode I.bytes pc = .ok (.astore k, 2)) (hq : pc + 2 = pc') (hv : v.isRef = true) (hl : storeLocals L.toArray k v = some (L.set k (.val v)).toArray) (r : oRun C Z n0 I EL ws Q h cs sl (mkF C.m pc' (L.set k (.val v)).toArray S)) : oRun C Z n0 I EL ws Q h cs sl (mkF C.m pc L.toArray (v :: S)) := by
  subst hq; exact oStep (fun T locs K t kt => XS.astore K.1.here K.2.1 rfl (hb K.2.2.2.2.1 hd) rfl hv hl kt) r
theorem s_iinc {k : Nat} {i : Int} {L : List Slot} (hd : decode I.bytes pc = .ok (.iinc k i, 3)) (hq : pc + 3 = pc') (hi : Int32.ofInt i = y) (hl0 : L.toArray[k]? = some (.val (.int x))) (hl : storeLocals L.toArray k (.int (x + y)) = some (L.set k (.val (.int (x + y)))).toArray) (r : oRun C Z n0 I EL ws Q h cs sl (mkF C.m pc' (L.set k (.val (.int (x + y)))).toArray S)) : oRun C Z n0 I EL ws Q h cs sl (mkF C.m pc L.toArray S) := by
  subst hq hi; exact oStep (fun T locs K t kt => XS.iinc K.1.here K.2.1 rfl (hb K.2.2.2.2.1 hd) hl0 hl kt) r
theorem o_st {L : List Slot} {k : Nat} {s : Slot} {v : Value} (hk : L[k]? = some s) (hs : One s) (hv : v.category = 1) : storeLocals L.toArray k v = some (L.set k (.val v)).toArray := by
  have hlt : k < L.length := (List.getElem?_eq_some_iff.mp hk).1
  have hka : L.toArray[k]? = some s := by simpa using hk
  have e : storeSelf L.toArray k v = some (L.set k (.val v)).toArray := by simp [storeSelf, setAt, hv, hlt]
  rcases hs with rfl | ⟨w, rfl, hw⟩
  · simp only [storeLocals, hka, Option.bind_eq_bind, Option.bind_some]; exact e
  · simp only [storeLocals, hka, Option.bind_eq_bind, Option.bind_some, hw]; exact e
theorem s_goto {o : Int} (hd : decode I.bytes pc = .ok (.goto o, 3)) (ho : 0 ≤ (pc : Int) + o) (hq : ((pc : Int) + o).toNat = pc') (r : oRun C Z n0 I EL ws Q h cs sl (mkF C.m pc' L S)) : oRun C Z n0 I EL ws Q h cs sl (mkF C.m pc L S) :=
  oStep (fun T locs K t kt => XS.goto K.1.here K.2.1 rfl (pc0 := pc) rfl (hb K.2.2.2.2.1 hd) ho hq kt) r
theorem s_if {cd : ClassFile.Cond} {o : Int} {pc'' : Nat} (hd : decode I.bytes pc = .ok (.ifCond cd o, 3)) (hq : pc + 3 = pc') (ho : 0 ≤ (pc : Int) + o) (hq' : ((pc : Int) + o).toNat = pc'')
    (rt : if_icmp.holds cd x 0 = true → oRun C Z n0 I EL ws Q h cs sl (mkF C.m pc'' L S)) (rf : if_icmp.holds cd x 0 = false → oRun C Z n0 I EL ws Q h cs sl (mkF C.m pc' L S)) : oRun C Z n0 I EL ws Q h cs sl (mkF C.m pc L (.int x :: S)) := by
  subst hq
  cases hh : if_icmp.holds cd x 0
  · exact oStep (fun T locs K t kt => XS.ifNo K.1.here K.2.1 rfl (hb K.2.2.2.2.1 hd) rfl ((if0 _ _).trans hh) kt) (rf hh)
  · exact oStep (fun T locs K t kt => XS.ifYes K.1.here K.2.1 rfl (pc0 := pc) rfl (hb K.2.2.2.2.1 hd) rfl ((if0 _ _).trans hh) ho hq' kt) (rt hh)
theorem s_icmp {cd : ClassFile.Cond} {o : Int} {pc'' : Nat} (hd : decode I.bytes pc = .ok (.if_icmp cd o, 3)) (hq : pc + 3 = pc') (ho : 0 ≤ (pc : Int) + o) (hq' : ((pc : Int) + o).toNat = pc'')
    (rt : if_icmp.holds cd x y = true → oRun C Z n0 I EL ws Q h cs sl (mkF C.m pc'' L S)) (rf : if_icmp.holds cd x y = false → oRun C Z n0 I EL ws Q h cs sl (mkF C.m pc' L S)) : oRun C Z n0 I EL ws Q h cs sl (mkF C.m pc L (.int y :: .int x :: S)) := by
  subst hq
  cases hh : if_icmp.holds cd x y
  · exact oStep (fun T locs K t kt => XS.icmpNo K.1.here K.2.1 rfl (hb K.2.2.2.2.1 hd) rfl hh kt) (rf hh)
  · exact oStep (fun T locs K t kt => XS.icmpYes K.1.here K.2.1 rfl (pc0 := pc) rfl (hb K.2.2.2.2.1 hd) rfl hh ho hq' kt) (rt hh)
theorem b_eq (h : if_icmp.holds .eq x y = true) : x = y := by simpa [if_icmp.holds] using h
theorem b_eqF (h : if_icmp.holds .eq x y = false) : ¬ x = y := by simpa [if_icmp.holds] using h
theorem b_ne (h : if_icmp.holds .ne x y = true) : ¬ x = y := by simpa [if_icmp.holds] using h
theorem b_neF (h : if_icmp.holds .ne x y = false) : x = y := by simpa [if_icmp.holds] using h
theorem b_lt (h : if_icmp.holds .lt x y = true) : x < y := by simpa [if_icmp.holds] using h
theorem b_ltF (h : if_icmp.holds .lt x y = false) : ¬ x < y := by simpa [if_icmp.holds] using h
theorem b_ge (h : if_icmp.holds .ge x y = true) : ¬ x < y := by simpa [if_icmp.holds, Int32.not_lt] using h
theorem b_geF (h : if_icmp.holds .ge x y = false) : x < y := by simpa [if_icmp.holds, Int32.not_le] using h
theorem b_gt (h : if_icmp.holds .gt x y = true) : y < x := by simpa [if_icmp.holds] using h
theorem b_gtF (h : if_icmp.holds .gt x y = false) : ¬ y < x := by simpa [if_icmp.holds] using h
theorem b_le (h : if_icmp.holds .le x y = true) : ¬ y < x := by simpa [if_icmp.holds, Int32.not_lt] using h
theorem b_leF (h : if_icmp.holds .le x y = false) : y < x := by simpa [if_icmp.holds, Int32.not_le] using h
-- the heap's steps
theorem s_getF {a0 : Array Value} {R0 O n d host : String} {index : Nat} {a : Addr} {v : Value} (F : Fld Z h a O n d v) (w : (Jvm.Cond.fieldLink I.own index R0 n d).before a0 Z = true ∨ (Jvm.Cond.fieldLinkNest I.own index R0 n d host).before a0 Z = true) (via : Via Z R0 O n d) (hd : decode I.bytes pc = .ok (.getfield index, 3)) (hq : pc + 3 = pc')
    (r : oRun C Z n0 I EL ws Q h cs sl (mkF C.m pc' L (v :: S))) : oRun C Z n0 I EL ws Q h cs sl (mkF C.m pc L (.ref a :: S)) := by
  subst hq
  refine oMove (fun T locs K => ?_) r
  obtain ⟨X, k1, k2, k3, k4, k5, k6, k7, k8, k9, k10, k11⟩ := K
  obtain ⟨T', X', e', st⟩ := getF X k1 k2 k3 w via k9 F (g := mkF C.m pc L (.ref a :: S)) rfl rfl (hb k4 hd)
  exact ⟨T', locs, ⟨X', k1, k2, k3, k4, k5, k6, k7, k8, e', k10, k11⟩, st⟩
theorem s_putF {a0 : Array Value} {R0 O n d host C' : String} {index kk : Nat} {ty : FieldType} {a : Addr} {v old : Value} (F : Fld Z h a O n d old) (E : Exa Z h a C') (ha : n0 ≤ a) (hs : a ∈ ws) (w : (Jvm.Cond.fieldLink I.own index R0 n d).before a0 Z = true ∨ (Jvm.Cond.fieldLinkNest I.own index R0 n d host).before a0 Z = true) (via : Via Z R0 O n d)
    (Lw : (Jvm.Cond.lays C' O n d).before a0 Z = true ∨ ((Jvm.Cond.laysFinal C' O n d).before a0 Z = true ∧ I.own = O ∧ I.mn = "<init>")) (wi : (Jvm.Cond.instantiable C' kk).before a0 Z = true)
    (hty : parseFieldDescriptor d = some ty) (hn : narrow ty v = v) (hf : fits ty v = true) (hd : decode I.bytes pc = .ok (.putfield index, 3)) (hq : pc + 3 = pc')
    (r : ∀ h', Wr h h' a (Jvm.RoadKit.slotOf Z O n d) v → oRun C Z n0 I EL ws Q h' cs sl (mkF C.m pc' L S)) : oRun C Z n0 I EL ws Q h cs sl (mkF C.m pc L (v :: .ref a :: S)) := by
  subst hq
  intro vm0 T locs K V
  obtain ⟨X, k1, k2, k3, k4, k5, k6, k7, k8, k9, k10, k11⟩ := K
  obtain ⟨T', h', X', e', W, st⟩ := putF X k1 k2 k3 w via k9 F E (Lw.imp id fun q => ⟨q.1, q.2.1, k7.trans q.2.2⟩) wi hty hn hf (g := mkF C.m pc L (v :: .ref a :: S)) rfl rfl (hb k4 hd)
  obtain ⟨t, o, h1, h2⟩ := r h' W vm0 T' _ ⟨X', k1, k2, k3, k4, k5, k6, k7, k8, e', Fr.snoc X' k10 ha, k11.wr W ha⟩ (V.wr W hs)
  exact ⟨t, o, st t h1, h2⟩
theorem s_getS {a0 : Array Value} {R0 O n d : String} {index : Nat} {v : Value} (F : Sta Z Z.heap O n d v) (w : (Jvm.Cond.fieldLink I.own index R0 n d).before a0 Z = true) (via : Via Z R0 O n d) (hd : decode I.bytes pc = .ok (.getstatic index, 3)) (hq : pc + 3 = pc')
    (r : oRun C Z n0 I EL ws Q h cs sl (mkF C.m pc' L (v :: S))) : oRun C Z n0 I EL ws Q h cs sl (mkF C.m pc L S) := by
  subst hq
  refine oMove (fun T locs K => ?_) r
  obtain ⟨X, k1, k2, k3, k4, k5, k6, k7, k8, k9, k10, k11⟩ := K
  obtain ⟨T', X', e', st⟩ := getS (host := "") X k1 k2 k3 w via k9 (F.ext k11.2) (g := mkF C.m pc L S) rfl (hb k4 hd)
  exact ⟨T', locs, ⟨X', k1, k2, k3, k4, k5, k6, k7, k8, e', k10, k11⟩, st⟩
theorem s_new {a0 : Array Value} {C' : String} {index n : Nat} (w : (Jvm.Cond.classLink I.own index C').before a0 Z = true) (wi : (Jvm.Cond.instantiable C' n).before a0 Z = true) (wz : (Jvm.Cond.initialized C').before a0 Z = true) (hd : decode I.bytes pc = .ok (.new index, 3)) (hq : pc + 3 = pc') (hc : cs + 1 ≤ I.R.cells) (hl : sl + n ≤ I.R.slots)
    (r : ∀ h' a, a = h.size → n0 ≤ a → Ext h h' → Exa Z h' a C' → (∀ {O nm d : String} {ty : FieldType}, Laid Z a0 C' O nm d → parseFieldDescriptor d = some ty → Fld Z h' a O nm d (defaultValue ty)) → oRun C Z n0 I EL (a :: ws) Q h' (cs + 1) (sl + n) (mkF C.m pc' L (.ref a :: S))) : oRun C Z n0 I EL ws Q h cs sl (mkF C.m pc L S) := by
  subst hq
  intro vm0 T locs K V
  obtain ⟨X, k1, k2, k3, k4, k5, k6, k7, k8, k9, k10, k11⟩ := K
  obtain ⟨T', h', X', e', E, A, D, -, st⟩ := newO X k1 k2 k3 w wi wz k9 (g := mkF C.m pc L S) rfl (hb k4 hd) hc hl
  obtain ⟨t, o, h1, h2⟩ := r h' _ rfl (o_le k11) E A D vm0 T' _ ⟨X', k1, k2, k3, k4, k5, k6, k7, k8, e', k10, k11.ext E⟩ (V.new E rfl A.lt)
  exact ⟨t, o, st t h1, h2⟩
theorem s_newA {a0 : Array Value} {aty : ArrayType} {n : Int32} (cap : Nat) (w : (Jvm.Cond.arrayClass (newarray.typeOf aty)).before a0 Z = true) (hd : decode I.bytes pc = .ok (.newarray aty, 2)) (hq : pc + 2 = pc') (hn : ¬ n < 0) (hcap : n.toNatClampNeg ≤ cap) (hb' : cap * 8 ≤ 536870912) (hc : cs + 1 ≤ I.R.cells) (hl : sl + cap ≤ I.R.slots)
    (r : ∀ h' a k, a = h.size → n0 ≤ a → Ext h h' → Arv Z h' a k (newarray.typeOf aty) n [] (defaultValue (newarray.typeOf aty)) → oRun C Z n0 I EL (a :: ws) Q h' (cs + 1) (sl + cap) (mkF C.m pc' L (.ref a :: S))) : oRun C Z n0 I EL ws Q h cs sl (mkF C.m pc L (.int n :: S)) := by
  subst hq
  intro vm0 T locs K V
  obtain ⟨X, k1, k2, k3, k4, k5, k6, k7, k8, k9, k10, k11⟩ := K
  obtain ⟨T', h', kA, X', e', E, A, st⟩ := newP X k1 k2 w k9 (g := mkF C.m pc L (.int n :: S)) rfl (hb k4 hd) rfl hn hcap hb' hc hl
  obtain ⟨t, o, h1, h2⟩ := r h' _ kA rfl (o_le k11) E (Arv.new A hn) vm0 T' _ ⟨X', k1, k2, k3, k4, k5, k6, k7, k8, e', k10, k11.ext E⟩ (V.new E rfl A.lt)
  exact ⟨t, o, st t h1, h2⟩
theorem s_alen {a : Addr} {k : ClassId} {ty : FieldType} {n : Int32} {vs : List Value} {dv : Value} (A : Arv Z h a k ty n vs dv) (hd : decode I.bytes pc = .ok (.arraylength, 1)) (hq : pc + 1 = pc') (r : oRun C Z n0 I EL ws Q h cs sl (mkF C.m pc' L (.int n :: S))) : oRun C Z n0 I EL ws Q h cs sl (mkF C.m pc L (.ref a :: S)) := by
  subst hq
  refine oStep (fun T locs K t kt => ?_) r
  obtain ⟨X, k1, k2, k3, k4, k5, k6, k7, k8, k9, k10, k11⟩ := K
  obtain ⟨c, A1, A2, A3, A4, -⟩ := A
  refine X.arraylength k1 (by rw [k9]; exact A1.1) (State.isArrayOf_alike k2.alike A1.2.1) (g := mkF C.m pc L (.ref a :: S)) rfl rfl (hb k4 hd) _ ?_
  rw [len_of A3 A4]; exact kt
theorem o_at {a : Addr} {k : ClassId} {ty : FieldType} {n j : Int32} {vs : List Value} {dv v : Value} (A : Arv Z h a k ty n vs dv) (j0 : ¬ j < 0) (j1 : j < n) (hv : vs.getD j.toNatClampNeg dv = v) : ∃ c, Arr Z h a c ty ∧ ¬ (j < 0 ∨ c.slots.size ≤ j.toNatClampNeg) ∧ c.slots[j.toNatClampNeg]? = some v := by
  obtain ⟨c, A1, A2, A3, A4, A5, A6⟩ := A
  have q := inb_of A3 ⟨j0, j1⟩
  exact ⟨c, A1, q, A5.at q hv⟩
theorem s_iaload {a : Addr} {k : ClassId} {n j : Int32} {vs : List Value} {dv v : Value} (A : Arv Z h a k .int n vs dv) (j0 : ¬ j < 0) (j1 : j < n) (hv : vs.getD j.toNatClampNeg dv = v) (hd : decode I.bytes pc = .ok (.iaload, 1)) (hq : pc + 1 = pc') (r : oRun C Z n0 I EL ws Q h cs sl (mkF C.m pc' L (v :: S))) : oRun C Z n0 I EL ws Q h cs sl (mkF C.m pc L (.int j :: .ref a :: S)) := by
  subst hq
  refine oStep (fun T locs K t kt => ?_) r
  obtain ⟨X, k1, k2, k3, k4, k5, k6, k7, k8, k9, k10, k11⟩ := K
  obtain ⟨c, A1, q, A2⟩ := o_at A j0 j1 hv
  exact X.iaload k1 (by rw [k9]; exact A1.1) (State.isArrayOf_alike k2.alike A1.2.1) A1.2.2 q A2 (g := mkF C.m pc L (.int j :: .ref a :: S)) rfl rfl (hb k4 hd) _ kt
theorem s_caload {a : Addr} {k : ClassId} {n j : Int32} {vs : List Value} {dv v : Value} (A : Arv Z h a k .char n vs dv) (j0 : ¬ j < 0) (j1 : j < n) (hv : vs.getD j.toNatClampNeg dv = v) (hd : decode I.bytes pc = .ok (.caload, 1)) (hq : pc + 1 = pc') (r : oRun C Z n0 I EL ws Q h cs sl (mkF C.m pc' L (v :: S))) : oRun C Z n0 I EL ws Q h cs sl (mkF C.m pc L (.int j :: .ref a :: S)) := by
  subst hq
  refine oStep (fun T locs K t kt => ?_) r
  obtain ⟨X, k1, k2, k3, k4, k5, k6, k7, k8, k9, k10, k11⟩ := K
  obtain ⟨c, A1, q, A2⟩ := o_at A j0 j1 hv
  exact X.caload k1 (by rw [k9]; exact A1.1) (State.isArrayOf_alike k2.alike A1.2.1) A1.2.2 q A2 (g := mkF C.m pc L (.int j :: .ref a :: S)) rfl rfl (hb k4 hd) _ kt
theorem s_baload {a : Addr} {k : ClassId} {n j : Int32} {vs : List Value} {dv v : Value} (A : Arv Z h a k .byte n vs dv) (j0 : ¬ j < 0) (j1 : j < n) (hv : vs.getD j.toNatClampNeg dv = v) (hd : decode I.bytes pc = .ok (.baload, 1)) (hq : pc + 1 = pc') (r : oRun C Z n0 I EL ws Q h cs sl (mkF C.m pc' L (v :: S))) : oRun C Z n0 I EL ws Q h cs sl (mkF C.m pc L (.int j :: .ref a :: S)) := by
  subst hq
  refine oStep (fun T locs K t kt => ?_) r
  obtain ⟨X, k1, k2, k3, k4, k5, k6, k7, k8, k9, k10, k11⟩ := K
  obtain ⟨c, A1, q, A2⟩ := o_at A j0 j1 hv
  exact X.baloadBytes k1 (by rw [k9]; exact A1.1) (State.isArrayOf_alike k2.alike A1.2.1) A1.2.2 q A2 (g := mkF C.m pc L (.int j :: .ref a :: S)) rfl rfl (hb k4 hd) _ kt
theorem o_padTo {a : Addr} {k : ClassId} {ty : FieldType} {n : Int32} {vs : List Value} {dv : Value} (A : Arv Z h a k ty n vs dv) (N : Nat) : Arv Z h a k ty n (vs ++ List.replicate N dv) dv := A.pad (pad_rep vs dv N)
theorem s_iastore {a : Addr} {k : ClassId} {n j : Int32} {vs : List Value} {dv : Value} (A : Arv Z h a k .int n vs dv) (ha : n0 ≤ a) (hs : a ∈ ws) (j0 : ¬ j < 0) (j1 : j < n) (i : Nat) (hi : j.toNatClampNeg = i) (hl : i < vs.length) (hd : decode I.bytes pc = .ok (.iastore, 1)) (hq : pc + 1 = pc')
    (r : ∀ h', Wr h h' a i (.int x) → Arv Z h' a k .int n (vs.set i (.int x)) dv → oRun C Z n0 I EL ws Q h' cs sl (mkF C.m pc' L S)) : oRun C Z n0 I EL ws Q h cs sl (mkF C.m pc L (.int x :: .int j :: .ref a :: S)) := by
  subst hq
  intro vm0 T locs K V
  obtain ⟨X, k1, k2, k3, k4, k5, k6, k7, k8, k9, k10, k11⟩ := K
  obtain ⟨c, A1, A2, A3, A4, A5, A6⟩ := A
  obtain ⟨T', h', X', e', W, st⟩ := stI X k1 k2 k9 A1 (inb_of A3 ⟨j0, j1⟩) (g := mkF C.m pc L (.int x :: .int j :: .ref a :: S)) rfl rfl (hb k4 hd)
  obtain ⟨t, o, h1, h2⟩ := r h' (hi ▸ W) (Arv.set A1 A2 A3 A4 A5 A6 rfl W i hi hl) vm0 T' _ ⟨X', k1, k2, k3, k4, k5, k6, k7, k8, e', Fr.snoc X' k10 ha, k11.wr W ha⟩ (V.wr W hs)
  exact ⟨t, o, st t h1, h2⟩
theorem s_castore {a : Addr} {k : ClassId} {n j : Int32} {vs : List Value} {dv : Value} (A : Arv Z h a k .char n vs dv) (ha : n0 ≤ a) (hs : a ∈ ws) (j0 : ¬ j < 0) (j1 : j < n) (i : Nat) (hi : j.toNatClampNeg = i) (hl : i < vs.length) (hd : decode I.bytes pc = .ok (.castore, 1)) (hq : pc + 1 = pc')
    (r : ∀ h', Wr h h' a i (.int (nar .char x)) → Arv Z h' a k .char n (vs.set i (.int (nar .char x))) dv → oRun C Z n0 I EL ws Q h' cs sl (mkF C.m pc' L S)) : oRun C Z n0 I EL ws Q h cs sl (mkF C.m pc L (.int x :: .int j :: .ref a :: S)) := by
  subst hq
  intro vm0 T locs K V
  obtain ⟨X, k1, k2, k3, k4, k5, k6, k7, k8, k9, k10, k11⟩ := K
  obtain ⟨c, A1, A2, A3, A4, A5, A6⟩ := A
  obtain ⟨T', h', X', e', W, st⟩ := stC X k1 k2 k9 A1 (inb_of A3 ⟨j0, j1⟩) (g := mkF C.m pc L (.int x :: .int j :: .ref a :: S)) rfl rfl (hb k4 hd)
  obtain ⟨t, o, h1, h2⟩ := r h' (hi ▸ W) (Arv.set A1 A2 A3 A4 A5 A6 (fits_nar_char _) W i hi hl) vm0 T' _ ⟨X', k1, k2, k3, k4, k5, k6, k7, k8, e', Fr.snoc X' k10 ha, k11.wr W ha⟩ (V.wr W hs)
  exact ⟨t, o, st t h1, h2⟩
theorem s_bastore {a : Addr} {k : ClassId} {n j : Int32} {vs : List Value} {dv : Value} (A : Arv Z h a k .byte n vs dv) (ha : n0 ≤ a) (hs : a ∈ ws) (j0 : ¬ j < 0) (j1 : j < n) (i : Nat) (hi : j.toNatClampNeg = i) (hl : i < vs.length) (hd : decode I.bytes pc = .ok (.bastore, 1)) (hq : pc + 1 = pc')
    (r : ∀ h', Wr h h' a i (.int (nar .byte x)) → Arv Z h' a k .byte n (vs.set i (.int (nar .byte x))) dv → oRun C Z n0 I EL ws Q h' cs sl (mkF C.m pc' L S)) : oRun C Z n0 I EL ws Q h cs sl (mkF C.m pc L (.int x :: .int j :: .ref a :: S)) := by
  subst hq
  intro vm0 T locs K V
  obtain ⟨X, k1, k2, k3, k4, k5, k6, k7, k8, k9, k10, k11⟩ := K
  obtain ⟨c, A1, A2, A3, A4, A5, A6⟩ := A
  obtain ⟨T', h', X', e', W, st⟩ := stB X k1 k2 k9 A1 (inb_of A3 ⟨j0, j1⟩) (g := mkF C.m pc L (.int x :: .int j :: .ref a :: S)) rfl rfl (hb k4 hd)
  obtain ⟨t, o, h1, h2⟩ := r h' (hi ▸ W) (Arv.set A1 A2 A3 A4 A5 A6 (fits_nar_byte _) W i hi hl) vm0 T' _ ⟨X', k1, k2, k3, k4, k5, k6, k7, k8, e', Fr.snoc X' k10 ha, k11.wr W ha⟩ (V.wr W hs)
  exact ⟨t, o, st t h1, h2⟩
theorem s_copy {a0 : Array Value} {index : Nat} {a b : Addr} {k k' : ClassId} {ty : FieldType} {z z' sp dp nn : Int32} {vs vd : List Value} {dv dd : Value} (A : Arv Z h a k ty z vs dv) (B : Arv Z h b k' ty z' vd dd) (hty : refKind ty = false) (hgb : n0 ≤ b) (hs : b ∈ ws)
    (w1 : (Jvm.Cond.methodLink I.own index Jvm.Stand.acN).before a0 Z = true) (w2 : (Jvm.Cond.native Jvm.Stand.acN).before a0 Z = true) (w3 : (Jvm.Cond.static Jvm.Stand.acN).before a0 Z = true) (w4 : (Jvm.Cond.initialized "java/lang/System").before a0 Z = true)
    (h1 : ¬ sp < 0) (h2 : ¬ dp < 0) (h3 : ¬ nn < 0) (h4 : sp.toNatClampNeg + nn.toNatClampNeg ≤ z.toNatClampNeg) (h5 : dp.toNatClampNeg + nn.toNatClampNeg ≤ z'.toNatClampNeg) (hl : dp.toNatClampNeg + nn.toNatClampNeg ≤ vd.length)
    (hsz : L.size = I.ml) (hd : decode I.bytes pc = .ok (.invokestatic index, 3)) (hq : pc + 3 = pc') (hf : 1 ≤ I.R.frames) (hlo : (S.map fun v => v.category).sum + (nativeFrameWords "java/lang/System" "arraycopy" 5 + 11) ≤ I.R.locals)
    (r : ∀ h', Keep h h' [b] → Arv Z h' b k' ty z' (vd.take dp.toNatClampNeg ++ ((List.range nn.toNatClampNeg).map fun i => vs.getD (sp.toNatClampNeg + i) dv) ++ vd.drop (dp.toNatClampNeg + nn.toNatClampNeg)) dd → oRun C Z n0 I EL ws Q h' cs sl (mkF C.m pc' L S)) :
    oRun C Z n0 I EL ws Q h cs sl (mkF C.m pc L (.int nn :: .int dp :: .ref b :: .int sp :: .ref a :: S)) := by
  subst hq
  intro vm0 T locs K V
  obtain ⟨X, k1, k2, k3, k4, k5, k6, k7, k8, k9, k10, k11⟩ := K
  obtain ⟨T', h', L', X', e', N', K', A', st⟩ := cpA X k1 k2 k3 w1 w2 w3 w4 k9 A B (Or.inl ⟨rfl, hty⟩) h1 h2 h3 h4 h5 rfl hl k10 hgb (g := mkF C.m pc L (.int nn :: .int dp :: .ref b :: .int sp :: .ref a :: S)) rfl (hsz.trans k5.symm) rfl (hb k4 hd) hf (W := (S.map fun v => v.category).sum) (by show 2 * 0 + _ ≤ _; simp) hlo
  obtain ⟨t, o, q1, q2⟩ := r h' K' A' vm0 T' _ ⟨X', k1, k2, k3, k4, k5, k6, k7, k8, e', N', k11.keep K' (allS hgb all0)⟩ (V.move (CHr.keep K' (fun x hx => by cases List.mem_singleton.mp hx; exact (V.2.2.2 b hs).1) V.2.2.1.1))
  exact ⟨t, o, st t q1, q2⟩
theorem s_initO {a0 : Array Value} {idx : Nat} {a : Addr} (w1 : (Jvm.Cond.methodLink I.own idx Lib.objectInit).before a0 Z = true) (w2 : (Jvm.Cond.instanceMethod Lib.objectInit).before a0 Z = true) (w3 : (Jvm.Cond.code Lib.objectInit ⟨#[0xb1]⟩ 1 none).before a0 Z = true) (hsz : L.size = I.ml) (hd : decode I.bytes pc = .ok (.invokespecial idx, 3)) (hq : pc + 3 = pc') (hf : 1 ≤ I.R.frames) (hlo : (S.map fun v => v.category).sum + 12 ≤ I.R.locals)
    (r : oRun C Z n0 I EL ws Q h cs sl (mkF C.m pc' L S)) : oRun C Z n0 I EL ws Q h cs sl (mkF C.m pc L (.ref a :: S)) := by
  subst hq
  refine oMove (fun T locs K => ?_) r
  obtain ⟨X, k1, k2, k3, k4, k5, k6, k7, k8, k9, k10, k11⟩ := K
  obtain ⟨T', X', e', st⟩ := initO X k1 k2 k3 w1 w2 w3 k9 (g := mkF C.m pc L (.ref a :: S)) rfl (hsz.trans k5.symm) rfl (hb k4 hd) hf (W := (S.map fun v => v.category).sum) (by show 2 * 0 + _ ≤ _; simp) hlo
  exact ⟨T', locs, ⟨X', k1, k2, k3, k4, k5, k6, k7, k8, e', k10, k11⟩, st⟩
theorem s_ldcI {a0 : Array Value} {idx : Nat} (w : (Jvm.Cond.constant I.own idx x).before a0 Z = true) (hd : decode I.bytes pc = .ok (.ldc idx, 2)) (hq : pc + 2 = pc') (r : oRun C Z n0 I EL ws Q h cs sl (mkF C.m pc' L (.int x :: S))) : oRun C Z n0 I EL ws Q h cs sl (mkF C.m pc L S) := by
  subst hq
  refine oStep (fun T locs K t kt => ?_) r
  obtain ⟨X, k1, k2, k3, k4, k5, k6, k7, k8, k9, k10, k11⟩ := K
  exact X.ldcInt k1 k3 (mvT k2 w) (g := mkF C.m pc L S) rfl (hb k4 hd) _ kt
theorem s_acmpNe {o : Int} {pc'' : Nat} {v w : Value} (hv : v.isRef = true) (hw : w.isRef = true) (hd : decode I.bytes pc = .ok (.if_acmp .ne o, 3)) (hq : pc + 3 = pc') (ho : 0 ≤ (pc : Int) + o) (hq' : ((pc : Int) + o).toNat = pc'')
    (rt : ¬ v = w → oRun C Z n0 I EL ws Q h cs sl (mkF C.m pc'' L S)) (rf : v = w → oRun C Z n0 I EL ws Q h cs sl (mkF C.m pc' L S)) : oRun C Z n0 I EL ws Q h cs sl (mkF C.m pc L (w :: v :: S)) := by
  subst hq
  by_cases hh : v = w
  · exact oStep (fun T locs K t kt => XT.acmpNo K.1.here K.2.1 rfl (hb K.2.2.2.2.1 hd) rfl hv hw (by simp [XT.acmp, hh]) kt) (rf hh)
  · exact oStep (fun T locs K t kt => XT.acmpYes K.1.here K.2.1 rfl (pc0 := pc) rfl (hb K.2.2.2.2.1 hd) rfl hv hw (by simp [XT.acmp, hh]) ho hq' kt) (rt hh)
theorem s_acmpEq {o : Int} {pc'' : Nat} {v w : Value} (hv : v.isRef = true) (hw : w.isRef = true) (hd : decode I.bytes pc = .ok (.if_acmp .eq o, 3)) (hq : pc + 3 = pc') (ho : 0 ≤ (pc : Int) + o) (hq' : ((pc : Int) + o).toNat = pc'')
    (rt : v = w → oRun C Z n0 I EL ws Q h cs sl (mkF C.m pc'' L S)) (rf : ¬ v = w → oRun C Z n0 I EL ws Q h cs sl (mkF C.m pc' L S)) : oRun C Z n0 I EL ws Q h cs sl (mkF C.m pc L (w :: v :: S)) := by
  subst hq
  by_cases hh : v = w
  · exact oStep (fun T locs K t kt => XT.acmpYes K.1.here K.2.1 rfl (pc0 := pc) rfl (hb K.2.2.2.2.1 hd) rfl hv hw (by simp [XT.acmp, hh]) ho hq' kt) (rt hh)
  · exact oStep (fun T locs K t kt => XT.acmpNo K.1.here K.2.1 rfl (hb K.2.2.2.2.1 hd) rfl hv hw (by simp [XT.acmp, hh]) kt) (rf hh)
theorem s_nnY {o : Int} {b : Addr} (hd : decode I.bytes pc = .ok (.ifnonnull o, 3)) (ho : 0 ≤ (pc : Int) + o) (hq' : ((pc : Int) + o).toNat = pc') (r : oRun C Z n0 I EL ws Q h cs sl (mkF C.m pc' L S)) : oRun C Z n0 I EL ws Q h cs sl (mkF C.m pc L (.ref b :: S)) :=
  oStep (fun T locs K t kt => XT.ifnonnullYes K.1.here K.2.1 rfl (pc0 := pc) rfl (hb K.2.2.2.2.1 hd) rfl ho hq' kt) r
theorem s_nnN {o : Int} (hd : decode I.bytes pc = .ok (.ifnonnull o, 3)) (hq : pc + 3 = pc') (r : oRun C Z n0 I EL ws Q h cs sl (mkF C.m pc' L S)) : oRun C Z n0 I EL ws Q h cs sl (mkF C.m pc L (.null :: S)) := by
  subst hq; exact oStep (fun T locs K t kt => XT.ifnonnullNo K.1.here K.2.1 rfl (hb K.2.2.2.2.1 hd) rfl kt) r
theorem s_nuY {o : Int} (hd : decode I.bytes pc = .ok (.ifnull o, 3)) (ho : 0 ≤ (pc : Int) + o) (hq' : ((pc : Int) + o).toNat = pc') (r : oRun C Z n0 I EL ws Q h cs sl (mkF C.m pc' L S)) : oRun C Z n0 I EL ws Q h cs sl (mkF C.m pc L (.null :: S)) :=
  oStep (fun T locs K t kt => XS.ifnullYes K.1.here K.2.1 rfl (pc0 := pc) rfl (hb K.2.2.2.2.1 hd) rfl ho hq' kt) r
theorem s_nuN {o : Int} {b : Addr} (hd : decode I.bytes pc = .ok (.ifnull o, 3)) (hq : pc + 3 = pc') (r : oRun C Z n0 I EL ws Q h cs sl (mkF C.m pc' L S)) : oRun C Z n0 I EL ws Q h cs sl (mkF C.m pc L (.ref b :: S)) := by
  subst hq; exact oStep (fun T locs K t kt => XS.ifnullNo K.1.here K.2.1 rfl (hb K.2.2.2.2.1 hd) rfl kt) r
theorem s_castY {a0 : Array Value} {Kn : String} {index : Nat} {a : Addr} (F : Ins Z h a Kn true) (w : (Jvm.Cond.classLink I.own index Kn).before a0 Z = true) (hd : decode I.bytes pc = .ok (.checkcast index, 3)) (hq : pc + 3 = pc')
    (r : oRun C Z n0 I EL ws Q h cs sl (mkF C.m pc' L (.ref a :: S))) : oRun C Z n0 I EL ws Q h cs sl (mkF C.m pc L (.ref a :: S)) := by
  subst hq
  refine oMove (fun T locs K => ?_) r
  obtain ⟨X, k1, k2, k3, k4, k5, k6, k7, k8, k9, k10, k11⟩ := K
  obtain ⟨T', X', e', st⟩ := castY X k1 k2 k3 w k9 F (g := mkF C.m pc L (.ref a :: S)) rfl rfl (hb k4 hd)
  exact ⟨T', locs, ⟨X', k1, k2, k3, k4, k5, k6, k7, k8, e', k10, k11⟩, st⟩
theorem s_instY {a0 : Array Value} {Kn : String} {index : Nat} {a : Addr} (F : Ins Z h a Kn true) (w : (Jvm.Cond.classLink I.own index Kn).before a0 Z = true) (hd : decode I.bytes pc = .ok (.instanceof index, 3)) (hq : pc + 3 = pc')
    (r : oRun C Z n0 I EL ws Q h cs sl (mkF C.m pc' L (.int 1 :: S))) : oRun C Z n0 I EL ws Q h cs sl (mkF C.m pc L (.ref a :: S)) := by
  subst hq
  refine oMove (fun T locs K => ?_) r
  obtain ⟨X, k1, k2, k3, k4, k5, k6, k7, k8, k9, k10, k11⟩ := K
  obtain ⟨T', X', e', st⟩ := instY X k1 k2 k3 w k9 F (g := mkF C.m pc L (.ref a :: S)) rfl rfl (hb k4 hd)
  exact ⟨T', locs, ⟨X', k1, k2, k3, k4, k5, k6, k7, k8, e', k10, k11⟩, st⟩
theorem s_instNo {a0 : Array Value} {Kn Cn : String} {index : Nat} {a : Addr} (E : Exa Z h a Cn) (F : ∃ c t, Z.vm.findClass Cn = some c ∧ Z.vm.findClass Kn = some t ∧ Z.vm.assignable c t = false) (w : (Jvm.Cond.classLink I.own index Kn).before a0 Z = true) (hd : decode I.bytes pc = .ok (.instanceof index, 3)) (hq : pc + 3 = pc')
    (r : oRun C Z n0 I EL ws Q h cs sl (mkF C.m pc' L (.int 0 :: S))) : oRun C Z n0 I EL ws Q h cs sl (mkF C.m pc L (.ref a :: S)) := by
  subst hq
  refine oMove (fun T locs K => ?_) r
  obtain ⟨X, k1, k2, k3, k4, k5, k6, k7, k8, k9, k10, k11⟩ := K
  obtain ⟨T', X', e', st⟩ := instNo X k1 k2 k3 w k9 E F (g := mkF C.m pc L (.ref a :: S)) rfl rfl (hb k4 hd)
  exact ⟨T', locs, ⟨X', k1, k2, k3, k4, k5, k6, k7, k8, e', k10, k11⟩, st⟩
theorem s_instNull {index : Nat} (hd : decode I.bytes pc = .ok (.instanceof index, 3)) (hq : pc + 3 = pc')
    (r : oRun C Z n0 I EL ws Q h cs sl (mkF C.m pc' L (.int 0 :: S))) : oRun C Z n0 I EL ws Q h cs sl (mkF C.m pc L (.null :: S)) := by
  subst hq
  refine oStep (fun T locs K t kt => ?_) r
  exact K.1.instanceofNull K.2.1 (g := mkF C.m pc L (.null :: S)) rfl rfl (hb K.2.2.2.2.1 hd) _ kt
-- a value left by a callee
def oPush : Option Value → List Value → List Value
  | none, S => S
  | some v, S => v :: S
theorem o_push (v : Option Value) (S : List Value) : v.toList ++ S = oPush v S := by cases v <;> rfl
theorem o_zero (S : List Value) (W : Nat) (q : (S.map fun v => v.category).sum ≤ W) (m : MethodId) (pc : Nat) (L : Array Slot) (S' : List Value) : 2 * (mkF m pc L S').monitorRoom + (S.map fun v => v.category).sum ≤ W := by show 2 * 0 + _ ≤ _; simpa using q
theorem s_callS {a0 : Array Value} {index : Nat} {yn : MethodName} {J : OInfo} {as' : Array Value} {Q' : Option Value → Heap → Prop} {argsL : List Value} {ws' : List Addr} (M : oCon C.l Z n0 EL ws' yn J as' h Q') (ha : argsL.toArray = as') (hsub : ∀ x ∈ ws', x ∈ ws)
    (w1 : (Jvm.Cond.methodLink I.own index yn).before a0 Z = true) (w2 : (Jvm.Cond.static yn).before a0 Z = true) (w3 : (Jvm.Cond.initialized yn.cls).before a0 Z = true) (w4 : (Jvm.Cond.code yn J.bytes J.ml J.ret).before a0 Z = true) (hy : yn.cls ≠ "java/lang/invoke/MethodHandle" ∧ yn.cls ≠ "java/lang/invoke/VarHandle")
    (hlen : ∀ sig, parseMethodDescriptor yn.desc = some sig → argsL.length = sig.parameters.length) (hsz : L.size = I.ml) (hd : decode I.bytes pc = .ok (.invokestatic index, 3)) (hq : pc + 3 = pc') (hf : J.R.frames + 1 ≤ I.R.frames) (hlo : (S.map fun v => v.category).sum + (J.ml + 11) + J.R.locals ≤ I.R.locals) (hc : cs + J.R.cells ≤ I.R.cells) (hs : sl + J.R.slots ≤ I.R.slots)
    (r : ∀ v h', Q' v h' → oRun C Z n0 I EL ws Q h' (cs + J.R.cells) (sl + J.R.slots) (mkF C.m pc' L (oPush v S))) : oRun C Z n0 I EL ws Q h cs sl (mkF C.m pc L (argsL.reverse ++ S)) := by
  subst hq ha
  intro vm0 T locs K V
  obtain ⟨X, k1, k2, k3, k4, k5, k6, k7, k8, k9, k10, k11⟩ := K
  obtain ⟨v, _, ⟨T', L', c', s'⟩, -, X', hS, hg2, ⟨Lc, ⟨q1, q2, q3⟩, l', y', z', hC⟩, st⟩ := callSS X k1 (y := yn) k3 (mvT k2 w1) (mvT k2 w2) (mvT k2 w3) (mvT k2 w4) hy (o_back (W := (S.map fun v => v.category).sum) M k11 k2 w4 w3 hf hlo V.1.choose_spec V.2.2.1.1 (fun x hx => V.2.2.2 x (hsub x hx))) (g := mkF C.m pc L (argsL.reverse ++ S)) rfl (hsz.trans k5.symm) (argsL := argsL) (rest := S) hlen rfl (o_zero _ _ (Nat.le_refl _) _ _ _ _) (hb k4 hd) (fun _ _ => ⟨rfl, k9, hc, hs⟩)
  dsimp only [Pt.U, Pt.locs, Pt.cells, Pt.slots] at X' l' y' z' st q2 q3 hS hg2 hC
  subst l' y' z'
  obtain ⟨kk, hk1, hk2⟩ := V.2.1
  have hS2 : C.s.Since T'.vm T'.heap.size := hk1.trans hS (Nat.le_trans hk2 (by rw [← k9]; exact hg2))
  have hZ2 : Z.Warmed39 T'.vm := State.Warmed39.trans (t := C.s.setVm vm0) k2 hS.1
  obtain ⟨t, o, h1, h2⟩ := r v _ q3 T'.vm T' _ ⟨X', k1, hZ2, (hS.1.alike.findClass _ _).trans k3, k4, k5, k6, k7, k8, rfl, Fr.app k10 q1, q2⟩ (V.step hC ⟨_, hS2, Nat.le_refl _⟩)
  rw [← o_push] at h1
  exact ⟨t, o, st.trans h1, h2⟩
theorem s_callI {a0 : Array Value} {index : Nat} {yn : MethodName} {J : OInfo} {as' : Array Value} {Q' : Option Value → Heap → Prop} {argsL : List Value} {a : Addr} {ws' : List Addr} (M : oCon C.l Z n0 EL ws' yn J as' h Q') (ha : (.ref a :: argsL).toArray = as') (hsub : ∀ x ∈ ws', x ∈ ws) (hr : J.ret = none) (hn : yn.name = "<init>")
    (w1 : (Jvm.Cond.methodLink I.own index yn).before a0 Z = true) (w2 : (Jvm.Cond.instanceMethod yn).before a0 Z = true) (w3 : (Jvm.Cond.initialized yn.cls).before a0 Z = true) (w4 : (Jvm.Cond.code yn J.bytes J.ml J.ret).before a0 Z = true) (hy : yn.cls ≠ "java/lang/invoke/MethodHandle" ∧ yn.cls ≠ "java/lang/invoke/VarHandle")
    (hlen : ∀ sig, parseMethodDescriptor yn.desc = some sig → argsL.length = sig.parameters.length) (hsz : L.size = I.ml) (hd : decode I.bytes pc = .ok (.invokespecial index, 3)) (hq : pc + 3 = pc') (hf : J.R.frames + 1 ≤ I.R.frames) (hlo : (S.map fun v => v.category).sum + (J.ml + 11) + J.R.locals ≤ I.R.locals) (hc : cs + J.R.cells ≤ I.R.cells) (hs : sl + J.R.slots ≤ I.R.slots)
    (r : ∀ v h', Q' v h' → oRun C Z n0 I EL ws Q h' (cs + J.R.cells) (sl + J.R.slots) (mkF C.m pc' L (oPush v S))) : oRun C Z n0 I EL ws Q h cs sl (mkF C.m pc L (argsL.reverse ++ .ref a :: S)) := by
  subst hq ha
  intro vm0 T locs K V
  obtain ⟨X, k1, k2, k3, k4, k5, k6, k7, k8, k9, k10, k11⟩ := K
  obtain ⟨v, _, ⟨T', L', c', s'⟩, -, X', hS, hg2, ⟨Lc, ⟨q1, q2, q3⟩, l', y', z', hC⟩, st⟩ := X.specialBackS k1 (y := yn) hn k3 (mvT k2 w1) (mvT k2 w2) (bytes := J.bytes) (maxL := J.ml) (by rw [hr] at w4; exact mvT k2 w4) hy (o_back (W := (S.map fun v => v.category).sum) M k11 k2 w4 w3 hf hlo V.1.choose_spec V.2.2.1.1 (fun x hx => V.2.2.2 x (hsub x hx))) (g := mkF C.m pc L (argsL.reverse ++ .ref a :: S)) rfl (hsz.trans k5.symm) (Steps.refl _) (argsL := argsL) (rest := S) hlen rfl (o_zero _ _ (Nat.le_refl _) _ _ _ _) (hb k4 hd) (fun _ _ => ⟨rfl, k9, hc, hs⟩)
  dsimp only [Pt.U, Pt.locs, Pt.cells, Pt.slots] at X' l' y' z' st q2 q3 hS hg2 hC
  subst l' y' z'
  obtain ⟨kk, hk1, hk2⟩ := V.2.1
  have hS2 : C.s.Since T'.vm T'.heap.size := hk1.trans hS (Nat.le_trans hk2 (by rw [← k9]; exact hg2))
  have hZ2 : Z.Warmed39 T'.vm := State.Warmed39.trans (t := C.s.setVm vm0) k2 hS.1
  obtain ⟨t, o, h1, h2⟩ := r v _ q3 T'.vm T' _ ⟨X', k1, hZ2, (hS.1.alike.findClass _ _).trans k3, k4, k5, k6, k7, k8, rfl, Fr.app k10 q1, q2⟩ (V.step hC ⟨_, hS2, Nat.le_refl _⟩)
  rw [← o_push] at h1
  exact ⟨t, o, st.trans h1, h2⟩
theorem s_callV {a0 : Array Value} {index : Nat} {Cn : String} {yn zn : MethodName} {J : OInfo} {as' : Array Value} {Q' : Option Value → Heap → Prop} {argsL : List Value} {a : Addr} {ws' : List Addr} (M : oCon C.l Z n0 EL ws' zn J as' h Q') (ha : (.ref a :: argsL).toArray = as') (hsub : ∀ x ∈ ws', x ∈ ws) (E : Exa Z h a Cn)
    (w1 : (Jvm.Cond.methodLink I.own index yn).before a0 Z = true) (w2 : (Jvm.Cond.declares yn).before a0 Z = true) (w5 : (Jvm.Cond.selects Cn yn zn).before a0 Z = true) (w6 : (Jvm.Cond.instanceMethod zn).before a0 Z = true) (nf : ∀ s' : State, Z.Warmed39 s'.vm → NotFace s' yn) (w3 : (Jvm.Cond.initialized zn.cls).before a0 Z = true) (w4 : (Jvm.Cond.code zn J.bytes J.ml J.ret).before a0 Z = true) (hy : yn.cls ≠ "java/lang/invoke/MethodHandle" ∧ yn.cls ≠ "java/lang/invoke/VarHandle")
    (hlen : ∀ sig, parseMethodDescriptor yn.desc = some sig → argsL.length = sig.parameters.length) (hsz : L.size = I.ml) (hd : decode I.bytes pc = .ok (.invokevirtual index, 3)) (hq : pc + 3 = pc') (hf : J.R.frames + 1 ≤ I.R.frames) (hlo : (S.map fun v => v.category).sum + (J.ml + 11) + J.R.locals ≤ I.R.locals) (hc : cs + J.R.cells ≤ I.R.cells) (hs : sl + J.R.slots ≤ I.R.slots)
    (r : ∀ v h', Q' v h' → oRun C Z n0 I EL ws Q h' (cs + J.R.cells) (sl + J.R.slots) (mkF C.m pc' L (oPush v S))) : oRun C Z n0 I EL ws Q h cs sl (mkF C.m pc L (argsL.reverse ++ .ref a :: S)) := by
  subst hq ha
  intro vm0 T locs K V
  obtain ⟨X, k1, k2, k3, k4, k5, k6, k7, k8, k9, k10, k11⟩ := K
  obtain ⟨cq, kq, qa, qb, qc⟩ := isOf (T := T) k2 k9 E
  obtain ⟨v, _, ⟨T', L', c', s'⟩, -, X', hS, hg2, ⟨Lc, ⟨q1, q2, q3⟩, l', y', z', hC⟩, st⟩ := X.virtualBackS k1 (y := yn) (z := zn) k3 (mvT k2 w1) (mvT k2 w2) (nf _ k2) (mvT k2 w5) (mvT k2 w6) hy (o_back (W := (S.map fun v => v.category).sum) M k11 k2 w4 w3 hf hlo V.1.choose_spec V.2.2.1.1 (fun x hx => V.2.2.2 x (hsub x hx))) qa qc (g := mkF C.m pc L (argsL.reverse ++ .ref a :: S)) rfl (hsz.trans k5.symm) (Steps.refl _) (argsL := argsL) (rest := S) hlen rfl (o_zero _ _ (Nat.le_refl _) _ _ _ _) (hb k4 hd) (fun _ _ => ⟨rfl, k9, hc, hs⟩)
  dsimp only [Pt.U, Pt.locs, Pt.cells, Pt.slots] at X' l' y' z' st q2 q3 hS hg2 hC
  subst l' y' z'
  obtain ⟨kk, hk1, hk2⟩ := V.2.1
  have hS2 : C.s.Since T'.vm T'.heap.size := hk1.trans hS (Nat.le_trans hk2 (by rw [← k9]; exact hg2))
  have hZ2 : Z.Warmed39 T'.vm := State.Warmed39.trans (t := C.s.setVm vm0) k2 hS.1
  obtain ⟨t, o, h1, h2⟩ := r v _ q3 T'.vm T' _ ⟨X', k1, hZ2, (hS.1.alike.findClass _ _).trans k3, k4, k5, k6, k7, k8, rfl, Fr.app k10 q1, q2⟩ (V.step hC ⟨_, hS2, Nat.le_refl _⟩)
  rw [← o_push] at h1
  exact ⟨t, o, st.trans h1, h2⟩
theorem o_nf {a0 : Array Value} {Cn : String} {yn zn : MethodName} (w5 : (Jvm.Cond.selects Cn yn zn).before a0 Z = true) (q : yn = zn) : ∀ s' : State, Z.Warmed39 s'.vm → NotFace s' yn := by
  subst q; exact fun s' hz => notFace_of_selects (args := #[]) (mvT hz w5)
theorem o_len {d : String} {ps : List FieldType} {r : Option FieldType} (hd : parseMethodDescriptor d = some ⟨ps, r⟩) {n : Nat} (hl : n = ps.length) : ∀ sig, parseMethodDescriptor d = some sig → n = sig.parameters.length := fun sig h => by
  cases hd.symm.trans h; exact hl
theorem s_callS0 {a0 : Array Value} {index : Nat} {yn : MethodName} {J : OInfo} {Q' : Option Value → Heap → Prop} {ws' : List Addr} (M : oCon C.l Z n0 EL ws' yn J #[] h Q') (hsub : ∀ x ∈ ws', x ∈ ws) (w1 : (Jvm.Cond.methodLink I.own index yn).before a0 Z = true) (w2 : (Jvm.Cond.static yn).before a0 Z = true) (w3 : (Jvm.Cond.initialized yn.cls).before a0 Z = true) (w4 : (Jvm.Cond.code yn J.bytes J.ml J.ret).before a0 Z = true) (hy : yn.cls ≠ "java/lang/invoke/MethodHandle" ∧ yn.cls ≠ "java/lang/invoke/VarHandle")
    (hlen : ∀ sig, parseMethodDescriptor yn.desc = some sig → 0 = sig.parameters.length) (hsz : L.size = I.ml) (hd : decode I.bytes pc = .ok (.invokestatic index, 3)) (hq : pc + 3 = pc') (hf : J.R.frames + 1 ≤ I.R.frames) (hlo : (S.map fun v => v.category).sum + (J.ml + 11) + J.R.locals ≤ I.R.locals) (hc : cs + J.R.cells ≤ I.R.cells) (hs : sl + J.R.slots ≤ I.R.slots)
    (r : ∀ v h', Q' v h' → oRun C Z n0 I EL ws Q h' (cs + J.R.cells) (sl + J.R.slots) (mkF C.m pc' L (oPush v S))) : oRun C Z n0 I EL ws Q h cs sl (mkF C.m pc L (S)) := s_callS (argsL := []) M rfl hsub w1 w2 w3 w4 hy hlen hsz hd hq hf hlo hc hs r
theorem s_callI0 {a0 : Array Value} {index : Nat} {yn : MethodName} {J : OInfo} {Q' : Option Value → Heap → Prop} {a : Addr} {ws' : List Addr} (M : oCon C.l Z n0 EL ws' yn J #[.ref a] h Q') (hsub : ∀ x ∈ ws', x ∈ ws) (hr : J.ret = none) (hn : yn.name = "<init>") (w1 : (Jvm.Cond.methodLink I.own index yn).before a0 Z = true) (w2 : (Jvm.Cond.instanceMethod yn).before a0 Z = true) (w3 : (Jvm.Cond.initialized yn.cls).before a0 Z = true) (w4 : (Jvm.Cond.code yn J.bytes J.ml J.ret).before a0 Z = true) (hy : yn.cls ≠ "java/lang/invoke/MethodHandle" ∧ yn.cls ≠ "java/lang/invoke/VarHandle")
    (hlen : ∀ sig, parseMethodDescriptor yn.desc = some sig → 0 = sig.parameters.length) (hsz : L.size = I.ml) (hd : decode I.bytes pc = .ok (.invokespecial index, 3)) (hq : pc + 3 = pc') (hf : J.R.frames + 1 ≤ I.R.frames) (hlo : (S.map fun v => v.category).sum + (J.ml + 11) + J.R.locals ≤ I.R.locals) (hc : cs + J.R.cells ≤ I.R.cells) (hs : sl + J.R.slots ≤ I.R.slots)
    (r : ∀ v h', Q' v h' → oRun C Z n0 I EL ws Q h' (cs + J.R.cells) (sl + J.R.slots) (mkF C.m pc' L (oPush v S))) : oRun C Z n0 I EL ws Q h cs sl (mkF C.m pc L (.ref a :: S)) := s_callI (argsL := []) M rfl hsub hr hn w1 w2 w3 w4 hy hlen hsz hd hq hf hlo hc hs r
theorem s_callV0 {a0 : Array Value} {index : Nat} {Cn : String} {yn zn : MethodName} {J : OInfo} {Q' : Option Value → Heap → Prop} {a : Addr} {ws' : List Addr} (M : oCon C.l Z n0 EL ws' zn J #[.ref a] h Q') (hsub : ∀ x ∈ ws', x ∈ ws) (E : Exa Z h a Cn) (w1 : (Jvm.Cond.methodLink I.own index yn).before a0 Z = true) (w2 : (Jvm.Cond.declares yn).before a0 Z = true) (w5 : (Jvm.Cond.selects Cn yn zn).before a0 Z = true) (w6 : (Jvm.Cond.instanceMethod zn).before a0 Z = true) (nf : ∀ s' : State, Z.Warmed39 s'.vm → NotFace s' yn) (w3 : (Jvm.Cond.initialized zn.cls).before a0 Z = true) (w4 : (Jvm.Cond.code zn J.bytes J.ml J.ret).before a0 Z = true) (hy : yn.cls ≠ "java/lang/invoke/MethodHandle" ∧ yn.cls ≠ "java/lang/invoke/VarHandle")
    (hlen : ∀ sig, parseMethodDescriptor yn.desc = some sig → 0 = sig.parameters.length) (hsz : L.size = I.ml) (hd : decode I.bytes pc = .ok (.invokevirtual index, 3)) (hq : pc + 3 = pc') (hf : J.R.frames + 1 ≤ I.R.frames) (hlo : (S.map fun v => v.category).sum + (J.ml + 11) + J.R.locals ≤ I.R.locals) (hc : cs + J.R.cells ≤ I.R.cells) (hs : sl + J.R.slots ≤ I.R.slots)
    (r : ∀ v h', Q' v h' → oRun C Z n0 I EL ws Q h' (cs + J.R.cells) (sl + J.R.slots) (mkF C.m pc' L (oPush v S))) : oRun C Z n0 I EL ws Q h cs sl (mkF C.m pc L (.ref a :: S)) := s_callV (argsL := []) M rfl hsub E w1 w2 w5 w6 nf w3 w4 hy hlen hsz hd hq hf hlo hc hs r
theorem s_callS1 {a0 : Array Value} {index : Nat} {yn : MethodName} {J : OInfo} {Q' : Option Value → Heap → Prop} {ws' : List Addr} {v0 : Value} (M : oCon C.l Z n0 EL ws' yn J #[v0] h Q') (hsub : ∀ x ∈ ws', x ∈ ws) (w1 : (Jvm.Cond.methodLink I.own index yn).before a0 Z = true) (w2 : (Jvm.Cond.static yn).before a0 Z = true) (w3 : (Jvm.Cond.initialized yn.cls).before a0 Z = true) (w4 : (Jvm.Cond.code yn J.bytes J.ml J.ret).before a0 Z = true) (hy : yn.cls ≠ "java/lang/invoke/MethodHandle" ∧ yn.cls ≠ "java/lang/invoke/VarHandle")
    (hlen : ∀ sig, parseMethodDescriptor yn.desc = some sig → 1 = sig.parameters.length) (hsz : L.size = I.ml) (hd : decode I.bytes pc = .ok (.invokestatic index, 3)) (hq : pc + 3 = pc') (hf : J.R.frames + 1 ≤ I.R.frames) (hlo : (S.map fun v => v.category).sum + (J.ml + 11) + J.R.locals ≤ I.R.locals) (hc : cs + J.R.cells ≤ I.R.cells) (hs : sl + J.R.slots ≤ I.R.slots)
    (r : ∀ v h', Q' v h' → oRun C Z n0 I EL ws Q h' (cs + J.R.cells) (sl + J.R.slots) (mkF C.m pc' L (oPush v S))) : oRun C Z n0 I EL ws Q h cs sl (mkF C.m pc L (v0 :: S)) := s_callS (argsL := [v0]) M rfl hsub w1 w2 w3 w4 hy hlen hsz hd hq hf hlo hc hs r
theorem s_callI1 {a0 : Array Value} {index : Nat} {yn : MethodName} {J : OInfo} {Q' : Option Value → Heap → Prop} {a : Addr} {ws' : List Addr} {v0 : Value} (M : oCon C.l Z n0 EL ws' yn J #[.ref a, v0] h Q') (hsub : ∀ x ∈ ws', x ∈ ws) (hr : J.ret = none) (hn : yn.name = "<init>") (w1 : (Jvm.Cond.methodLink I.own index yn).before a0 Z = true) (w2 : (Jvm.Cond.instanceMethod yn).before a0 Z = true) (w3 : (Jvm.Cond.initialized yn.cls).before a0 Z = true) (w4 : (Jvm.Cond.code yn J.bytes J.ml J.ret).before a0 Z = true) (hy : yn.cls ≠ "java/lang/invoke/MethodHandle" ∧ yn.cls ≠ "java/lang/invoke/VarHandle")
    (hlen : ∀ sig, parseMethodDescriptor yn.desc = some sig → 1 = sig.parameters.length) (hsz : L.size = I.ml) (hd : decode I.bytes pc = .ok (.invokespecial index, 3)) (hq : pc + 3 = pc') (hf : J.R.frames + 1 ≤ I.R.frames) (hlo : (S.map fun v => v.category).sum + (J.ml + 11) + J.R.locals ≤ I.R.locals) (hc : cs + J.R.cells ≤ I.R.cells) (hs : sl + J.R.slots ≤ I.R.slots)
    (r : ∀ v h', Q' v h' → oRun C Z n0 I EL ws Q h' (cs + J.R.cells) (sl + J.R.slots) (mkF C.m pc' L (oPush v S))) : oRun C Z n0 I EL ws Q h cs sl (mkF C.m pc L (v0 :: .ref a :: S)) := s_callI (argsL := [v0]) M rfl hsub hr hn w1 w2 w3 w4 hy hlen hsz hd hq hf hlo hc hs r
theorem s_callV1 {a0 : Array Value} {index : Nat} {Cn : String} {yn zn : MethodName} {J : OInfo} {Q' : Option Value → Heap → Prop} {a : Addr} {ws' : List Addr} {v0 : Value} (M : oCon C.l Z n0 EL ws' zn J #[.ref a, v0] h Q') (hsub : ∀ x ∈ ws', x ∈ ws) (E : Exa Z h a Cn) (w1 : (Jvm.Cond.methodLink I.own index yn).before a0 Z = true) (w2 : (Jvm.Cond.declares yn).before a0 Z = true) (w5 : (Jvm.Cond.selects Cn yn zn).before a0 Z = true) (w6 : (Jvm.Cond.instanceMethod zn).before a0 Z = true) (nf : ∀ s' : State, Z.Warmed39 s'.vm → NotFace s' yn) (w3 : (Jvm.Cond.initialized zn.cls).before a0 Z = true) (w4 : (Jvm.Cond.code zn J.bytes J.ml J.ret).before a0 Z = true) (hy : yn.cls ≠ "java/lang/invoke/MethodHandle" ∧ yn.cls ≠ "java/lang/invoke/VarHandle")
    (hlen : ∀ sig, parseMethodDescriptor yn.desc = some sig → 1 = sig.parameters.length) (hsz : L.size = I.ml) (hd : decode I.bytes pc = .ok (.invokevirtual index, 3)) (hq : pc + 3 = pc') (hf : J.R.frames + 1 ≤ I.R.frames) (hlo : (S.map fun v => v.category).sum + (J.ml + 11) + J.R.locals ≤ I.R.locals) (hc : cs + J.R.cells ≤ I.R.cells) (hs : sl + J.R.slots ≤ I.R.slots)
    (r : ∀ v h', Q' v h' → oRun C Z n0 I EL ws Q h' (cs + J.R.cells) (sl + J.R.slots) (mkF C.m pc' L (oPush v S))) : oRun C Z n0 I EL ws Q h cs sl (mkF C.m pc L (v0 :: .ref a :: S)) := s_callV (argsL := [v0]) M rfl hsub E w1 w2 w5 w6 nf w3 w4 hy hlen hsz hd hq hf hlo hc hs r
theorem s_callS2 {a0 : Array Value} {index : Nat} {yn : MethodName} {J : OInfo} {Q' : Option Value → Heap → Prop} {ws' : List Addr} {v0 v1 : Value} (M : oCon C.l Z n0 EL ws' yn J #[v0, v1] h Q') (hsub : ∀ x ∈ ws', x ∈ ws) (w1 : (Jvm.Cond.methodLink I.own index yn).before a0 Z = true) (w2 : (Jvm.Cond.static yn).before a0 Z = true) (w3 : (Jvm.Cond.initialized yn.cls).before a0 Z = true) (w4 : (Jvm.Cond.code yn J.bytes J.ml J.ret).before a0 Z = true) (hy : yn.cls ≠ "java/lang/invoke/MethodHandle" ∧ yn.cls ≠ "java/lang/invoke/VarHandle")
    (hlen : ∀ sig, parseMethodDescriptor yn.desc = some sig → 2 = sig.parameters.length) (hsz : L.size = I.ml) (hd : decode I.bytes pc = .ok (.invokestatic index, 3)) (hq : pc + 3 = pc') (hf : J.R.frames + 1 ≤ I.R.frames) (hlo : (S.map fun v => v.category).sum + (J.ml + 11) + J.R.locals ≤ I.R.locals) (hc : cs + J.R.cells ≤ I.R.cells) (hs : sl + J.R.slots ≤ I.R.slots)
    (r : ∀ v h', Q' v h' → oRun C Z n0 I EL ws Q h' (cs + J.R.cells) (sl + J.R.slots) (mkF C.m pc' L (oPush v S))) : oRun C Z n0 I EL ws Q h cs sl (mkF C.m pc L (v1 :: v0 :: S)) := s_callS (argsL := [v0, v1]) M rfl hsub w1 w2 w3 w4 hy hlen hsz hd hq hf hlo hc hs r
theorem s_callI2 {a0 : Array Value} {index : Nat} {yn : MethodName} {J : OInfo} {Q' : Option Value → Heap → Prop} {a : Addr} {ws' : List Addr} {v0 v1 : Value} (M : oCon C.l Z n0 EL ws' yn J #[.ref a, v0, v1] h Q') (hsub : ∀ x ∈ ws', x ∈ ws) (hr : J.ret = none) (hn : yn.name = "<init>") (w1 : (Jvm.Cond.methodLink I.own index yn).before a0 Z = true) (w2 : (Jvm.Cond.instanceMethod yn).before a0 Z = true) (w3 : (Jvm.Cond.initialized yn.cls).before a0 Z = true) (w4 : (Jvm.Cond.code yn J.bytes J.ml J.ret).before a0 Z = true) (hy : yn.cls ≠ "java/lang/invoke/MethodHandle" ∧ yn.cls ≠ "java/lang/invoke/VarHandle")
    (hlen : ∀ sig, parseMethodDescriptor yn.desc = some sig → 2 = sig.parameters.length) (hsz : L.size = I.ml) (hd : decode I.bytes pc = .ok (.invokespecial index, 3)) (hq : pc + 3 = pc') (hf : J.R.frames + 1 ≤ I.R.frames) (hlo : (S.map fun v => v.category).sum + (J.ml + 11) + J.R.locals ≤ I.R.locals) (hc : cs + J.R.cells ≤ I.R.cells) (hs : sl + J.R.slots ≤ I.R.slots)
    (r : ∀ v h', Q' v h' → oRun C Z n0 I EL ws Q h' (cs + J.R.cells) (sl + J.R.slots) (mkF C.m pc' L (oPush v S))) : oRun C Z n0 I EL ws Q h cs sl (mkF C.m pc L (v1 :: v0 :: .ref a :: S)) := s_callI (argsL := [v0, v1]) M rfl hsub hr hn w1 w2 w3 w4 hy hlen hsz hd hq hf hlo hc hs r
theorem s_callV2 {a0 : Array Value} {index : Nat} {Cn : String} {yn zn : MethodName} {J : OInfo} {Q' : Option Value → Heap → Prop} {a : Addr} {ws' : List Addr} {v0 v1 : Value} (M : oCon C.l Z n0 EL ws' zn J #[.ref a, v0, v1] h Q') (hsub : ∀ x ∈ ws', x ∈ ws) (E : Exa Z h a Cn) (w1 : (Jvm.Cond.methodLink I.own index yn).before a0 Z = true) (w2 : (Jvm.Cond.declares yn).before a0 Z = true) (w5 : (Jvm.Cond.selects Cn yn zn).before a0 Z = true) (w6 : (Jvm.Cond.instanceMethod zn).before a0 Z = true) (nf : ∀ s' : State, Z.Warmed39 s'.vm → NotFace s' yn) (w3 : (Jvm.Cond.initialized zn.cls).before a0 Z = true) (w4 : (Jvm.Cond.code zn J.bytes J.ml J.ret).before a0 Z = true) (hy : yn.cls ≠ "java/lang/invoke/MethodHandle" ∧ yn.cls ≠ "java/lang/invoke/VarHandle")
    (hlen : ∀ sig, parseMethodDescriptor yn.desc = some sig → 2 = sig.parameters.length) (hsz : L.size = I.ml) (hd : decode I.bytes pc = .ok (.invokevirtual index, 3)) (hq : pc + 3 = pc') (hf : J.R.frames + 1 ≤ I.R.frames) (hlo : (S.map fun v => v.category).sum + (J.ml + 11) + J.R.locals ≤ I.R.locals) (hc : cs + J.R.cells ≤ I.R.cells) (hs : sl + J.R.slots ≤ I.R.slots)
    (r : ∀ v h', Q' v h' → oRun C Z n0 I EL ws Q h' (cs + J.R.cells) (sl + J.R.slots) (mkF C.m pc' L (oPush v S))) : oRun C Z n0 I EL ws Q h cs sl (mkF C.m pc L (v1 :: v0 :: .ref a :: S)) := s_callV (argsL := [v0, v1]) M rfl hsub E w1 w2 w5 w6 nf w3 w4 hy hlen hsz hd hq hf hlo hc hs r
theorem s_callS3 {a0 : Array Value} {index : Nat} {yn : MethodName} {J : OInfo} {Q' : Option Value → Heap → Prop} {ws' : List Addr} {v0 v1 v2 : Value} (M : oCon C.l Z n0 EL ws' yn J #[v0, v1, v2] h Q') (hsub : ∀ x ∈ ws', x ∈ ws) (w1 : (Jvm.Cond.methodLink I.own index yn).before a0 Z = true) (w2 : (Jvm.Cond.static yn).before a0 Z = true) (w3 : (Jvm.Cond.initialized yn.cls).before a0 Z = true) (w4 : (Jvm.Cond.code yn J.bytes J.ml J.ret).before a0 Z = true) (hy : yn.cls ≠ "java/lang/invoke/MethodHandle" ∧ yn.cls ≠ "java/lang/invoke/VarHandle")
    (hlen : ∀ sig, parseMethodDescriptor yn.desc = some sig → 3 = sig.parameters.length) (hsz : L.size = I.ml) (hd : decode I.bytes pc = .ok (.invokestatic index, 3)) (hq : pc + 3 = pc') (hf : J.R.frames + 1 ≤ I.R.frames) (hlo : (S.map fun v => v.category).sum + (J.ml + 11) + J.R.locals ≤ I.R.locals) (hc : cs + J.R.cells ≤ I.R.cells) (hs : sl + J.R.slots ≤ I.R.slots)
    (r : ∀ v h', Q' v h' → oRun C Z n0 I EL ws Q h' (cs + J.R.cells) (sl + J.R.slots) (mkF C.m pc' L (oPush v S))) : oRun C Z n0 I EL ws Q h cs sl (mkF C.m pc L (v2 :: v1 :: v0 :: S)) := s_callS (argsL := [v0, v1, v2]) M rfl hsub w1 w2 w3 w4 hy hlen hsz hd hq hf hlo hc hs r
theorem s_callI3 {a0 : Array Value} {index : Nat} {yn : MethodName} {J : OInfo} {Q' : Option Value → Heap → Prop} {a : Addr} {ws' : List Addr} {v0 v1 v2 : Value} (M : oCon C.l Z n0 EL ws' yn J #[.ref a, v0, v1, v2] h Q') (hsub : ∀ x ∈ ws', x ∈ ws) (hr : J.ret = none) (hn : yn.name = "<init>") (w1 : (Jvm.Cond.methodLink I.own index yn).before a0 Z = true) (w2 : (Jvm.Cond.instanceMethod yn).before a0 Z = true) (w3 : (Jvm.Cond.initialized yn.cls).before a0 Z = true) (w4 : (Jvm.Cond.code yn J.bytes J.ml J.ret).before a0 Z = true) (hy : yn.cls ≠ "java/lang/invoke/MethodHandle" ∧ yn.cls ≠ "java/lang/invoke/VarHandle")
    (hlen : ∀ sig, parseMethodDescriptor yn.desc = some sig → 3 = sig.parameters.length) (hsz : L.size = I.ml) (hd : decode I.bytes pc = .ok (.invokespecial index, 3)) (hq : pc + 3 = pc') (hf : J.R.frames + 1 ≤ I.R.frames) (hlo : (S.map fun v => v.category).sum + (J.ml + 11) + J.R.locals ≤ I.R.locals) (hc : cs + J.R.cells ≤ I.R.cells) (hs : sl + J.R.slots ≤ I.R.slots)
    (r : ∀ v h', Q' v h' → oRun C Z n0 I EL ws Q h' (cs + J.R.cells) (sl + J.R.slots) (mkF C.m pc' L (oPush v S))) : oRun C Z n0 I EL ws Q h cs sl (mkF C.m pc L (v2 :: v1 :: v0 :: .ref a :: S)) := s_callI (argsL := [v0, v1, v2]) M rfl hsub hr hn w1 w2 w3 w4 hy hlen hsz hd hq hf hlo hc hs r
theorem s_callV3 {a0 : Array Value} {index : Nat} {Cn : String} {yn zn : MethodName} {J : OInfo} {Q' : Option Value → Heap → Prop} {a : Addr} {ws' : List Addr} {v0 v1 v2 : Value} (M : oCon C.l Z n0 EL ws' zn J #[.ref a, v0, v1, v2] h Q') (hsub : ∀ x ∈ ws', x ∈ ws) (E : Exa Z h a Cn) (w1 : (Jvm.Cond.methodLink I.own index yn).before a0 Z = true) (w2 : (Jvm.Cond.declares yn).before a0 Z = true) (w5 : (Jvm.Cond.selects Cn yn zn).before a0 Z = true) (w6 : (Jvm.Cond.instanceMethod zn).before a0 Z = true) (nf : ∀ s' : State, Z.Warmed39 s'.vm → NotFace s' yn) (w3 : (Jvm.Cond.initialized zn.cls).before a0 Z = true) (w4 : (Jvm.Cond.code zn J.bytes J.ml J.ret).before a0 Z = true) (hy : yn.cls ≠ "java/lang/invoke/MethodHandle" ∧ yn.cls ≠ "java/lang/invoke/VarHandle")
    (hlen : ∀ sig, parseMethodDescriptor yn.desc = some sig → 3 = sig.parameters.length) (hsz : L.size = I.ml) (hd : decode I.bytes pc = .ok (.invokevirtual index, 3)) (hq : pc + 3 = pc') (hf : J.R.frames + 1 ≤ I.R.frames) (hlo : (S.map fun v => v.category).sum + (J.ml + 11) + J.R.locals ≤ I.R.locals) (hc : cs + J.R.cells ≤ I.R.cells) (hs : sl + J.R.slots ≤ I.R.slots)
    (r : ∀ v h', Q' v h' → oRun C Z n0 I EL ws Q h' (cs + J.R.cells) (sl + J.R.slots) (mkF C.m pc' L (oPush v S))) : oRun C Z n0 I EL ws Q h cs sl (mkF C.m pc L (v2 :: v1 :: v0 :: .ref a :: S)) := s_callV (argsL := [v0, v1, v2]) M rfl hsub E w1 w2 w5 w6 nf w3 w4 hy hlen hsz hd hq hf hlo hc hs r
theorem s_callS4 {a0 : Array Value} {index : Nat} {yn : MethodName} {J : OInfo} {Q' : Option Value → Heap → Prop} {ws' : List Addr} {v0 v1 v2 v3 : Value} (M : oCon C.l Z n0 EL ws' yn J #[v0, v1, v2, v3] h Q') (hsub : ∀ x ∈ ws', x ∈ ws) (w1 : (Jvm.Cond.methodLink I.own index yn).before a0 Z = true) (w2 : (Jvm.Cond.static yn).before a0 Z = true) (w3 : (Jvm.Cond.initialized yn.cls).before a0 Z = true) (w4 : (Jvm.Cond.code yn J.bytes J.ml J.ret).before a0 Z = true) (hy : yn.cls ≠ "java/lang/invoke/MethodHandle" ∧ yn.cls ≠ "java/lang/invoke/VarHandle")
    (hlen : ∀ sig, parseMethodDescriptor yn.desc = some sig → 4 = sig.parameters.length) (hsz : L.size = I.ml) (hd : decode I.bytes pc = .ok (.invokestatic index, 3)) (hq : pc + 3 = pc') (hf : J.R.frames + 1 ≤ I.R.frames) (hlo : (S.map fun v => v.category).sum + (J.ml + 11) + J.R.locals ≤ I.R.locals) (hc : cs + J.R.cells ≤ I.R.cells) (hs : sl + J.R.slots ≤ I.R.slots)
    (r : ∀ v h', Q' v h' → oRun C Z n0 I EL ws Q h' (cs + J.R.cells) (sl + J.R.slots) (mkF C.m pc' L (oPush v S))) : oRun C Z n0 I EL ws Q h cs sl (mkF C.m pc L (v3 :: v2 :: v1 :: v0 :: S)) := s_callS (argsL := [v0, v1, v2, v3]) M rfl hsub w1 w2 w3 w4 hy hlen hsz hd hq hf hlo hc hs r
theorem s_callI4 {a0 : Array Value} {index : Nat} {yn : MethodName} {J : OInfo} {Q' : Option Value → Heap → Prop} {a : Addr} {ws' : List Addr} {v0 v1 v2 v3 : Value} (M : oCon C.l Z n0 EL ws' yn J #[.ref a, v0, v1, v2, v3] h Q') (hsub : ∀ x ∈ ws', x ∈ ws) (hr : J.ret = none) (hn : yn.name = "<init>") (w1 : (Jvm.Cond.methodLink I.own index yn).before a0 Z = true) (w2 : (Jvm.Cond.instanceMethod yn).before a0 Z = true) (w3 : (Jvm.Cond.initialized yn.cls).before a0 Z = true) (w4 : (Jvm.Cond.code yn J.bytes J.ml J.ret).before a0 Z = true) (hy : yn.cls ≠ "java/lang/invoke/MethodHandle" ∧ yn.cls ≠ "java/lang/invoke/VarHandle")
    (hlen : ∀ sig, parseMethodDescriptor yn.desc = some sig → 4 = sig.parameters.length) (hsz : L.size = I.ml) (hd : decode I.bytes pc = .ok (.invokespecial index, 3)) (hq : pc + 3 = pc') (hf : J.R.frames + 1 ≤ I.R.frames) (hlo : (S.map fun v => v.category).sum + (J.ml + 11) + J.R.locals ≤ I.R.locals) (hc : cs + J.R.cells ≤ I.R.cells) (hs : sl + J.R.slots ≤ I.R.slots)
    (r : ∀ v h', Q' v h' → oRun C Z n0 I EL ws Q h' (cs + J.R.cells) (sl + J.R.slots) (mkF C.m pc' L (oPush v S))) : oRun C Z n0 I EL ws Q h cs sl (mkF C.m pc L (v3 :: v2 :: v1 :: v0 :: .ref a :: S)) := s_callI (argsL := [v0, v1, v2, v3]) M rfl hsub hr hn w1 w2 w3 w4 hy hlen hsz hd hq hf hlo hc hs r
theorem s_callV4 {a0 : Array Value} {index : Nat} {Cn : String} {yn zn : MethodName} {J : OInfo} {Q' : Option Value → Heap → Prop} {a : Addr} {ws' : List Addr} {v0 v1 v2 v3 : Value} (M : oCon C.l Z n0 EL ws' zn J #[.ref a, v0, v1, v2, v3] h Q') (hsub : ∀ x ∈ ws', x ∈ ws) (E : Exa Z h a Cn) (w1 : (Jvm.Cond.methodLink I.own index yn).before a0 Z = true) (w2 : (Jvm.Cond.declares yn).before a0 Z = true) (w5 : (Jvm.Cond.selects Cn yn zn).before a0 Z = true) (w6 : (Jvm.Cond.instanceMethod zn).before a0 Z = true) (nf : ∀ s' : State, Z.Warmed39 s'.vm → NotFace s' yn) (w3 : (Jvm.Cond.initialized zn.cls).before a0 Z = true) (w4 : (Jvm.Cond.code zn J.bytes J.ml J.ret).before a0 Z = true) (hy : yn.cls ≠ "java/lang/invoke/MethodHandle" ∧ yn.cls ≠ "java/lang/invoke/VarHandle")
    (hlen : ∀ sig, parseMethodDescriptor yn.desc = some sig → 4 = sig.parameters.length) (hsz : L.size = I.ml) (hd : decode I.bytes pc = .ok (.invokevirtual index, 3)) (hq : pc + 3 = pc') (hf : J.R.frames + 1 ≤ I.R.frames) (hlo : (S.map fun v => v.category).sum + (J.ml + 11) + J.R.locals ≤ I.R.locals) (hc : cs + J.R.cells ≤ I.R.cells) (hs : sl + J.R.slots ≤ I.R.slots)
    (r : ∀ v h', Q' v h' → oRun C Z n0 I EL ws Q h' (cs + J.R.cells) (sl + J.R.slots) (mkF C.m pc' L (oPush v S))) : oRun C Z n0 I EL ws Q h cs sl (mkF C.m pc L (v3 :: v2 :: v1 :: v0 :: .ref a :: S)) := s_callV (argsL := [v0, v1, v2, v3]) M rfl hsub E w1 w2 w5 w6 nf w3 w4 hy hlen hsz hd hq hf hlo hc hs r
theorem s_callS5 {a0 : Array Value} {index : Nat} {yn : MethodName} {J : OInfo} {Q' : Option Value → Heap → Prop} {ws' : List Addr} {v0 v1 v2 v3 v4 : Value} (M : oCon C.l Z n0 EL ws' yn J #[v0, v1, v2, v3, v4] h Q') (hsub : ∀ x ∈ ws', x ∈ ws) (w1 : (Jvm.Cond.methodLink I.own index yn).before a0 Z = true) (w2 : (Jvm.Cond.static yn).before a0 Z = true) (w3 : (Jvm.Cond.initialized yn.cls).before a0 Z = true) (w4 : (Jvm.Cond.code yn J.bytes J.ml J.ret).before a0 Z = true) (hy : yn.cls ≠ "java/lang/invoke/MethodHandle" ∧ yn.cls ≠ "java/lang/invoke/VarHandle")
    (hlen : ∀ sig, parseMethodDescriptor yn.desc = some sig → 5 = sig.parameters.length) (hsz : L.size = I.ml) (hd : decode I.bytes pc = .ok (.invokestatic index, 3)) (hq : pc + 3 = pc') (hf : J.R.frames + 1 ≤ I.R.frames) (hlo : (S.map fun v => v.category).sum + (J.ml + 11) + J.R.locals ≤ I.R.locals) (hc : cs + J.R.cells ≤ I.R.cells) (hs : sl + J.R.slots ≤ I.R.slots)
    (r : ∀ v h', Q' v h' → oRun C Z n0 I EL ws Q h' (cs + J.R.cells) (sl + J.R.slots) (mkF C.m pc' L (oPush v S))) : oRun C Z n0 I EL ws Q h cs sl (mkF C.m pc L (v4 :: v3 :: v2 :: v1 :: v0 :: S)) := s_callS (argsL := [v0, v1, v2, v3, v4]) M rfl hsub w1 w2 w3 w4 hy hlen hsz hd hq hf hlo hc hs r
theorem s_callI5 {a0 : Array Value} {index : Nat} {yn : MethodName} {J : OInfo} {Q' : Option Value → Heap → Prop} {a : Addr} {ws' : List Addr} {v0 v1 v2 v3 v4 : Value} (M : oCon C.l Z n0 EL ws' yn J #[.ref a, v0, v1, v2, v3, v4] h Q') (hsub : ∀ x ∈ ws', x ∈ ws) (hr : J.ret = none) (hn : yn.name = "<init>") (w1 : (Jvm.Cond.methodLink I.own index yn).before a0 Z = true) (w2 : (Jvm.Cond.instanceMethod yn).before a0 Z = true) (w3 : (Jvm.Cond.initialized yn.cls).before a0 Z = true) (w4 : (Jvm.Cond.code yn J.bytes J.ml J.ret).before a0 Z = true) (hy : yn.cls ≠ "java/lang/invoke/MethodHandle" ∧ yn.cls ≠ "java/lang/invoke/VarHandle")
    (hlen : ∀ sig, parseMethodDescriptor yn.desc = some sig → 5 = sig.parameters.length) (hsz : L.size = I.ml) (hd : decode I.bytes pc = .ok (.invokespecial index, 3)) (hq : pc + 3 = pc') (hf : J.R.frames + 1 ≤ I.R.frames) (hlo : (S.map fun v => v.category).sum + (J.ml + 11) + J.R.locals ≤ I.R.locals) (hc : cs + J.R.cells ≤ I.R.cells) (hs : sl + J.R.slots ≤ I.R.slots)
    (r : ∀ v h', Q' v h' → oRun C Z n0 I EL ws Q h' (cs + J.R.cells) (sl + J.R.slots) (mkF C.m pc' L (oPush v S))) : oRun C Z n0 I EL ws Q h cs sl (mkF C.m pc L (v4 :: v3 :: v2 :: v1 :: v0 :: .ref a :: S)) := s_callI (argsL := [v0, v1, v2, v3, v4]) M rfl hsub hr hn w1 w2 w3 w4 hy hlen hsz hd hq hf hlo hc hs r
theorem s_callV5 {a0 : Array Value} {index : Nat} {Cn : String} {yn zn : MethodName} {J : OInfo} {Q' : Option Value → Heap → Prop} {a : Addr} {ws' : List Addr} {v0 v1 v2 v3 v4 : Value} (M : oCon C.l Z n0 EL ws' zn J #[.ref a, v0, v1, v2, v3, v4] h Q') (hsub : ∀ x ∈ ws', x ∈ ws) (E : Exa Z h a Cn) (w1 : (Jvm.Cond.methodLink I.own index yn).before a0 Z = true) (w2 : (Jvm.Cond.declares yn).before a0 Z = true) (w5 : (Jvm.Cond.selects Cn yn zn).before a0 Z = true) (w6 : (Jvm.Cond.instanceMethod zn).before a0 Z = true) (nf : ∀ s' : State, Z.Warmed39 s'.vm → NotFace s' yn) (w3 : (Jvm.Cond.initialized zn.cls).before a0 Z = true) (w4 : (Jvm.Cond.code zn J.bytes J.ml J.ret).before a0 Z = true) (hy : yn.cls ≠ "java/lang/invoke/MethodHandle" ∧ yn.cls ≠ "java/lang/invoke/VarHandle")
    (hlen : ∀ sig, parseMethodDescriptor yn.desc = some sig → 5 = sig.parameters.length) (hsz : L.size = I.ml) (hd : decode I.bytes pc = .ok (.invokevirtual index, 3)) (hq : pc + 3 = pc') (hf : J.R.frames + 1 ≤ I.R.frames) (hlo : (S.map fun v => v.category).sum + (J.ml + 11) + J.R.locals ≤ I.R.locals) (hc : cs + J.R.cells ≤ I.R.cells) (hs : sl + J.R.slots ≤ I.R.slots)
    (r : ∀ v h', Q' v h' → oRun C Z n0 I EL ws Q h' (cs + J.R.cells) (sl + J.R.slots) (mkF C.m pc' L (oPush v S))) : oRun C Z n0 I EL ws Q h cs sl (mkF C.m pc L (v4 :: v3 :: v2 :: v1 :: v0 :: .ref a :: S)) := s_callV (argsL := [v0, v1, v2, v3, v4]) M rfl hsub E w1 w2 w5 w6 nf w3 w4 hy hlen hsz hd hq hf hlo hc hs r
theorem s_callS6 {a0 : Array Value} {index : Nat} {yn : MethodName} {J : OInfo} {Q' : Option Value → Heap → Prop} {ws' : List Addr} {v0 v1 v2 v3 v4 v5 : Value} (M : oCon C.l Z n0 EL ws' yn J #[v0, v1, v2, v3, v4, v5] h Q') (hsub : ∀ x ∈ ws', x ∈ ws) (w1 : (Jvm.Cond.methodLink I.own index yn).before a0 Z = true) (w2 : (Jvm.Cond.static yn).before a0 Z = true) (w3 : (Jvm.Cond.initialized yn.cls).before a0 Z = true) (w4 : (Jvm.Cond.code yn J.bytes J.ml J.ret).before a0 Z = true) (hy : yn.cls ≠ "java/lang/invoke/MethodHandle" ∧ yn.cls ≠ "java/lang/invoke/VarHandle")
    (hlen : ∀ sig, parseMethodDescriptor yn.desc = some sig → 6 = sig.parameters.length) (hsz : L.size = I.ml) (hd : decode I.bytes pc = .ok (.invokestatic index, 3)) (hq : pc + 3 = pc') (hf : J.R.frames + 1 ≤ I.R.frames) (hlo : (S.map fun v => v.category).sum + (J.ml + 11) + J.R.locals ≤ I.R.locals) (hc : cs + J.R.cells ≤ I.R.cells) (hs : sl + J.R.slots ≤ I.R.slots)
    (r : ∀ v h', Q' v h' → oRun C Z n0 I EL ws Q h' (cs + J.R.cells) (sl + J.R.slots) (mkF C.m pc' L (oPush v S))) : oRun C Z n0 I EL ws Q h cs sl (mkF C.m pc L (v5 :: v4 :: v3 :: v2 :: v1 :: v0 :: S)) := s_callS (argsL := [v0, v1, v2, v3, v4, v5]) M rfl hsub w1 w2 w3 w4 hy hlen hsz hd hq hf hlo hc hs r
theorem s_callI6 {a0 : Array Value} {index : Nat} {yn : MethodName} {J : OInfo} {Q' : Option Value → Heap → Prop} {a : Addr} {ws' : List Addr} {v0 v1 v2 v3 v4 v5 : Value} (M : oCon C.l Z n0 EL ws' yn J #[.ref a, v0, v1, v2, v3, v4, v5] h Q') (hsub : ∀ x ∈ ws', x ∈ ws) (hr : J.ret = none) (hn : yn.name = "<init>") (w1 : (Jvm.Cond.methodLink I.own index yn).before a0 Z = true) (w2 : (Jvm.Cond.instanceMethod yn).before a0 Z = true) (w3 : (Jvm.Cond.initialized yn.cls).before a0 Z = true) (w4 : (Jvm.Cond.code yn J.bytes J.ml J.ret).before a0 Z = true) (hy : yn.cls ≠ "java/lang/invoke/MethodHandle" ∧ yn.cls ≠ "java/lang/invoke/VarHandle")
    (hlen : ∀ sig, parseMethodDescriptor yn.desc = some sig → 6 = sig.parameters.length) (hsz : L.size = I.ml) (hd : decode I.bytes pc = .ok (.invokespecial index, 3)) (hq : pc + 3 = pc') (hf : J.R.frames + 1 ≤ I.R.frames) (hlo : (S.map fun v => v.category).sum + (J.ml + 11) + J.R.locals ≤ I.R.locals) (hc : cs + J.R.cells ≤ I.R.cells) (hs : sl + J.R.slots ≤ I.R.slots)
    (r : ∀ v h', Q' v h' → oRun C Z n0 I EL ws Q h' (cs + J.R.cells) (sl + J.R.slots) (mkF C.m pc' L (oPush v S))) : oRun C Z n0 I EL ws Q h cs sl (mkF C.m pc L (v5 :: v4 :: v3 :: v2 :: v1 :: v0 :: .ref a :: S)) := s_callI (argsL := [v0, v1, v2, v3, v4, v5]) M rfl hsub hr hn w1 w2 w3 w4 hy hlen hsz hd hq hf hlo hc hs r
theorem s_callV6 {a0 : Array Value} {index : Nat} {Cn : String} {yn zn : MethodName} {J : OInfo} {Q' : Option Value → Heap → Prop} {a : Addr} {ws' : List Addr} {v0 v1 v2 v3 v4 v5 : Value} (M : oCon C.l Z n0 EL ws' zn J #[.ref a, v0, v1, v2, v3, v4, v5] h Q') (hsub : ∀ x ∈ ws', x ∈ ws) (E : Exa Z h a Cn) (w1 : (Jvm.Cond.methodLink I.own index yn).before a0 Z = true) (w2 : (Jvm.Cond.declares yn).before a0 Z = true) (w5 : (Jvm.Cond.selects Cn yn zn).before a0 Z = true) (w6 : (Jvm.Cond.instanceMethod zn).before a0 Z = true) (nf : ∀ s' : State, Z.Warmed39 s'.vm → NotFace s' yn) (w3 : (Jvm.Cond.initialized zn.cls).before a0 Z = true) (w4 : (Jvm.Cond.code zn J.bytes J.ml J.ret).before a0 Z = true) (hy : yn.cls ≠ "java/lang/invoke/MethodHandle" ∧ yn.cls ≠ "java/lang/invoke/VarHandle")
    (hlen : ∀ sig, parseMethodDescriptor yn.desc = some sig → 6 = sig.parameters.length) (hsz : L.size = I.ml) (hd : decode I.bytes pc = .ok (.invokevirtual index, 3)) (hq : pc + 3 = pc') (hf : J.R.frames + 1 ≤ I.R.frames) (hlo : (S.map fun v => v.category).sum + (J.ml + 11) + J.R.locals ≤ I.R.locals) (hc : cs + J.R.cells ≤ I.R.cells) (hs : sl + J.R.slots ≤ I.R.slots)
    (r : ∀ v h', Q' v h' → oRun C Z n0 I EL ws Q h' (cs + J.R.cells) (sl + J.R.slots) (mkF C.m pc' L (oPush v S))) : oRun C Z n0 I EL ws Q h cs sl (mkF C.m pc L (v5 :: v4 :: v3 :: v2 :: v1 :: v0 :: .ref a :: S)) := s_callV (argsL := [v0, v1, v2, v3, v4, v5]) M rfl hsub E w1 w2 w5 w6 nf w3 w4 hy hlen hsz hd hq hf hlo hc hs r
-- the ends
theorem s_end {v : Option Value} {g : JFrame} (hc : cs ≤ I.R.cells) (hs : sl ≤ I.R.slots) (hv : I.ret = none → v = none) (hQ : Q v h)
    (st : ∀ {s0 : State} T locs fs, oK C s0 Z n0 I T locs cs sl h → (∀ (f : JFrame) (acts : List Action), f.method = C.m → f.locked = none → f.entered = [] → (doReturn C.e (T.setTop f) acts v).1 = T.setFrames fs) → Steps C.p.tables C.e C.below (T.setTop g) (T.setFrames fs)) : oRun C Z n0 I EL ws Q h cs sl g := by
  intro vm0 T locs K V
  have K0 := K
  obtain ⟨X, k1, k2, k3, k4, k5, k6, k7, k8, k9, k10, k11⟩ := K
  obtain ⟨kk, hk1, hk2⟩ := V.2.1
  obtain ⟨fs, hr, hrun, hended, hE⟩ := X.leaveW hk1 (by rw [k9]; exact hk2) (v := v) (fun q => hv (k6.symm.trans q)) k8
  refine ⟨_, _, st T locs fs K0 hr, hrun, hended, v, locs, rfl, ⟨k10, ?_, ?_⟩, ?_, hE.1, hE.2.1, hE.2.2.1, hE.2.2.2.mono hc hs⟩
  · show Old Z n0 T.heap; rw [k9]; exact k11
  · show Q v T.heap; rw [k9]; exact hQ
  · obtain ⟨a1, hEL⟩ := V.1
    show CHr Z EL C.s.vm C.s.heap T.vm T.heap
    rw [k9]
    exact V.2.2.1.trans (CHv.at X k2 hEL V.2.2.1.1)
-- a String constant, loaded and read
theorem s_ldcS {a0 : Array Value} {idx : Nat} {text : String} {vs : List Value} {z : Int32} (n : Nat) (w : (Jvm.Cond.stringLink I.own idx text).before a0 Z = true) (wS : ∀ d ∈ Bundle.stringAtoms, d.before a0 Z = true) (hEL : EW Z a0 EL) (hmem : (I.own, idx) ∈ EL)
    (ht : (∀ c ∈ text.toList, c.toNat < 256) ∧ text.toList.map (fun c => Value.int (Jvm.Lit.byteI c.toNat.toUInt16)) = vs) (hz : ¬ z < 0) (hl : z.toNatClampNeg = vs.length) (hd : decode I.bytes pc = .ok (.ldc idx, 2)) (hq : pc + 2 = pc') (hn : 4 * text.toList.length ≤ n) (hbig : n ≤ 536870912) (hc : cs + 2 ≤ I.R.cells) (hl' : sl + (n + 4) ≤ I.R.slots)
    (r : ∀ h' a b k, Ext h h' → Exa Z h' a "java/lang/String" → Fld Z h' a "java/lang/String" "coder" "B" (.int 0) → Fld Z h' a "java/lang/String" "value" "[B" (.ref b) → Arv Z h' b k .byte z vs (.int 0) → (∀ x ∈ ws, x ≠ a ∧ x ≠ b) → oRun C Z n0 I EL ws Q h' (cs + 2) (sl + (n + 4)) (mkF C.m pc' L (.ref a :: S))) : oRun C Z n0 I EL ws Q h cs sl (mkF C.m pc L S) := by
  subst hq
  intro vm0 T locs K V
  obtain ⟨X, k1, k2, k3, k4, k5, k6, k7, k8, k9, k10, k11⟩ := K
  obtain ⟨kk, hk1, hk2⟩ := V.2.1
  obtain ⟨a, T', h', kn, b, k, X', e', E, hS, hk', hZ', ho', A1, A2, A3, A4, -, -, hC, -, hsafe, st⟩ := ldcCH X k1 k2 k3 w wS k9 hk1 hk2 hEL hmem V.2.2.1.1 ht hz hl (g := mkF C.m pc L S) rfl (hb k4 hd) hn hbig hc hl'
  have V' := V.step hC ⟨kn, hS, hk'⟩
  obtain ⟨t, o, h1, h2⟩ := r h' a b k E A1 A2 A3 A4 (fun x hx => hsafe x (V'.2.2.2 x hx).1) T'.vm T' _ ⟨X', k1, hZ', ho', k4, k5, k6, k7, k8, e', k10, k11.ext E⟩ V'
  exact ⟨t, o, st t h1, h2⟩
theorem s_weak {ws' : List Addr} {g : JFrame} (q : ∀ x ∈ ws', x ∈ ws) (r : oRun C Z n0 I EL ws' Q h cs sl g) : oRun C Z n0 I EL ws Q h cs sl g := fun vm0 T locs K V => r vm0 T locs K (V.sub q)
theorem s_ret (hr : I.ret = none) (hd : decode I.bytes pc = .ok (.return_, 1)) (hc : cs ≤ I.R.cells) (hs : sl ≤ I.R.slots) (hQ : Q none h) : oRun C Z n0 I EL ws Q h cs sl (mkF C.m pc L []) :=
  s_end hc hs (fun _ => rfl) hQ fun T locs fs K hl => K.1.returnOut K.2.1 (K.2.2.2.2.2.2.1.trans hr) (hb K.2.2.2.2.1 hd) hl
theorem s_iret (hr : I.ret = some .int) (hd : decode I.bytes pc = .ok (.ireturn, 1)) (hc : cs ≤ I.R.cells) (hs : sl ≤ I.R.slots) (hQ : Q (some (.int x)) h) : oRun C Z n0 I EL ws Q h cs sl (mkF C.m pc L (.int x :: S)) :=
  s_end hc hs (fun q => by rw [hr] at q; cases q) hQ fun T locs fs K hl => retI K.1 K.2.1 (K.2.2.2.2.2.2.1.trans hr) (hb K.2.2.2.2.1 hd) hl
theorem s_nret {t : FieldType} (hr : I.ret = some t) (ht : t = .boolean ∨ t = .byte ∨ t = .char ∨ t = .short) (hd : decode I.bytes pc = .ok (.ireturn, 1)) (hc : cs ≤ I.R.cells) (hs : sl ≤ I.R.slots) (hQ : Q (some (.int (nar t x))) h) : oRun C Z n0 I EL ws Q h cs sl (mkF C.m pc L (.int x :: S)) :=
  s_end hc hs (fun q => by rw [hr] at q; cases q) hQ fun T locs fs K hl => retN K.1 K.2.1 (K.2.2.2.2.2.2.1.trans hr) ht (hb K.2.2.2.2.1 hd) hl
theorem s_aret {t : FieldType} {v : Value} (hr : I.ret = some t) (ht : t.isReference = true) (hv : v.isRef = true) (hd : decode I.bytes pc = .ok (.areturn, 1)) (hc : cs ≤ I.R.cells) (hs : sl ≤ I.R.slots) (hQ : Q (some v) h) : oRun C Z n0 I EL ws Q h cs sl (mkF C.m pc L (v :: S)) :=
  s_end hc hs (fun q => by rw [hr] at q; cases q) hQ fun T locs fs K hl => by
    have X := K.1
    have hx := K.2.1
    have hd' := hb K.2.2.2.2.1 hd
    have hret := K.2.2.2.2.2.2.1.trans hr
    have hm' : T.vm.method? C.m = some C.meth := X.method'
    show Steps C.p.tables C.e C.below (T.setTop { method := C.m, pc := pc, locals := L, stack := v :: S, locked := none }) _
    jvm_step X.here [X.here.top, hx, hd', hm', hret, hv, ht]
    first | (intro acts; rw [hl _ acts rfl rfl rfl]) | rw [hl _ _ rfl rfl rfl]
    exact Steps.refl _
end OwnCore
-- OWN: Strings of Latin-1 chars
abbrev byt (c : Int32) : Int32 := c.toInt8.toInt32
def Ch (cs : List Int32) : Prop := ∀ c ∈ cs, ¬ c < 0 ∧ ¬ (255 : Int32) < c
theorem o_lt {x y : Int32} : x < y ↔ x.toInt < y.toInt := Int32.lt_iff_toInt_lt
theorem o_eq {x y : Int32} : x = y ↔ x.toInt = y.toInt := ⟨fun h => by rw [h], Int32.toInt_inj.mp⟩
theorem byt_byt (c : Int32) : nar .byte (byt c) = byt c := by show (c.toInt8.toInt32).toInt8.toInt32 = _; rw [Int8.toInt8_toInt32]
theorem c_byt {c : Int32} (h : ¬ c < 0 ∧ ¬ (255 : Int32) < c) : (byt c).toInt = if c.toInt < 128 then c.toInt else c.toInt - 256 := by
  have q := c_i2b c
  have h1 : ¬ c.toInt < (0 : Int32).toInt := fun z => h.1 (o_lt.mpr z)
  have h2 : ¬ (255 : Int32).toInt < c.toInt := fun z => h.2 (o_lt.mpr z)
  have e1 : (0 : Int32).toInt = 0 := rfl
  have e2 : (255 : Int32).toInt = 255 := rfl
  rw [e1] at h1; rw [e2] at h2
  show c.toInt8.toInt32.toInt = _
  split <;> omega
theorem byt_inj {c d : Int32} (hc : ¬ c < 0 ∧ ¬ (255 : Int32) < c) (hd : ¬ d < 0 ∧ ¬ (255 : Int32) < d) (h : byt c = byt d) : c = d := by
  have h' : (byt c).toInt = (byt d).toInt := by rw [h]
  rw [c_byt hc, c_byt hd] at h'
  have h1 : ¬ c.toInt < (0 : Int32).toInt := fun z => hc.1 (o_lt.mpr z)
  have h2 : ¬ (255 : Int32).toInt < c.toInt := fun z => hc.2 (o_lt.mpr z)
  have h3 : ¬ d.toInt < (0 : Int32).toInt := fun z => hd.1 (o_lt.mpr z)
  have h4 : ¬ (255 : Int32).toInt < d.toInt := fun z => hd.2 (o_lt.mpr z)
  have e1 : (0 : Int32).toInt = 0 := rfl
  have e2 : (255 : Int32).toInt = 255 := rfl
  rw [e1] at h1 h3; rw [e2] at h2 h4
  rw [o_eq]
  split at h' <;> split at h' <;> omega
theorem byt_and {c : Int32} (h : ¬ c < 0 ∧ ¬ (255 : Int32) < c) : (byt c) &&& (255 : Int32) = c := by
  rw [o_eq]
  have q := c_mask (byt c) 255 8 (by decide) (by decide)
  rw [q, c_byt h]
  have h1 : ¬ c.toInt < (0 : Int32).toInt := fun z => h.1 (o_lt.mpr z)
  have h2 : ¬ (255 : Int32).toInt < c.toInt := fun z => h.2 (o_lt.mpr z)
  have e1 : (0 : Int32).toInt = 0 := rfl
  have e2 : (255 : Int32).toInt = 255 := rfl
  rw [e1] at h1; rw [e2] at h2
  split <;> omega
theorem nn {i : Nat} (hi : i < 2147483648) : ¬ Int32.ofNat i < 0 := Int32.ofNat_not_neg (by omega)
theorem cl {i : Nat} (hi : i < 2147483648) : (Int32.ofNat i).toNatClampNeg = i := Jvm.Free.XT.n32 (by omega)
theorem lt' {a b : Nat} (hb : b < 2147483648) (h : a < b) : Int32.ofNat a < Int32.ofNat b := Jvm.Free.XT.lt32 (by omega) h
theorem nlt' {a b : Nat} (ha : a < 2147483648) (h : b ≤ a) : ¬ Int32.ofNat a < Int32.ofNat b := Jvm.Free.XT.nlt32 (by omega) h
theorem n_succ (i : Nat) : Int32.ofNat i + 1 = Int32.ofNat (i + 1) := Jvm.Free.XT.succ32 i
theorem n_inj {a b : Nat} (ha : a < 2147483648) (hb : b < 2147483648) (h : Int32.ofNat a = Int32.ofNat b) : a = b := by
  have := congrArg Int32.toNatClampNeg h; rwa [cl ha, cl hb] at this
def SV (Z : State) (h : Heap) (N : Nat) (a : Addr) (cs : List Int32) : Prop := ∃ b k, a < N ∧ b < N ∧ Exa Z h a "java/lang/String" ∧ Fld Z h a "java/lang/String" "coder" "B" (.int 0) ∧ Fld Z h a "java/lang/String" "value" "[B" (.ref b) ∧ Arv Z h b k .byte (Int32.ofNat cs.length) (cs.map fun c => Value.int (byt c)) (.int 0)
theorem SV.ext {Z : State} {h h' : Heap} {N : Nat} {a : Addr} {cs : List Int32} (F : SV Z h N a cs) (E : Ext h h') : SV Z h' N a cs := by
  obtain ⟨b, k, h1, h2, h3, h4, h5, h6⟩ := F; exact ⟨b, k, h1, h2, h3.ext E, h4.ext E, h5.ext E, h6.ext E⟩
theorem SV.keep {Z : State} {h h' : Heap} {N : Nat} {a : Addr} {cs : List Int32} {ws : List Addr} (F : SV Z h N a cs) (K : Keep h h' ws) (q : ∀ x ∈ ws, N ≤ x) : SV Z h' N a cs := by
  obtain ⟨b, k, h1, h2, h3, h4, h5, h6⟩ := F
  have na : a ∉ ws := fun z => absurd (q a z) (Nat.not_le.mpr h1)
  have nb : b ∉ ws := fun z => absurd (q b z) (Nat.not_le.mpr h2)
  exact ⟨b, k, h1, h2, h3.keep K, h4.keep K na, h5.keep K na, h6.keep K nb⟩
theorem SV.wr {Z : State} {h h' : Heap} {N : Nat} {a x : Addr} {cs : List Int32} {sl : Nat} {v : Value} (F : SV Z h N a cs) (W : Wr h h' x sl v) (q : N ≤ x) : SV Z h' N a cs := F.keep (Keep.of_wr W) (allS q all0)
theorem SV.mono {Z : State} {h : Heap} {N M : Nat} {a : Addr} {cs : List Int32} (F : SV Z h N a cs) (q : N ≤ M) : SV Z h M a cs := by
  obtain ⟨b, k, h1, h2, r⟩ := F; exact ⟨b, k, Nat.lt_of_lt_of_le h1 q, Nat.lt_of_lt_of_le h2 q, r⟩
theorem SV.exa {Z : State} {h : Heap} {N : Nat} {a : Addr} {cs : List Int32} (F : SV Z h N a cs) : Exa Z h a "java/lang/String" := by obtain ⟨b, k, h1, h2, h3, -⟩ := F; exact h3
theorem SV.lt {Z : State} {h : Heap} {N : Nat} {a : Addr} {cs : List Int32} (F : SV Z h N a cs) : a < N := by obtain ⟨b, k, h1, -⟩ := F; exact h1
theorem o_extKeep {h0 h1 h : Heap} {ws : List Addr} (E : Ext h0 h1) (K : Keep h1 h ws) (q : ∀ x ∈ ws, h0.size ≤ x) : Ext h0 h :=
  ⟨Nat.le_trans E.1 K.1, fun a c hc => K.2.1 a c (E.2 a c hc) fun z => absurd (Array.getElem?_eq_some_iff.mp hc).1 (Nat.not_lt.mpr (q a z))⟩
theorem o_ext {h0 h1 h2 : Heap} (E : Ext h0 h1) (E' : Ext h1 h2) : Ext h0 h2 := ⟨Nat.le_trans E.1 E'.1, fun a c hc => E'.2 a c (E.2 a c hc)⟩
theorem o_kext {h0 h1 h : Heap} {ws : List Addr} (E : Ext h0 h1) (K : Keep h1 h ws) : Keep h0 h ws := (((Keep.refl h0 ws).ext E).trans K fun x hx => Or.inl hx)
def bv (cs : List Int32) (j : Nat) : List Value := (cs.take j).map (fun c => Value.int (byt c)) ++ List.replicate (cs.length - j) (.int 0)
theorem bv_len (cs : List Int32) {j : Nat} (hj : j ≤ cs.length) : (bv cs j).length = cs.length := by simp [bv]; omega
theorem bv_set {cs : List Int32} {j : Nat} {c : Int32} (hc : cs[j]? = some c) : (bv cs j).set j (.int (byt c)) = bv cs (j + 1) := by
  obtain ⟨hj, -⟩ := List.getElem?_eq_some_iff.mp hc
  have e : List.replicate (cs.length - j) (Value.int 0) = .int 0 :: List.replicate (cs.length - (j + 1)) (.int 0) := by
    rw [show cs.length - j = (cs.length - (j + 1)) + 1 by omega, List.replicate_succ]
  have el : ((cs.take j).map fun c => Value.int (byt c)).length = j := by simp; omega
  unfold bv
  rw [e, List.set_append_right _ _ (by omega), el, Nat.sub_self, List.set_cons_zero, List.take_add_one, hc]
  simp
theorem bv_end (cs : List Int32) : bv cs cs.length = cs.map fun c => Value.int (byt c) := by simp [bv]
theorem cs_get {cs : List Int32} {j : Nat} {c : Int32} (hc : cs[j]? = some c) (d : Value) : (cs.map Value.int).getD j d = .int c := by
  rw [List.getD_eq_getElem?_getD, List.getElem?_map, hc]; rfl
theorem bs_get {cs : List Int32} {j : Nat} {c : Int32} (hc : cs[j]? = some c) (d : Value) : (cs.map fun c => Value.int (byt c)).getD j d = .int (byt c) := by
  rw [List.getD_eq_getElem?_getD, List.getElem?_map, hc]; rfl
theorem nar_ch {c : Int32} (h : ¬ c < 0 ∧ ¬ (255 : Int32) < c) : nar .char c = c := by
  rw [o_eq]; have q := c_i2c c
  have h1 : ¬ c.toInt < (0 : Int32).toInt := fun z => h.1 (o_lt.mpr z)
  have h2 : ¬ (255 : Int32).toInt < c.toInt := fun z => h.2 (o_lt.mpr z)
  have e1 : (0 : Int32).toInt = 0 := rfl
  have e2 : (255 : Int32).toInt = 255 := rfl
  rw [e1] at h1; rw [e2] at h2
  show c.toUInt32.toUInt16.toUInt32.toInt32.toInt = _; omega
theorem r_and (x : Int32) : ¬ (x &&& 255) < 0 ∧ ¬ (255 : Int32) < (x &&& 255) := by
  have h1 := c_and x 255 (by decide)
  have e2 : (255 : Int32).toInt = 255 := rfl
  have e1 : (0 : Int32).toInt = 0 := rfl
  rw [o_lt, o_lt, e1, e2]; rw [e2] at h1; omega
theorem r_nat {c : Int32} : (¬ c < 0 ∧ ¬ (255 : Int32) < c) ↔ c.toBitVec.toNat < 256 := by
  have e2 : (255 : Int32).toInt = 255 := rfl
  have e1 : (0 : Int32).toInt = 0 := rfl
  rw [o_lt, o_lt, e1, e2]
  have q : c.toInt = c.toBitVec.toInt := rfl
  rw [q, BitVec.toInt_eq_toNat_cond]
  have := c.toBitVec.isLt
  split <;> omega
theorem r_xor {x y : Int32} (hx : ¬ x < 0 ∧ ¬ (255 : Int32) < x) (hy : ¬ y < 0 ∧ ¬ (255 : Int32) < y) : ¬ (x ^^^ y) < 0 ∧ ¬ (255 : Int32) < (x ^^^ y) := by
  rw [r_nat] at *
  rw [Int32.toBitVec_xor, BitVec.toNat_xor]
  exact Nat.xor_lt_two_pow (n := 8) hx hy
theorem i2c_ch {c : Int32} (h : ¬ c < 0 ∧ ¬ (255 : Int32) < c) : c.toUInt32.toUInt16.toUInt32.toInt32 = c := nar_ch h
def EL1 : List (String × Nat) := [("java/lang/String", 7)]
def OG (Z : State) (a0 : Array Value) : Prop := (∀ d ∈ tables_1, d.before a0 Z = true) ∧ EW Z a0 EL1 ∧ (∃ cmp : Int32, Sta Z Z.heap "java/lang/String" "COMPACT_STRINGS" "Z" (.int cmp) ∧ ¬ cmp = 0) ∧ True
theorem o_wS {Z : State} {a0 : Array Value} (hw : ∀ d ∈ tables_1, d.before a0 Z = true) : ∀ d ∈ Bundle.stringAtoms, d.before a0 Z = true := by
  intro d hd
  simp only [Bundle.stringAtoms, List.mem_cons, List.not_mem_nil, or_false] at hd
  rcases hd with rfl | rfl | rfl | rfl | rfl | rfl | rfl
  · exact (hw _ (List.mem_of_getElem? (i := 2) rfl))
  · exact (hw _ (List.mem_of_getElem? (i := 1) rfl))
  · exact (hw _ (List.mem_of_getElem? (i := 22) rfl))
  · exact (hw _ (List.mem_of_getElem? (i := 23) rfl))
  · exact (hw _ (List.mem_of_getElem? (i := 24) rfl))
  · exact (hw _ (List.mem_of_getElem? (i := 25) rfl))
  · exact (hw _ (List.mem_of_getElem? (i := 26) rfl))
def icB : OInfo := ("java/lang/StringUTF16", jdk_52_method_21_code, 7, (some .int), "compress", ({ frames := 0, cells := 0, slots := 0, locals := 0 } : Room))
theorem efcB (x0 : Addr) (x1 : Int32) (x2 : Addr) (x3 : Int32) (x4 : Int32) (m : MethodId) : entryFrame m #[(.ref x0), (.int x1), (.ref x2), (.int x3), (.int x4)] 7 = mkF m 0 #[.val (.ref x0), .val (.int x1), .val (.ref x2), .val (.int x3), .val (.int x4), .unset, .unset] [] := by first | (simp [entryFrame, mkF, argsToLocals, Value.category]; done) | rfl
theorem pdcB : parseMethodDescriptor "([CI[BII)I" = some ⟨[(.array .char), .int, (.array .byte), .int, .int], some .int⟩ := by decide +kernel
theorem pncB : plainFor (⟨"java/lang/StringUTF16", "compress", "([CI[BII)I"⟩ : MethodName) = true := by decide +kernel
theorem dcB_0 : decode jdk_52_method_21_code 0 = .ok (.iconst 0, 1) := by decide +kernel
theorem dcB_1 : decode jdk_52_method_21_code 1 = .ok (.istore 5, 2) := by decide +kernel
theorem dcB_3 : decode jdk_52_method_21_code 3 = .ok (.iload 5, 2) := by decide +kernel
theorem dcB_5 : decode jdk_52_method_21_code 5 = .ok (.iload 4, 2) := by decide +kernel
theorem dcB_7 : decode jdk_52_method_21_code 7 = .ok (.if_icmp .ge 37, 3) := by decide +kernel
theorem dcB_10 : decode jdk_52_method_21_code 10 = .ok (.aload_n 0, 1) := by decide +kernel
theorem dcB_11 : decode jdk_52_method_21_code 11 = .ok (.iload_n 1, 1) := by decide +kernel
theorem dcB_12 : decode jdk_52_method_21_code 12 = .ok (.caload, 1) := by decide +kernel
theorem dcB_13 : decode jdk_52_method_21_code 13 = .ok (.istore 6, 2) := by decide +kernel
theorem dcB_15 : decode jdk_52_method_21_code 15 = .ok (.iload 6, 2) := by decide +kernel
theorem dcB_17 : decode jdk_52_method_21_code 17 = .ok (.sipush 255, 3) := by decide +kernel
theorem dcB_20 : decode jdk_52_method_21_code 20 = .ok (.if_icmp .le 6, 3) := by decide +kernel
theorem dcB_26 : decode jdk_52_method_21_code 26 = .ok (.aload_n 2, 1) := by decide +kernel
theorem dcB_27 : decode jdk_52_method_21_code 27 = .ok (.iload_n 3, 1) := by decide +kernel
theorem dcB_28 : decode jdk_52_method_21_code 28 = .ok (.iload 6, 2) := by decide +kernel
theorem dcB_30 : decode jdk_52_method_21_code 30 = .ok (.i2b, 1) := by decide +kernel
theorem dcB_31 : decode jdk_52_method_21_code 31 = .ok (.bastore, 1) := by decide +kernel
theorem dcB_32 : decode jdk_52_method_21_code 32 = .ok (.iinc 1 1, 3) := by decide +kernel
theorem dcB_35 : decode jdk_52_method_21_code 35 = .ok (.iinc 3 1, 3) := by decide +kernel
theorem dcB_38 : decode jdk_52_method_21_code 38 = .ok (.iinc 5 1, 3) := by decide +kernel
theorem dcB_41 : decode jdk_52_method_21_code 41 = .ok (.goto (-38), 3) := by decide +kernel
theorem dcB_44 : decode jdk_52_method_21_code 44 = .ok (.iload 4, 2) := by decide +kernel
theorem dcB_46 : decode jdk_52_method_21_code 46 = .ok (.ireturn, 1) := by decide +kernel
set_option maxRecDepth 65536 in
set_option maxHeartbeats 4000000 in
theorem cBloop {C : OCtx} {Z : State} {n0 : Nat} {ws : List Addr} {Q : Option Value → Heap → Prop} {h0 : Heap} {c d : Addr} {kc kd : ClassId} {cs : List Int32} {dv : Value} (hb : cs.length < 2147483648) (hch : Ch cs) (gd : n0 ≤ d) (hd : d ∈ ws) (hcd : c ≠ d)
    (fin : ∀ h, Keep h0 h [d] → Arv Z h d kd .byte (Int32.ofNat cs.length) (cs.map fun c => Value.int (byt c)) (.int 0) → Q (some (.int (Int32.ofNat cs.length))) h) (k : Nat) :
    ∀ (h : Heap) (j : Nat) (s6 : Slot), j ≤ cs.length → cs.length - j = k → Keep h0 h [d] → Arv Z h c kc .char (Int32.ofNat cs.length) (cs.map .int) dv → Arv Z h d kd .byte (Int32.ofNat cs.length) (bv cs j) (.int 0) → One s6 →
    oRun C Z n0 icB EL1 ws Q h 0 0 (mkF C.m 3 #[.val (.ref c), .val (.int (Int32.ofNat j)), .val (.ref d), .val (.int (Int32.ofNat j)), .val (.int (Int32.ofNat cs.length)), .val (.int (Int32.ofNat j)), s6] []) := by
  induction k using Nat.strongRecOn with
  | _ k ih =>
  intro h j s6 hj hk K A D hs6
  subst hk
  refine s_iload (pc' := 5) dcB_3 rfl rfl ?_
  refine s_iload (pc' := 7) dcB_5 rfl rfl ?_
  refine s_icmp (pc' := 10) (pc'' := 44) dcB_7 rfl (by decide) rfl (fun hc7 => ?_) (fun hc7 => ?_)
  · replace hc7 := b_ge hc7
    obtain rfl : j = cs.length := by
      by_cases q : j < cs.length
      · exact absurd (lt' hb q) hc7
      · omega
    rw [bv_end] at D
    refine s_iload (pc' := 46) dcB_44 rfl rfl ?_
    exact s_iret rfl dcB_46 (by decide) (by decide) (fin _ K D)
  · replace hc7 := b_geF hc7
    have hj2 : j < cs.length := by
      by_cases q : j < cs.length
      · exact q
      · exact absurd hc7 (nlt' (by omega) (by omega))
    obtain ⟨z, hz⟩ : ∃ z, cs[j]? = some z := ⟨cs[j], List.getElem?_eq_getElem hj2⟩
    have hzr := hch z (List.mem_of_getElem? hz)
    refine s_aloadN (pc' := 11) dcB_10 rfl rfl rfl ?_
    refine s_iloadN (pc' := 12) dcB_11 rfl rfl ?_
    refine s_caload A (nn (by omega)) (lt' hb hj2) (v := .int z) (by rw [cl (by omega)]; exact cs_get hz _) (pc' := 13) dcB_12 rfl ?_
    refine s_istore (pc' := 15) dcB_13 rfl (o_st rfl (by first | exact One.u | exact One.val rfl | assumption) rfl) ?_
    dsimp only [List.set_cons_succ, List.set_cons_zero]
    refine s_iload (pc' := 17) dcB_15 rfl rfl ?_
    refine s_sipush (x := (255 : Int32)) (pc' := 20) dcB_17 rfl rfl ?_
    refine s_icmp (pc' := 23) (pc'' := 26) dcB_20 rfl (by decide) rfl (fun hc20 => ?_) (fun hc20 => ?_)
    · replace hc20 := b_le hc20
      refine s_aloadN (pc' := 27) dcB_26 rfl rfl rfl ?_
      refine s_iloadN (pc' := 28) dcB_27 rfl rfl ?_
      refine s_iload (pc' := 30) dcB_28 rfl rfl ?_
      refine s_i2b (pc' := 31) dcB_30 rfl ?_
      refine s_bastore D gd hd (nn (by omega)) (lt' hb hj2) j (cl (by omega)) (by rw [bv_len _ hj]; omega) (pc' := 32) dcB_31 rfl (fun h31 W31 D31 => ?_)
      rw [byt_byt, bv_set hz] at D31
      refine s_iinc (y := (1 : Int32)) (pc' := 35) dcB_32 rfl rfl rfl (o_st rfl (by first | exact One.u | exact One.val rfl | assumption) rfl) ?_
      dsimp only [List.set_cons_succ, List.set_cons_zero]
      rw [n_succ]
      refine s_iinc (y := (1 : Int32)) (pc' := 38) dcB_35 rfl rfl rfl (o_st rfl (by first | exact One.u | exact One.val rfl | assumption) rfl) ?_
      dsimp only [List.set_cons_succ, List.set_cons_zero]
      rw [n_succ]
      refine s_iinc (y := (1 : Int32)) (pc' := 41) dcB_38 rfl rfl rfl (o_st rfl (by first | exact One.u | exact One.val rfl | assumption) rfl) ?_
      dsimp only [List.set_cons_succ, List.set_cons_zero]
      rw [n_succ]
      refine s_goto (pc' := 3) dcB_41 (by decide) rfl ?_
      exact ih (cs.length - (j + 1)) (by omega) h31 (j + 1) _ (by omega) rfl (K.wr W31 (Or.inl (List.mem_cons_self ..))) (A.other W31 hcd) D31 (One.val rfl)
    · replace hc20 := b_leF hc20
      exact absurd hc20 hzr.2
set_option maxRecDepth 65536 in
set_option maxHeartbeats 4000000 in
theorem rmcB (l : Launch) {Z : State} {a0 : Array Value} (G : OG Z a0) (n0 : Nat) (c d : Addr) (kc kd : ClassId) (cs : List Int32) (dv : Value) (h0 : Heap) (hb : cs.length < 2147483648) (hch : Ch cs) (gd : n0 ≤ d) (hcd : c ≠ d) (A : Arv Z h0 c kc .char (Int32.ofNat cs.length) (cs.map .int) dv) (D : Arv Z h0 d kd .byte (Int32.ofNat cs.length) (List.replicate cs.length (.int 0)) (.int 0)) : oCon l Z n0 EL1 [d] (⟨"java/lang/StringUTF16", "compress", "([CI[BII)I"⟩ : MethodName) icB #[.ref c, .int 0, .ref d, .int 0, .int (Int32.ofNat cs.length)] h0 (fun v h => v = some (.int (Int32.ofNat cs.length)) ∧ Keep h0 h [d] ∧ Arv Z h d kd .byte (Int32.ofNat cs.length) (cs.map fun c => Value.int (byt c)) (.int 0)) := by
  obtain ⟨hw, hEL, ⟨cmp, hC, hc0⟩, -⟩ := id G
  refine oCon.mk hEL pncB rfl rfl (efcB c 0 d 0 _) fun C hCl => ?_
  refine s_iconst (x := (0 : Int32)) (pc' := 1) dcB_0 rfl rfl ?_
  refine s_istore (pc' := 3) dcB_1 rfl (o_st rfl (by first | exact One.u | exact One.val rfl | assumption) rfl) ?_
  dsimp only [List.set_cons_succ, List.set_cons_zero]
  exact cBloop hb hch gd (List.mem_cons_self ..) hcd (fun h K D => ⟨rfl, K, D⟩) cs.length h0 0 _ (Nat.zero_le _) rfl (Keep.refl _ _) A (by simpa [bv] using D) One.u
def icA : OInfo := ("java/lang/StringUTF16", jdk_52_method_16_code, 6, (some (.array .byte)), "compress", ({ frames := 1, cells := 1, slots := 2, locals := 18 } : Room))
theorem efcA (x0 : Addr) (x1 : Int32) (x2 : Int32) (m : MethodId) : entryFrame m #[(.ref x0), (.int x1), (.int x2)] 6 = mkF m 0 #[.val (.ref x0), .val (.int x1), .val (.int x2), .unset, .unset, .unset] [] := by first | (simp [entryFrame, mkF, argsToLocals, Value.category]; done) | rfl
theorem pdcA : parseMethodDescriptor "([CII)[B" = some ⟨[(.array .char), .int, .int], some (.array .byte)⟩ := by decide +kernel
theorem pncA : plainFor (⟨"java/lang/StringUTF16", "compress", "([CII)[B"⟩ : MethodName) = true := by decide +kernel
theorem dcA_0 : decode jdk_52_method_16_code 0 = .ok (.iload_n 2, 1) := by decide +kernel
theorem dcA_1 : decode jdk_52_method_16_code 1 = .ok (.newarray .byte, 2) := by decide +kernel
theorem dcA_3 : decode jdk_52_method_16_code 3 = .ok (.astore_n 3, 1) := by decide +kernel
theorem dcA_4 : decode jdk_52_method_16_code 4 = .ok (.aload_n 0, 1) := by decide +kernel
theorem dcA_5 : decode jdk_52_method_16_code 5 = .ok (.iload_n 1, 1) := by decide +kernel
theorem dcA_6 : decode jdk_52_method_16_code 6 = .ok (.aload_n 3, 1) := by decide +kernel
theorem dcA_7 : decode jdk_52_method_16_code 7 = .ok (.iconst 0, 1) := by decide +kernel
theorem dcA_8 : decode jdk_52_method_16_code 8 = .ok (.iload_n 2, 1) := by decide +kernel
theorem dcA_9 : decode jdk_52_method_16_code 9 = .ok (.invokestatic 115, 3) := by decide +kernel
theorem dcA_12 : decode jdk_52_method_16_code 12 = .ok (.istore 4, 2) := by decide +kernel
theorem dcA_14 : decode jdk_52_method_16_code 14 = .ok (.iload 4, 2) := by decide +kernel
theorem dcA_16 : decode jdk_52_method_16_code 16 = .ok (.iload_n 2, 1) := by decide +kernel
theorem dcA_17 : decode jdk_52_method_16_code 17 = .ok (.if_icmp .eq 40, 3) := by decide +kernel
theorem dcA_57 : decode jdk_52_method_16_code 57 = .ok (.aload_n 3, 1) := by decide +kernel
theorem dcA_58 : decode jdk_52_method_16_code 58 = .ok (.areturn, 1) := by decide +kernel
set_option maxRecDepth 65536 in
set_option maxHeartbeats 4000000 in
theorem rmcA (l : Launch) {Z : State} {a0 : Array Value} (G : OG Z a0) (n0 : Nat) (c : Addr) (kc : ClassId) (cs : List Int32) (dv : Value) (h0 : Heap) (hcap : cs.length ≤ 2) (hch : Ch cs) (A : Arv Z h0 c kc .char (Int32.ofNat cs.length) (cs.map .int) dv) : oCon l Z n0 EL1 [] (⟨"java/lang/StringUTF16", "compress", "([CII)[B"⟩ : MethodName) icA #[.ref c, .int 0, .int (Int32.ofNat cs.length)] h0 (fun v h => ∃ d k, v = some (.ref d) ∧ h0.size ≤ d ∧ Ext h0 h ∧ Arv Z h d k .byte (Int32.ofNat cs.length) (cs.map fun c => Value.int (byt c)) (.int 0)) := by
  obtain ⟨hw, hEL, ⟨cmp, hC, hc0⟩, -⟩ := id G
  refine oCon.mk hEL pncA rfl rfl (efcA c 0 _) fun C hCl => ?_
  refine s_iloadN (pc' := 1) dcA_0 rfl rfl ?_
  refine s_newA 2 (hw _ (List.mem_of_getElem? (i := 22) rfl)) (pc' := 3) dcA_1 rfl (nn (by omega)) (by rw [cl (by omega)]; exact hcap) (by decide) (Nat.le_of_ble_eq_true rfl) (Nat.le_of_ble_eq_true rfl) (fun h1 b1 k1 g1 nb1 E1 A1 => ?_)
  have hcd : c ≠ b1 := o_fresh A.lt g1
  refine s_astoreN (kn := 3) rfl (pc' := 4) dcA_3 rfl rfl (o_st rfl (by first | exact One.u | exact One.val rfl | assumption) rfl) ?_
  dsimp only [List.set_cons_succ, List.set_cons_zero]
  refine s_aloadN (pc' := 5) dcA_4 rfl rfl rfl ?_
  refine s_iloadN (pc' := 6) dcA_5 rfl rfl ?_
  refine s_aloadN (pc' := 7) dcA_6 rfl rfl rfl ?_
  refine s_iconst (x := (0 : Int32)) (pc' := 8) dcA_7 rfl rfl ?_
  refine s_iloadN (pc' := 9) dcA_8 rfl rfl ?_
  refine s_callS5 (rmcB C.l G n0 c b1 kc k1 cs dv h1 (by omega) hch nb1 hcd (A.ext E1) (by have q := o_padTo A1 cs.length; rw [List.nil_append] at q; exact q)) (by simp) (hw _ (List.mem_of_getElem? (i := 67) rfl)) (hw _ (List.mem_of_getElem? (i := 68) rfl)) (hw _ (List.mem_of_getElem? (i := 65) rfl)) (hw _ (List.mem_of_getElem? (i := 69) rfl)) (by decide) (o_len pdcB rfl) rfl (pc' := 12) dcA_9 rfl (Nat.le_of_ble_eq_true rfl) (Nat.le_of_ble_eq_true rfl) (Nat.le_of_ble_eq_true rfl) (Nat.le_of_ble_eq_true rfl) (fun v9 h9 hQ9 => ?_)
  obtain ⟨rfl, K9, D9⟩ := hQ9
  dsimp only [oPush]
  refine s_istore (pc' := 14) dcA_12 rfl (o_st rfl (by first | exact One.u | exact One.val rfl | assumption) rfl) ?_
  dsimp only [List.set_cons_succ, List.set_cons_zero]
  refine s_iload (pc' := 16) dcA_14 rfl rfl ?_
  refine s_iloadN (pc' := 17) dcA_16 rfl rfl ?_
  refine s_icmp (pc' := 20) (pc'' := 57) dcA_17 rfl (by decide) rfl (fun hc17 => ?_) (fun hc17 => ?_)
  · replace hc17 := b_eq hc17
    refine s_aloadN (pc' := 58) dcA_57 rfl rfl rfl ?_
    exact s_aret rfl rfl rfl dcA_58 (by decide) (by decide) ⟨b1, k1, rfl, Nat.le_of_eq g1.symm, o_extKeep E1 K9 (allS (Nat.le_of_eq g1.symm) all0), D9⟩
  · replace hc17 := b_eqF hc17
    exact absurd rfl hc17
def icF : OInfo := ("java/lang/StringUTF16", jdk_52_method_15_code, 2, (some .byte), "coderFromArrayLen", ({ frames := 0, cells := 0, slots := 0, locals := 0 } : Room))
theorem efcF (x0 : Addr) (x1 : Int32) (m : MethodId) : entryFrame m #[(.ref x0), (.int x1)] 2 = mkF m 0 #[.val (.ref x0), .val (.int x1)] [] := by first | (simp [entryFrame, mkF, argsToLocals, Value.category]; done) | rfl
theorem pdcF : parseMethodDescriptor "([BI)B" = some ⟨[(.array .byte), .int], some .byte⟩ := by decide +kernel
theorem pncF : plainFor (⟨"java/lang/StringUTF16", "coderFromArrayLen", "([BI)B"⟩ : MethodName) = true := by decide +kernel
theorem dcF_0 : decode jdk_52_method_15_code 0 = .ok (.iload_n 1, 1) := by decide +kernel
theorem dcF_1 : decode jdk_52_method_15_code 1 = .ok (.aload_n 0, 1) := by decide +kernel
theorem dcF_2 : decode jdk_52_method_15_code 2 = .ok (.arraylength, 1) := by decide +kernel
theorem dcF_3 : decode jdk_52_method_15_code 3 = .ok (.isub, 1) := by decide +kernel
theorem dcF_4 : decode jdk_52_method_15_code 4 = .ok (.bipush 31, 2) := by decide +kernel
theorem dcF_6 : decode jdk_52_method_15_code 6 = .ok (.iushr, 1) := by decide +kernel
theorem dcF_7 : decode jdk_52_method_15_code 7 = .ok (.i2b, 1) := by decide +kernel
theorem dcF_8 : decode jdk_52_method_15_code 8 = .ok (.ireturn, 1) := by decide +kernel
set_option maxRecDepth 65536 in
set_option maxHeartbeats 4000000 in
theorem rmcF (l : Launch) {Z : State} {a0 : Array Value} (G : OG Z a0) (n0 : Nat) (d : Addr) (k : ClassId) (n : Int32) (vs : List Value) (dv : Value) (h0 : Heap) (A : Arv Z h0 d k .byte n vs dv) : oCon l Z n0 EL1 [] (⟨"java/lang/StringUTF16", "coderFromArrayLen", "([BI)B"⟩ : MethodName) icF #[.ref d, .int n] h0 (fun v h => v = some (.int 0) ∧ h = h0) := by
  obtain ⟨hw, hEL, ⟨cmp, hC, hc0⟩, -⟩ := id G
  refine oCon.mk hEL pncF rfl rfl (efcF d n) fun C hCl => ?_
  refine s_iloadN (pc' := 1) dcF_0 rfl rfl ?_
  refine s_aloadN (pc' := 2) dcF_1 rfl rfl rfl ?_
  refine s_alen A (pc' := 3) dcF_2 rfl ?_
  refine s_isub (pc' := 4) dcF_3 rfl ?_
  refine s_bipush (x := (31 : Int32)) (pc' := 6) dcF_4 rfl rfl ?_
  refine s_iushr (pc' := 7) dcF_6 rfl ?_
  refine s_i2b (pc' := 8) dcF_7 rfl ?_
  exact s_nret (t := .byte) rfl (by simp) dcF_8 (by decide) (by decide) ⟨by rw [Int32.sub_self]; rfl, rfl⟩
def isV : OInfo := ("java/lang/String", jdk_42_method_149_code, 6, none, "<init>", ({ frames := 2, cells := 4, slots := 8, locals := 47 } : Room))
theorem pdsV : parseMethodDescriptor "([CIILjava/lang/Void;)V" = some ⟨[(.array .char), .int, .int, (.object "java/lang/Void")], none⟩ := by decide +kernel
theorem pnsV : plainFor (⟨"java/lang/String", "<init>", "([CIILjava/lang/Void;)V"⟩ : MethodName) = true := by decide +kernel
theorem efsV (x0 x1 : Addr) (x2 x3 : Int32) (m : MethodId) : entryFrame m #[(.ref x0), (.ref x1), (.int x2), (.int x3), .null] 6 = mkF m 0 #[.val (.ref x0), .val (.ref x1), .val (.int x2), .val (.int x3), .val .null, .unset] [] := by first | (simp [entryFrame, mkF, argsToLocals, Value.category]; done) | rfl
theorem dsV_0 : decode jdk_42_method_149_code 0 = .ok (.aload_n 0, 1) := by decide +kernel
theorem dsV_1 : decode jdk_42_method_149_code 1 = .ok (.invokespecial 1, 3) := by decide +kernel
theorem dsV_4 : decode jdk_42_method_149_code 4 = .ok (.iload_n 3, 1) := by decide +kernel
theorem dsV_5 : decode jdk_42_method_149_code 5 = .ok (.ifCond .ne 22, 3) := by decide +kernel
theorem dsV_8 : decode jdk_42_method_149_code 8 = .ok (.aload_n 0, 1) := by decide +kernel
theorem dsV_9 : decode jdk_42_method_149_code 9 = .ok (.ldc 7, 2) := by decide +kernel
theorem dsV_11 : decode jdk_42_method_149_code 11 = .ok (.getfield 9, 3) := by decide +kernel
theorem dsV_14 : decode jdk_42_method_149_code 14 = .ok (.putfield 9, 3) := by decide +kernel
theorem dsV_17 : decode jdk_42_method_149_code 17 = .ok (.aload_n 0, 1) := by decide +kernel
theorem dsV_18 : decode jdk_42_method_149_code 18 = .ok (.ldc 7, 2) := by decide +kernel
theorem dsV_20 : decode jdk_42_method_149_code 20 = .ok (.getfield 15, 3) := by decide +kernel
theorem dsV_23 : decode jdk_42_method_149_code 23 = .ok (.putfield 15, 3) := by decide +kernel
theorem dsV_26 : decode jdk_42_method_149_code 26 = .ok (.return_, 1) := by decide +kernel
theorem dsV_27 : decode jdk_42_method_149_code 27 = .ok (.getstatic 38, 3) := by decide +kernel
theorem dsV_30 : decode jdk_42_method_149_code 30 = .ok (.ifCond .eq 28, 3) := by decide +kernel
theorem dsV_33 : decode jdk_42_method_149_code 33 = .ok (.aload_n 1, 1) := by decide +kernel
theorem dsV_34 : decode jdk_42_method_149_code 34 = .ok (.iload_n 2, 1) := by decide +kernel
theorem dsV_35 : decode jdk_42_method_149_code 35 = .ok (.iload_n 3, 1) := by decide +kernel
theorem dsV_36 : decode jdk_42_method_149_code 36 = .ok (.invokestatic 177, 3) := by decide +kernel
theorem dsV_39 : decode jdk_42_method_149_code 39 = .ok (.astore 5, 2) := by decide +kernel
theorem dsV_41 : decode jdk_42_method_149_code 41 = .ok (.aload_n 0, 1) := by decide +kernel
theorem dsV_42 : decode jdk_42_method_149_code 42 = .ok (.aload 5, 2) := by decide +kernel
theorem dsV_44 : decode jdk_42_method_149_code 44 = .ok (.iload_n 3, 1) := by decide +kernel
theorem dsV_45 : decode jdk_42_method_149_code 45 = .ok (.invokestatic 47, 3) := by decide +kernel
theorem dsV_48 : decode jdk_42_method_149_code 48 = .ok (.putfield 15, 3) := by decide +kernel
theorem dsV_51 : decode jdk_42_method_149_code 51 = .ok (.aload_n 0, 1) := by decide +kernel
theorem dsV_52 : decode jdk_42_method_149_code 52 = .ok (.aload 5, 2) := by decide +kernel
theorem dsV_54 : decode jdk_42_method_149_code 54 = .ok (.putfield 9, 3) := by decide +kernel
theorem dsV_57 : decode jdk_42_method_149_code 57 = .ok (.return_, 1) := by decide +kernel
set_option maxRecDepth 65536 in
set_option maxHeartbeats 4000000 in
theorem rmsV (l : Launch) {Z : State} {a0 : Array Value} (G : OG Z a0) (n0 : Nat) (a c : Addr) (kc : ClassId) (cs : List Int32) (dv : Value) (h0 : Heap) (hcap : cs.length ≤ 2) (hch : Ch cs) (A : Arv Z h0 c kc .char (Int32.ofNat cs.length) (cs.map .int) dv) (E : Exa Z h0 a "java/lang/String") (F1 : Fld Z h0 a "java/lang/String" "value" "[B" .null) (F2 : Fld Z h0 a "java/lang/String" "coder" "B" (.int 0)) (ga : n0 ≤ a) : oCon l Z n0 EL1 [a] (⟨"java/lang/String", "<init>", "([CIILjava/lang/Void;)V"⟩ : MethodName) isV #[.ref a, .ref c, .int 0, .int (Int32.ofNat cs.length), .null] h0 (fun v h => v = none ∧ Keep h0 h [a] ∧ SV Z h h.size a cs) := by
  obtain ⟨hw, hEL, ⟨cmp, hC, hc0⟩, -⟩ := id G
  have ha : a ∈ [a] := List.mem_cons_self ..
  refine oCon.mk hEL pnsV rfl rfl (efsV a c 0 _) fun C hCl => ?_
  refine s_aloadN (pc' := 1) dsV_0 rfl rfl rfl ?_
  refine s_initO (hw _ (List.mem_of_getElem? (i := 18) rfl)) (hw _ (List.mem_of_getElem? (i := 19) rfl)) (hw _ (List.mem_of_getElem? (i := 20) rfl)) rfl (pc' := 4) dsV_1 rfl (Nat.le_of_ble_eq_true rfl) (Nat.le_of_ble_eq_true rfl) ?_
  refine s_iloadN (pc' := 5) dsV_4 rfl rfl ?_
  refine s_if (pc' := 8) (pc'' := 27) dsV_5 rfl (by decide) rfl (fun hc5 => ?_) (fun hc5 => ?_)
  · replace hc5 := b_ne hc5
    refine s_getS hC (hw _ (List.mem_of_getElem? (i := 56) rfl)) Via.refl (pc' := 30) dsV_27 rfl ?_
    refine s_if (pc' := 33) (pc'' := 58) dsV_30 rfl (by decide) rfl (fun hc30 => ?_) (fun hc30 => ?_)
    · replace hc30 := b_eq hc30
      exact absurd hc30 hc0
    · replace hc30 := b_eqF hc30
      refine s_aloadN (pc' := 34) dsV_33 rfl rfl rfl ?_
      refine s_iloadN (pc' := 35) dsV_34 rfl rfl ?_
      refine s_iloadN (pc' := 36) dsV_35 rfl rfl ?_
      refine s_callS3 (rmcA C.l G n0 c kc cs dv h0 hcap hch A) (by simp) (hw _ (List.mem_of_getElem? (i := 63) rfl)) (hw _ (List.mem_of_getElem? (i := 64) rfl)) (hw _ (List.mem_of_getElem? (i := 65) rfl)) (hw _ (List.mem_of_getElem? (i := 66) rfl)) (by decide) (o_len pdcA rfl) rfl (pc' := 39) dsV_36 rfl (Nat.le_of_ble_eq_true rfl) (Nat.le_of_ble_eq_true rfl) (Nat.le_of_ble_eq_true rfl) (Nat.le_of_ble_eq_true rfl) (fun v36 h36 hQ36 => ?_)
      obtain ⟨d, kd, rfl, gd, E36, D36⟩ := hQ36
      dsimp only [oPush]
      have had : a ≠ d := o_fresh' E.lt gd
      refine s_astore (pc' := 41) dsV_39 rfl rfl (o_st rfl (by first | exact One.u | exact One.val rfl | assumption) rfl) ?_
      dsimp only [List.set_cons_succ, List.set_cons_zero]
      refine s_aloadN (pc' := 42) dsV_41 rfl rfl rfl ?_
      refine s_aload (pc' := 44) dsV_42 rfl rfl rfl ?_
      refine s_iloadN (pc' := 45) dsV_44 rfl rfl ?_
      refine s_callS2 (rmcF C.l G n0 d kd _ _ _ h36 D36) (by simp) (hw _ (List.mem_of_getElem? (i := 70) rfl)) (hw _ (List.mem_of_getElem? (i := 71) rfl)) (hw _ (List.mem_of_getElem? (i := 65) rfl)) (hw _ (List.mem_of_getElem? (i := 72) rfl)) (by decide) (o_len pdcF rfl) rfl (pc' := 48) dsV_45 rfl (Nat.le_of_ble_eq_true rfl) (Nat.le_of_ble_eq_true rfl) (Nat.le_of_ble_eq_true rfl) (Nat.le_of_ble_eq_true rfl) (fun v45 h45 hQ45 => ?_)
      obtain ⟨rfl, rfl⟩ := hQ45
      dsimp only [oPush]
      refine s_putF (F2.ext E36) (E.ext E36) ga (by simp) (host := "") (Or.inl (hw _ (List.mem_of_getElem? (i := 28) rfl))) Via.refl (Or.inr ⟨(hw _ (List.mem_of_getElem? (i := 24) rfl)), rfl, rfl⟩) (hw _ (List.mem_of_getElem? (i := 1) rfl)) (ty := .byte) (by decide) rfl rfl (pc' := 51) dsV_48 rfl (fun h48 W48 => ?_)
      refine s_aloadN (pc' := 52) dsV_51 rfl rfl rfl ?_
      refine s_aload (pc' := 54) dsV_52 rfl rfl rfl ?_
      refine s_putF ((F1.ext E36).other W48 (Or.inr (slot_ne (Or.inr (hw _ (List.mem_of_getElem? (i := 23) rfl))) (Or.inr (hw _ (List.mem_of_getElem? (i := 24) rfl))) (by decide) (t := .array .byte) (t' := .byte) (by decide) (by decide)))) ((E.ext E36).wr W48) ga (by simp) (host := "") (Or.inl (hw _ (List.mem_of_getElem? (i := 27) rfl))) Via.refl (Or.inr ⟨(hw _ (List.mem_of_getElem? (i := 23) rfl)), rfl, rfl⟩) (hw _ (List.mem_of_getElem? (i := 1) rfl)) (ty := (.array .byte)) (by decide) rfl rfl (pc' := 57) dsV_54 rfl (fun h54 W54 => ?_)
      refine s_ret rfl dsV_57 (by decide) (by decide) ⟨rfl, ?_, d, kd, ?_, ?_, ?_, ?_, ?_, ?_⟩
      · exact o_kext E36 ((Keep.of_wr W48).wr W54 (Or.inl (List.mem_cons_self ..)))
      · exact (((E.ext E36).wr W48).wr W54).lt
      · exact ((D36.other W48 had.symm).other W54 had.symm).lt
      · exact ((E.ext E36).wr W48).wr W54
      · exact ((F2.ext E36).same W48).other W54 (Or.inr (slot_ne (Or.inr (hw _ (List.mem_of_getElem? (i := 24) rfl))) (Or.inr (hw _ (List.mem_of_getElem? (i := 23) rfl))) (by decide) (t := .byte) (t' := .array .byte) (by decide) (by decide)))
      · exact ((F1.ext E36).other W48 (Or.inr (slot_ne (Or.inr (hw _ (List.mem_of_getElem? (i := 23) rfl))) (Or.inr (hw _ (List.mem_of_getElem? (i := 24) rfl))) (by decide) (t := .array .byte) (t' := .byte) (by decide) (by decide)))).same W54
      · exact (D36.other W48 had.symm).other W54 had.symm
  · replace hc5 := b_neF hc5
    obtain rfl : cs = [] := List.eq_nil_of_length_eq_zero (n_inj (by omega) (by omega) hc5)
    refine s_aloadN (pc' := 9) dsV_8 rfl rfl rfl ?_
    refine s_ldcS 0 (text := "") (vs := []) (z := 0) (hw _ (List.mem_of_getElem? (i := 21) rfl)) (o_wS hw) hEL (by decide) ⟨by simp, by simp⟩ (by decide) rfl (pc' := 11) dsV_9 rfl (by decide) (by decide) (Nat.le_of_ble_eq_true rfl) (Nat.le_of_ble_eq_true rfl) (fun h9 a9 b9 k9 E9 X9 C9 V9 A9 N9 => ?_)
    have n9 := N9 a ha
    refine s_getF V9 (host := "") (Or.inl (hw _ (List.mem_of_getElem? (i := 27) rfl))) Via.refl (pc' := 14) dsV_11 rfl ?_
    refine s_putF (F1.ext E9) (E.ext E9) ga (by simp) (host := "") (Or.inl (hw _ (List.mem_of_getElem? (i := 27) rfl))) Via.refl (Or.inr ⟨(hw _ (List.mem_of_getElem? (i := 23) rfl)), rfl, rfl⟩) (hw _ (List.mem_of_getElem? (i := 1) rfl)) (ty := (.array .byte)) (by decide) rfl rfl (pc' := 17) dsV_14 rfl (fun h14 W14 => ?_)
    refine s_aloadN (pc' := 18) dsV_17 rfl rfl rfl ?_
    refine s_ldcS 0 (text := "") (vs := []) (z := 0) (hw _ (List.mem_of_getElem? (i := 21) rfl)) (o_wS hw) hEL (by decide) ⟨by simp, by simp⟩ (by decide) rfl (pc' := 20) dsV_18 rfl (by decide) (by decide) (Nat.le_of_ble_eq_true rfl) (Nat.le_of_ble_eq_true rfl) (fun h18 a18 b18 k18 E18 X18 C18 V18 A18 N18 => ?_)
    have n18 := N18 a ha
    refine s_getF C18 (host := "") (Or.inl (hw _ (List.mem_of_getElem? (i := 28) rfl))) Via.refl (pc' := 23) dsV_20 rfl ?_
    refine s_putF (((F2.ext E9).other W14 (Or.inr (slot_ne (Or.inr (hw _ (List.mem_of_getElem? (i := 24) rfl))) (Or.inr (hw _ (List.mem_of_getElem? (i := 23) rfl))) (by decide) (t := .byte) (t' := .array .byte) (by decide) (by decide)))).ext E18) (((E.ext E9).wr W14).ext E18) ga (by simp) (host := "") (Or.inl (hw _ (List.mem_of_getElem? (i := 28) rfl))) Via.refl (Or.inr ⟨(hw _ (List.mem_of_getElem? (i := 24) rfl)), rfl, rfl⟩) (hw _ (List.mem_of_getElem? (i := 1) rfl)) (ty := .byte) (by decide) rfl rfl (pc' := 26) dsV_23 rfl (fun h23 W23 => ?_)
    refine s_ret rfl dsV_26 (by decide) (by decide) ⟨rfl, ?_, b9, k9, ?_, ?_, ?_, ?_, ?_, ?_⟩
    · exact (o_kext E9 (((Keep.of_wr W14).ext E18).wr W23 (Or.inl (List.mem_cons_self ..))))
    · exact (((((E.ext E9).wr W14).ext E18).wr W23)).lt
    · exact (((A9.other W14 n9.2.symm).ext E18).other W23 n9.2.symm).lt
    · exact ((((E.ext E9).wr W14).ext E18).wr W23)
    · exact (((F2.ext E9).other W14 (Or.inr (slot_ne (Or.inr (hw _ (List.mem_of_getElem? (i := 24) rfl))) (Or.inr (hw _ (List.mem_of_getElem? (i := 23) rfl))) (by decide) (t := .byte) (t' := .array .byte) (by decide) (by decide)))).ext E18).same W23
    · exact ((((F1.ext E9).same W14).ext E18).other W23 (Or.inr (slot_ne (Or.inr (hw _ (List.mem_of_getElem? (i := 23) rfl))) (Or.inr (hw _ (List.mem_of_getElem? (i := 24) rfl))) (by decide) (t := .array .byte) (t' := .byte) (by decide) (by decide))))
    · exact (((A9.other W14 n9.2.symm).ext E18).other W23 n9.2.symm)
def isC : OInfo := ("java/lang/String", jdk_42_method_3_code, 2, none, "<init>", ({ frames := 3, cells := 4, slots := 8, locals := 64 } : Room))
theorem efsC (x0 : Addr) (x1 : Addr) (m : MethodId) : entryFrame m #[(.ref x0), (.ref x1)] 2 = mkF m 0 #[.val (.ref x0), .val (.ref x1)] [] := by first | (simp [entryFrame, mkF, argsToLocals, Value.category]; done) | rfl
theorem pdsC : parseMethodDescriptor "([C)V" = some ⟨[(.array .char)], none⟩ := by decide +kernel
theorem pnsC : plainFor (⟨"java/lang/String", "<init>", "([C)V"⟩ : MethodName) = true := by decide +kernel
theorem dsC_0 : decode jdk_42_method_3_code 0 = .ok (.aload_n 0, 1) := by decide +kernel
theorem dsC_1 : decode jdk_42_method_3_code 1 = .ok (.aload_n 1, 1) := by decide +kernel
theorem dsC_2 : decode jdk_42_method_3_code 2 = .ok (.iconst 0, 1) := by decide +kernel
theorem dsC_3 : decode jdk_42_method_3_code 3 = .ok (.aload_n 1, 1) := by decide +kernel
theorem dsC_4 : decode jdk_42_method_3_code 4 = .ok (.arraylength, 1) := by decide +kernel
theorem dsC_5 : decode jdk_42_method_3_code 5 = .ok (.aconst_null, 1) := by decide +kernel
theorem dsC_6 : decode jdk_42_method_3_code 6 = .ok (.invokespecial 27, 3) := by decide +kernel
theorem dsC_9 : decode jdk_42_method_3_code 9 = .ok (.return_, 1) := by decide +kernel
set_option maxRecDepth 65536 in
set_option maxHeartbeats 4000000 in
theorem rmsC (l : Launch) {Z : State} {a0 : Array Value} (G : OG Z a0) (n0 : Nat) (a c : Addr) (kc : ClassId) (cs : List Int32) (dv : Value) (h0 : Heap) (hcap : cs.length ≤ 2) (hch : Ch cs) (A : Arv Z h0 c kc .char (Int32.ofNat cs.length) (cs.map .int) dv) (E : Exa Z h0 a "java/lang/String") (F1 : Fld Z h0 a "java/lang/String" "value" "[B" .null) (F2 : Fld Z h0 a "java/lang/String" "coder" "B" (.int 0)) (ga : n0 ≤ a) : oCon l Z n0 EL1 [a] (⟨"java/lang/String", "<init>", "([C)V"⟩ : MethodName) isC #[.ref a, .ref c] h0 (fun v h => v = none ∧ Keep h0 h [a] ∧ SV Z h h.size a cs) := by
  obtain ⟨hw, hEL, ⟨cmp, hC, hc0⟩, -⟩ := id G
  refine oCon.mk hEL pnsC rfl rfl (efsC a c) fun C hCl => ?_
  refine s_aloadN (pc' := 1) dsC_0 rfl rfl rfl ?_
  refine s_aloadN (pc' := 2) dsC_1 rfl rfl rfl ?_
  refine s_iconst (x := (0 : Int32)) (pc' := 3) dsC_2 rfl rfl ?_
  refine s_aloadN (pc' := 4) dsC_3 rfl rfl rfl ?_
  refine s_alen A (pc' := 5) dsC_4 rfl ?_
  refine s_null (pc' := 6) dsC_5 rfl ?_
  refine s_callI4 (rmsV C.l G n0 a c kc cs dv h0 hcap hch A E F1 F2 ga) (by simp) rfl rfl (hw _ (List.mem_of_getElem? (i := 14) rfl)) (hw _ (List.mem_of_getElem? (i := 15) rfl)) (hw _ (List.mem_of_getElem? (i := 2) rfl)) (hw _ (List.mem_of_getElem? (i := 17) rfl)) (by decide) (o_len pdsV rfl) rfl (pc' := 9) dsC_6 rfl (Nat.le_of_ble_eq_true rfl) (Nat.le_of_ble_eq_true rfl) (Nat.le_of_ble_eq_true rfl) (Nat.le_of_ble_eq_true rfl) (fun v6 h6 hQ6 => ?_)
  obtain ⟨rfl, q1, q2⟩ := hQ6
  dsimp only [oPush]
  exact s_ret rfl dsC_9 (by decide) (by decide) ⟨rfl, q1, q2⟩
def ilE : OInfo := ("java/lang/StringLatin1", jdk_43_method_13_code, 3, (some .boolean), "equals", ({ frames := 0, cells := 0, slots := 0, locals := 0 } : Room))
theorem eflE (x0 : Addr) (x1 : Addr) (m : MethodId) : entryFrame m #[(.ref x0), (.ref x1)] 3 = mkF m 0 #[.val (.ref x0), .val (.ref x1), .unset] [] := by first | (simp [entryFrame, mkF, argsToLocals, Value.category]; done) | rfl
theorem pdlE : parseMethodDescriptor "([B[B)Z" = some ⟨[(.array .byte), (.array .byte)], some .boolean⟩ := by decide +kernel
theorem pnlE : plainFor (⟨"java/lang/StringLatin1", "equals", "([B[B)Z"⟩ : MethodName) = true := by decide +kernel
theorem dlE_0 : decode jdk_43_method_13_code 0 = .ok (.aload_n 0, 1) := by decide +kernel
theorem dlE_1 : decode jdk_43_method_13_code 1 = .ok (.arraylength, 1) := by decide +kernel
theorem dlE_2 : decode jdk_43_method_13_code 2 = .ok (.aload_n 1, 1) := by decide +kernel
theorem dlE_3 : decode jdk_43_method_13_code 3 = .ok (.arraylength, 1) := by decide +kernel
theorem dlE_4 : decode jdk_43_method_13_code 4 = .ok (.if_icmp .ne 30, 3) := by decide +kernel
theorem dlE_7 : decode jdk_43_method_13_code 7 = .ok (.iconst 0, 1) := by decide +kernel
theorem dlE_8 : decode jdk_43_method_13_code 8 = .ok (.istore_n 2, 1) := by decide +kernel
theorem dlE_9 : decode jdk_43_method_13_code 9 = .ok (.iload_n 2, 1) := by decide +kernel
theorem dlE_10 : decode jdk_43_method_13_code 10 = .ok (.aload_n 0, 1) := by decide +kernel
theorem dlE_11 : decode jdk_43_method_13_code 11 = .ok (.arraylength, 1) := by decide +kernel
theorem dlE_12 : decode jdk_43_method_13_code 12 = .ok (.if_icmp .ge 20, 3) := by decide +kernel
theorem dlE_15 : decode jdk_43_method_13_code 15 = .ok (.aload_n 0, 1) := by decide +kernel
theorem dlE_16 : decode jdk_43_method_13_code 16 = .ok (.iload_n 2, 1) := by decide +kernel
theorem dlE_17 : decode jdk_43_method_13_code 17 = .ok (.baload, 1) := by decide +kernel
theorem dlE_18 : decode jdk_43_method_13_code 18 = .ok (.aload_n 1, 1) := by decide +kernel
theorem dlE_19 : decode jdk_43_method_13_code 19 = .ok (.iload_n 2, 1) := by decide +kernel
theorem dlE_20 : decode jdk_43_method_13_code 20 = .ok (.baload, 1) := by decide +kernel
theorem dlE_21 : decode jdk_43_method_13_code 21 = .ok (.if_icmp .eq 5, 3) := by decide +kernel
theorem dlE_24 : decode jdk_43_method_13_code 24 = .ok (.iconst 0, 1) := by decide +kernel
theorem dlE_25 : decode jdk_43_method_13_code 25 = .ok (.ireturn, 1) := by decide +kernel
theorem dlE_26 : decode jdk_43_method_13_code 26 = .ok (.iinc 2 1, 3) := by decide +kernel
theorem dlE_29 : decode jdk_43_method_13_code 29 = .ok (.goto (-20), 3) := by decide +kernel
theorem dlE_32 : decode jdk_43_method_13_code 32 = .ok (.iconst 1, 1) := by decide +kernel
theorem dlE_33 : decode jdk_43_method_13_code 33 = .ok (.ireturn, 1) := by decide +kernel
theorem dlE_34 : decode jdk_43_method_13_code 34 = .ok (.iconst 0, 1) := by decide +kernel
theorem dlE_35 : decode jdk_43_method_13_code 35 = .ok (.ireturn, 1) := by decide +kernel
set_option maxRecDepth 65536 in
set_option maxHeartbeats 4000000 in
theorem lEloop {C : OCtx} {Z : State} {n0 : Nat} {ws : List Addr} {Q : Option Value → Heap → Prop} {h : Heap} {c d : Addr} {kc kd : ClassId} {cs ds : List Int32} (hb : cs.length < 2147483648) (hl : cs.length = ds.length) (hch : Ch cs) (hch' : Ch ds) (A : Arv Z h c kc .byte (Int32.ofNat cs.length) (cs.map fun c => Value.int (byt c)) (.int 0)) (D : Arv Z h d kd .byte (Int32.ofNat ds.length) (ds.map fun c => Value.int (byt c)) (.int 0))
    (fin : ∀ r : Int32, ((r = 1 ∧ cs = ds) ∨ (r = 0 ∧ ¬ cs = ds)) → Q (some (.int (nar .boolean r))) h) (k : Nat) : ∀ (j : Nat), j ≤ cs.length → cs.length - j = k → cs.take j = ds.take j →
    oRun C Z n0 ilE EL1 ws Q h 0 0 (mkF C.m 9 #[.val (.ref c), .val (.ref d), .val (.int (Int32.ofNat j))] []) := by
  induction k using Nat.strongRecOn with
  | _ k ih =>
  intro j hj hk hpre
  subst hk
  refine s_iloadN (pc' := 10) dlE_9 rfl rfl ?_
  refine s_aloadN (pc' := 11) dlE_10 rfl rfl rfl ?_
  refine s_alen A (pc' := 12) dlE_11 rfl ?_
  refine s_icmp (pc' := 15) (pc'' := 32) dlE_12 rfl (by decide) rfl (fun hc12 => ?_) (fun hc12 => ?_)
  · replace hc12 := b_ge hc12
    obtain rfl : j = cs.length := by
      by_cases q : j < cs.length
      · exact absurd (lt' hb q) hc12
      · omega
    refine s_iconst (x := (1 : Int32)) (pc' := 33) dlE_32 rfl rfl ?_
    exact s_nret (t := .boolean) rfl (by simp) dlE_33 (by decide) (by decide) (fin 1 (Or.inl ⟨rfl, by rwa [List.take_length, hl, List.take_length] at hpre⟩))
  · replace hc12 := b_geF hc12
    have hj2 : j < cs.length := by
      by_cases q : j < cs.length
      · exact q
      · exact absurd hc12 (nlt' (by omega) (by omega))
    obtain ⟨z, hz⟩ : ∃ z, cs[j]? = some z := ⟨cs[j], List.getElem?_eq_getElem hj2⟩
    obtain ⟨y, hy⟩ : ∃ y, ds[j]? = some y := ⟨ds[j]'(by omega), List.getElem?_eq_getElem (by omega)⟩
    refine s_aloadN (pc' := 16) dlE_15 rfl rfl rfl ?_
    refine s_iloadN (pc' := 17) dlE_16 rfl rfl ?_
    refine s_baload A (nn (by omega)) (lt' hb hj2) (v := .int (byt z)) (by rw [cl (by omega)]; exact bs_get hz _) (pc' := 18) dlE_17 rfl ?_
    refine s_aloadN (pc' := 19) dlE_18 rfl rfl rfl ?_
    refine s_iloadN (pc' := 20) dlE_19 rfl rfl ?_
    refine s_baload D (nn (by omega)) (hl ▸ lt' hb hj2) (v := .int (byt y)) (by rw [cl (by omega)]; exact bs_get hy _) (pc' := 21) dlE_20 rfl ?_
    refine s_icmp (pc' := 24) (pc'' := 26) dlE_21 rfl (by decide) rfl (fun hc21 => ?_) (fun hc21 => ?_)
    · replace hc21 := b_eq hc21
      refine s_iinc (y := (1 : Int32)) (pc' := 29) dlE_26 rfl rfl rfl (o_st rfl (by first | exact One.u | exact One.val rfl | assumption) rfl) ?_
      dsimp only [List.set_cons_succ, List.set_cons_zero]
      rw [n_succ]
      refine s_goto (pc' := 9) dlE_29 (by decide) rfl ?_
      exact ih (cs.length - (j + 1)) (by omega) (j + 1) (by omega) rfl (by rw [List.take_add_one, List.take_add_one, hpre, hz, hy, byt_inj (hch _ (List.mem_of_getElem? hz)) (hch' _ (List.mem_of_getElem? hy)) hc21])
    · replace hc21 := b_eqF hc21
      refine s_iconst (x := (0 : Int32)) (pc' := 25) dlE_24 rfl rfl ?_
      exact s_nret (t := .boolean) rfl (by simp) dlE_25 (by decide) (by decide) (fin 0 (Or.inr ⟨rfl, fun e => hc21 (by rw [e] at hz; cases hz.symm.trans hy; rfl)⟩))
set_option maxRecDepth 65536 in
set_option maxHeartbeats 4000000 in
theorem rmlE (l : Launch) {Z : State} {a0 : Array Value} (G : OG Z a0) (n0 : Nat) (c d : Addr) (kc kd : ClassId) (cs ds : List Int32) (h0 : Heap) (hb : cs.length < 2147483648) (hb' : ds.length < 2147483648) (hch : Ch cs) (hch' : Ch ds) (A : Arv Z h0 c kc .byte (Int32.ofNat cs.length) (cs.map fun c => Value.int (byt c)) (.int 0)) (D : Arv Z h0 d kd .byte (Int32.ofNat ds.length) (ds.map fun c => Value.int (byt c)) (.int 0)) : oCon l Z n0 EL1 [] (⟨"java/lang/StringLatin1", "equals", "([B[B)Z"⟩ : MethodName) ilE #[.ref c, .ref d] h0 (fun v h => ∃ r : Int32, v = some (.int r) ∧ h = h0 ∧ ((r = 1 ∧ cs = ds) ∨ (r = 0 ∧ ¬ cs = ds))) := by
  obtain ⟨hw, hEL, ⟨cmp, hC, hc0⟩, -⟩ := id G
  refine oCon.mk hEL pnlE rfl rfl (eflE c d) fun C hCl => ?_
  refine s_aloadN (pc' := 1) dlE_0 rfl rfl rfl ?_
  refine s_alen A (pc' := 2) dlE_1 rfl ?_
  refine s_aloadN (pc' := 3) dlE_2 rfl rfl rfl ?_
  refine s_alen D (pc' := 4) dlE_3 rfl ?_
  refine s_icmp (pc' := 7) (pc'' := 34) dlE_4 rfl (by decide) rfl (fun hc4 => ?_) (fun hc4 => ?_)
  · replace hc4 := b_ne hc4
    refine s_iconst (x := (0 : Int32)) (pc' := 35) dlE_34 rfl rfl ?_
    exact s_nret (t := .boolean) rfl (by simp) dlE_35 (by decide) (by decide) ⟨0, rfl, rfl, Or.inr ⟨rfl, fun e => hc4 (by rw [e])⟩⟩
  · replace hc4 := b_neF hc4
    have hl : cs.length = ds.length := n_inj hb hb' hc4
    refine s_iconst (x := (0 : Int32)) (pc' := 8) dlE_7 rfl rfl ?_
    refine s_istoreN (kn := 2) rfl (pc' := 9) dlE_8 rfl (o_st rfl (by first | exact One.u | exact One.val rfl | assumption) rfl) ?_
    dsimp only [List.set_cons_succ, List.set_cons_zero]
    exact lEloop hb hl hch hch' A D (fun r hr => ⟨r, by rcases hr with ⟨rfl, -⟩ | ⟨rfl, -⟩ <;> rfl, rfl, hr⟩) cs.length 0 (Nat.zero_le _) rfl (by simp)
def isE : OInfo := ("java/lang/String", jdk_42_method_66_code, 3, (some .boolean), "equals", ({ frames := 1, cells := 0, slots := 0, locals := 14 } : Room))
theorem efsE (x0 : Addr) (x1 : Addr) (m : MethodId) : entryFrame m #[(.ref x0), (.ref x1)] 3 = mkF m 0 #[.val (.ref x0), .val (.ref x1), .unset] [] := by first | (simp [entryFrame, mkF, argsToLocals, Value.category]; done) | rfl
theorem pdsE : parseMethodDescriptor "(Ljava/lang/Object;)Z" = some ⟨[(.object "java/lang/Object")], some .boolean⟩ := by decide +kernel
theorem pnsE : plainFor (⟨"java/lang/String", "equals", "(Ljava/lang/Object;)Z"⟩ : MethodName) = true := by decide +kernel
theorem dsE_0 : decode jdk_42_method_66_code 0 = .ok (.aload_n 0, 1) := by decide +kernel
theorem dsE_1 : decode jdk_42_method_66_code 1 = .ok (.aload_n 1, 1) := by decide +kernel
theorem dsE_2 : decode jdk_42_method_66_code 2 = .ok (.if_acmp .ne 5, 3) := by decide +kernel
theorem dsE_5 : decode jdk_42_method_66_code 5 = .ok (.iconst 1, 1) := by decide +kernel
theorem dsE_6 : decode jdk_42_method_66_code 6 = .ok (.ireturn, 1) := by decide +kernel
theorem dsE_7 : decode jdk_42_method_66_code 7 = .ok (.aload_n 1, 1) := by decide +kernel
theorem dsE_8 : decode jdk_42_method_66_code 8 = .ok (.instanceof 10, 3) := by decide +kernel
theorem dsE_11 : decode jdk_42_method_66_code 11 = .ok (.ifCond .eq 43, 3) := by decide +kernel
theorem dsE_14 : decode jdk_42_method_66_code 14 = .ok (.aload_n 1, 1) := by decide +kernel
theorem dsE_15 : decode jdk_42_method_66_code 15 = .ok (.checkcast 10, 3) := by decide +kernel
theorem dsE_18 : decode jdk_42_method_66_code 18 = .ok (.astore_n 2, 1) := by decide +kernel
theorem dsE_19 : decode jdk_42_method_66_code 19 = .ok (.getstatic 38, 3) := by decide +kernel
theorem dsE_22 : decode jdk_42_method_66_code 22 = .ok (.ifCond .eq 14, 3) := by decide +kernel
theorem dsE_25 : decode jdk_42_method_66_code 25 = .ok (.aload_n 0, 1) := by decide +kernel
theorem dsE_26 : decode jdk_42_method_66_code 26 = .ok (.getfield 15, 3) := by decide +kernel
theorem dsE_29 : decode jdk_42_method_66_code 29 = .ok (.aload_n 2, 1) := by decide +kernel
theorem dsE_30 : decode jdk_42_method_66_code 30 = .ok (.getfield 15, 3) := by decide +kernel
theorem dsE_33 : decode jdk_42_method_66_code 33 = .ok (.if_icmp .ne 21, 3) := by decide +kernel
theorem dsE_36 : decode jdk_42_method_66_code 36 = .ok (.aload_n 0, 1) := by decide +kernel
theorem dsE_37 : decode jdk_42_method_66_code 37 = .ok (.getfield 9, 3) := by decide +kernel
theorem dsE_40 : decode jdk_42_method_66_code 40 = .ok (.aload_n 2, 1) := by decide +kernel
theorem dsE_41 : decode jdk_42_method_66_code 41 = .ok (.getfield 9, 3) := by decide +kernel
theorem dsE_44 : decode jdk_42_method_66_code 44 = .ok (.invokestatic 541, 3) := by decide +kernel
theorem dsE_47 : decode jdk_42_method_66_code 47 = .ok (.ifCond .eq 7, 3) := by decide +kernel
theorem dsE_50 : decode jdk_42_method_66_code 50 = .ok (.iconst 1, 1) := by decide +kernel
theorem dsE_51 : decode jdk_42_method_66_code 51 = .ok (.goto 4, 3) := by decide +kernel
theorem dsE_54 : decode jdk_42_method_66_code 54 = .ok (.iconst 0, 1) := by decide +kernel
theorem dsE_55 : decode jdk_42_method_66_code 55 = .ok (.ireturn, 1) := by decide +kernel
set_option maxRecDepth 65536 in
set_option maxHeartbeats 4000000 in
theorem rmsE (l : Launch) {Z : State} {a0 : Array Value} (G : OG Z a0) (n0 : Nat) (a t : Addr) (N M : Nat) (cs ds : List Int32) (h0 : Heap) (hb : cs.length < 2147483648) (hb' : ds.length < 2147483648) (hch : Ch cs) (hch' : Ch ds) (hsame : a = t → cs = ds) (H : SV Z h0 N a cs) (T : SV Z h0 M t ds) : oCon l Z n0 EL1 [] (⟨"java/lang/String", "equals", "(Ljava/lang/Object;)Z"⟩ : MethodName) isE #[.ref a, .ref t] h0 (fun v h => ∃ r : Int32, v = some (.int r) ∧ h = h0 ∧ ((r = 1 ∧ cs = ds) ∨ (r = 0 ∧ ¬ cs = ds))) := by
  obtain ⟨hw, hEL, ⟨cmp, hC, hc0⟩, -⟩ := id G
  obtain ⟨d1, k1, -, -, E1, C1, V1, A1⟩ := H
  obtain ⟨d2, k2, -, -, -, C2, V2, A2⟩ := id T
  refine oCon.mk hEL pnsE rfl rfl (efsE a t) fun C hCl => ?_
  refine s_aloadN (pc' := 1) dsE_0 rfl rfl rfl ?_
  refine s_aloadN (pc' := 2) dsE_1 rfl rfl rfl ?_
  refine s_acmpNe rfl rfl (pc' := 5) (pc'' := 7) dsE_2 rfl (by decide) rfl (fun hc2 => ?_) (fun hc2 => ?_)
  · skip
    refine s_aloadN (pc' := 8) dsE_7 rfl rfl rfl ?_
    refine s_instY (Ins.self (SV.exa T)) (hw _ (List.mem_of_getElem? (i := 55) rfl)) (pc' := 11) dsE_8 rfl ?_
    refine s_if (pc' := 14) (pc'' := 54) dsE_11 rfl (by decide) rfl (fun hc11 => ?_) (fun hc11 => ?_)
    · replace hc11 := b_eq hc11
      exact absurd hc11 (by decide)
    · replace hc11 := b_eqF hc11
      refine s_aloadN (pc' := 15) dsE_14 rfl rfl rfl ?_
      refine s_castY (Ins.self (SV.exa T)) (hw _ (List.mem_of_getElem? (i := 55) rfl)) (pc' := 18) dsE_15 rfl ?_
      refine s_astoreN (kn := 2) rfl (pc' := 19) dsE_18 rfl rfl (o_st rfl (by first | exact One.u | exact One.val rfl | assumption) rfl) ?_
      dsimp only [List.set_cons_succ, List.set_cons_zero]
      refine s_getS hC (hw _ (List.mem_of_getElem? (i := 56) rfl)) Via.refl (pc' := 22) dsE_19 rfl ?_
      refine s_if (pc' := 25) (pc'' := 36) dsE_22 rfl (by decide) rfl (fun hc22 => ?_) (fun hc22 => ?_)
      · replace hc22 := b_eq hc22
        exact absurd hc22 hc0
      · replace hc22 := b_eqF hc22
        refine s_aloadN (pc' := 26) dsE_25 rfl rfl rfl ?_
        refine s_getF C1 (host := "") (Or.inl (hw _ (List.mem_of_getElem? (i := 28) rfl))) Via.refl (pc' := 29) dsE_26 rfl ?_
        refine s_aloadN (pc' := 30) dsE_29 rfl rfl rfl ?_
        refine s_getF C2 (host := "") (Or.inl (hw _ (List.mem_of_getElem? (i := 28) rfl))) Via.refl (pc' := 33) dsE_30 rfl ?_
        refine s_icmp (pc' := 36) (pc'' := 54) dsE_33 rfl (by decide) rfl (fun hc33 => ?_) (fun hc33 => ?_)
        · replace hc33 := b_ne hc33
          exact absurd rfl hc33
        · replace hc33 := b_neF hc33
          refine s_aloadN (pc' := 37) dsE_36 rfl rfl rfl ?_
          refine s_getF V1 (host := "") (Or.inl (hw _ (List.mem_of_getElem? (i := 27) rfl))) Via.refl (pc' := 40) dsE_37 rfl ?_
          refine s_aloadN (pc' := 41) dsE_40 rfl rfl rfl ?_
          refine s_getF V2 (host := "") (Or.inl (hw _ (List.mem_of_getElem? (i := 27) rfl))) Via.refl (pc' := 44) dsE_41 rfl ?_
          refine s_callS2 (rmlE C.l G n0 d1 d2 k1 k2 cs ds h0 hb hb' hch hch' A1 A2) (by simp) (hw _ (List.mem_of_getElem? (i := 57) rfl)) (hw _ (List.mem_of_getElem? (i := 58) rfl)) (hw _ (List.mem_of_getElem? (i := 59) rfl)) (hw _ (List.mem_of_getElem? (i := 60) rfl)) (by decide) (o_len pdlE rfl) rfl (pc' := 47) dsE_44 rfl (Nat.le_of_ble_eq_true rfl) (Nat.le_of_ble_eq_true rfl) (Nat.le_of_ble_eq_true rfl) (Nat.le_of_ble_eq_true rfl) (fun v44 h44 hQ44 => ?_)
          obtain ⟨r, rfl, rfl, hr⟩ := hQ44
          dsimp only [oPush]
          refine s_if (pc' := 50) (pc'' := 54) dsE_47 rfl (by decide) rfl (fun hc47 => ?_) (fun hc47 => ?_)
          · replace hc47 := b_eq hc47
            refine s_iconst (x := (0 : Int32)) (pc' := 55) dsE_54 rfl rfl ?_
            exact s_nret (t := .boolean) rfl (by simp) dsE_55 (by decide) (by decide) ⟨_, rfl, rfl, by rcases hr with ⟨rfl, hr⟩ | ⟨rfl, hr⟩ <;> first | exact absurd hc47 (by decide) | exact Or.inl ⟨rfl, hr⟩ | exact Or.inr ⟨rfl, hr⟩⟩
          · replace hc47 := b_eqF hc47
            refine s_iconst (x := (1 : Int32)) (pc' := 51) dsE_50 rfl rfl ?_
            refine s_goto (pc' := 55) dsE_51 (by decide) rfl ?_
            exact s_nret (t := .boolean) rfl (by simp) dsE_55 (by decide) (by decide) ⟨_, rfl, rfl, by rcases hr with ⟨rfl, hr⟩ | ⟨rfl, hr⟩ <;> first | exact absurd hc47 (by decide) | exact Or.inl ⟨rfl, hr⟩ | exact Or.inr ⟨rfl, hr⟩⟩
  · skip
    refine s_iconst (x := (1 : Int32)) (pc' := 6) dsE_5 rfl rfl ?_
    exact s_nret (t := .boolean) rfl (by simp) dsE_6 (by decide) (by decide) ⟨_, rfl, rfl, Or.inl ⟨rfl, hsame (Value.ref.inj hc2)⟩⟩
theorem pn0 : plainName "com/example/slim_mapper/slimmapper/mapping/EnumConstantEqualsPinLaw" = true := by first | (simp [plainName, overriddenIn]; done) | decide +kernel
def pickc (n c0 c1 : Int32) : List Int32 := if n = 0 then [] else if n = 1 then [c0] else [c0, c1]
theorem pick_ch {n c0 c1 : Int32} (h0 : ¬ c0 < 0 ∧ ¬ (255 : Int32) < c0) (h1 : ¬ c1 < 0 ∧ ¬ (255 : Int32) < c1) : Ch (pickc n c0 c1) := by
  intro z hz; unfold pickc at hz; split at hz
  · simp at hz
  · split at hz
    · simp at hz; subst hz; exact h0
    · simp at hz; rcases hz with rfl | rfl <;> assumption
theorem pick_len (n c0 c1 : Int32) : (pickc n c0 c1).length < 2147483648 := by unfold pickc; split <;> (try split) <;> simp
theorem pick_eq {tl sl t0 t1 u0 u1 : Int32} (h1 : tl = 0 ∨ tl = 1 ∨ tl = 2) (h2 : sl = 0 ∨ sl = 1 ∨ sl = 2) : pickc tl t0 t1 = pickc sl u0 u1 ↔ (tl = sl ∧ (tl < 1 ∨ t0 = u0) ∧ (tl < 2 ∨ t1 = u1)) := by
  have a1 : (0 : Int32) < 1 := by decide
  have a2 : (0 : Int32) < 2 := by decide
  have a3 : (1 : Int32) < 2 := by decide
  have a4 : ¬ (1 : Int32) < 1 := by decide
  have a5 : ¬ (2 : Int32) < 1 := by decide
  have a6 : ¬ (2 : Int32) < 2 := by decide
  have b1 : ¬ (1 : Int32) = 0 := by decide
  have b2 : ¬ (2 : Int32) = 0 := by decide
  have b3 : ¬ (2 : Int32) = 1 := by decide
  have b4 : ¬ (0 : Int32) = 1 := by decide
  have b5 : ¬ (0 : Int32) = 2 := by decide
  have b6 : ¬ (1 : Int32) = 2 := by decide
  rcases h1 with rfl | rfl | rfl <;> rcases h2 with rfl | rfl | rfl <;> simp [pickc, a1, a2, a3, a4, a5, a6, b1, b2, b3, b4, b5, b6]
theorem o_notOf {Z : State} {a0 : Array Value} {C K : String} {n : Nat} (w : (Jvm.Cond.superclass C "java/lang/Object").before a0 Z = true) (wo : (Jvm.Cond.noSuperclass "java/lang/Object").before a0 Z = true) (wi : (Jvm.Cond.instantiable K n).before a0 Z = true) (h1 : C ≠ K) (h2 : "java/lang/Object" ≠ K) : ∃ c t, Z.vm.findClass C = some c ∧ Z.vm.findClass K = some t ∧ Z.vm.assignable c t = false := by
  obtain ⟨c, h0⟩ := found_sup w
  obtain ⟨p, k, kp, q1, q2, q3, q4, q5, -, q7⟩ := Cond.superclass_spec h0 w
  obtain ⟨t, kt, r1, r2, r3, r4, -⟩ := Cond.instantiable_spec wi
  obtain ⟨o, ko, s1, s2, s3, -, -⟩ := Cond.noSuperclass_spec wo
  cases q1.symm.trans s1
  have n1 : c ≠ t := ids_ne h0 r1 h1
  have n2 : p ≠ t := ids_ne s1 r1 h2
  have r5 : kt.isInterface = false := by simp at r4; exact r4.1
  have sub : ∀ fuel, Z.vm.isSubclassAux fuel c t = false := fun fuel => by
    cases fuel with
    | zero => rfl
    | succ f =>
      cases f with
      | zero => simp [Vm.isSubclassAux, n1, q2, q4]
      | succ f => simp [Vm.isSubclassAux, n1, q2, q4, n2, s2, s3]
  refine ⟨c, t, h0, r1, ?_⟩
  show Z.vm.assignableAux (255 + 1) c t = false
  simp [Vm.assignableAux, n1, q2, r2, q5, r3, r5, Vm.isSubclass, sub]
theorem law_eq {r e : Int32} {A B : Prop} (h : A ↔ B) (hr : (r = 1 ∧ A) ∨ (r = 0 ∧ ¬ A)) (he : (e = 1 ∧ B) ∨ (e = 0 ∧ ¬ B)) : r = e := by
  rw [h] at hr
  rcases hr with ⟨rfl, hr⟩ | ⟨rfl, hr⟩ <;> rcases he with ⟨rfl, he⟩ | ⟨rfl, he⟩
  · rfl
  · exact absurd hr he
  · exact absurd he hr
  · rfl
def ln (x : Int32) : Int32 := (XT.ushr x 16 &&& 3) % 3
def dr (x : Int32) : List Int32 := pickc (ln x) (x &&& 255) (XT.ushr x 8 &&& 255)
theorem dr_ch (x : Int32) : Ch (dr x) := pick_ch (r_and _) (r_and _)
theorem dr_len (x : Int32) : (dr x).length < 2147483648 := pick_len _ _ _
theorem dr_cap (x : Int32) : (dr x).length ≤ 2 := by unfold dr pickc; split <;> (try split) <;> simp
theorem ln_r (x : Int32) : ln x = 0 ∨ ln x = 1 ∨ ln x = 2 := by
  have h1 := c_and (XT.ushr x 16) 3 (by decide)
  have h2 := (c_irem (XT.ushr x 16 &&& 3) 3 3 rfl).1 h1.1
  have e0 : (0 : Int32).toInt = 0 := rfl
  have e1 : (1 : Int32).toInt = 1 := rfl
  have e2 : (2 : Int32).toInt = 2 := rfl
  unfold ln
  rw [o_eq, o_eq, o_eq, e0, e1, e2, h2]; omega
def ile : OInfo := ("com/example/slim_mapper/slimmapper/mapping/EnumConstantEqualsPinLaw", method_2_code, 1, (some .int), "len", ({ frames := 0, cells := 0, slots := 0, locals := 0 } : Room))
theorem efle (x0 : Int32) (m : MethodId) : entryFrame m #[(.int x0)] 1 = mkF m 0 #[.val (.int x0)] [] := by first | (simp [entryFrame, mkF, argsToLocals, Value.category]; done) | rfl
theorem pdle : parseMethodDescriptor "(I)I" = some ⟨[.int], some .int⟩ := by decide +kernel
theorem dle_0 : decode method_2_code 0 = .ok (.iload_n 0, 1) := by decide +kernel
theorem dle_1 : decode method_2_code 1 = .ok (.bipush 16, 2) := by decide +kernel
theorem dle_3 : decode method_2_code 3 = .ok (.iushr, 1) := by decide +kernel
theorem dle_4 : decode method_2_code 4 = .ok (.iconst 3, 1) := by decide +kernel
theorem dle_5 : decode method_2_code 5 = .ok (.iand, 1) := by decide +kernel
theorem dle_6 : decode method_2_code 6 = .ok (.iconst 3, 1) := by decide +kernel
theorem dle_7 : decode method_2_code 7 = .ok (.irem, 1) := by decide +kernel
theorem dle_8 : decode method_2_code 8 = .ok (.ireturn, 1) := by decide +kernel
set_option maxRecDepth 65536 in
set_option maxHeartbeats 4000000 in
theorem rmle (l : Launch) {Z : State} {a0 : Array Value} (G : OG Z a0) (n0 : Nat) (x : Int32) (h0 : Heap) : oCon l Z n0 EL1 [] (⟨"com/example/slim_mapper/slimmapper/mapping/EnumConstantEqualsPinLaw", "len", "(I)I"⟩ : MethodName) ile #[.int x] h0 (fun v h => v = some (.int (ln x)) ∧ h = h0) := by
  obtain ⟨hw, hEL, ⟨cmp, hC, hc0⟩, -⟩ := id G
  refine oCon.mk hEL (plainFor_of_name pn0) rfl rfl (efle x) fun C hCl => ?_
  refine s_iloadN (pc' := 1) dle_0 rfl rfl ?_
  refine s_bipush (x := (16 : Int32)) (pc' := 3) dle_1 rfl rfl ?_
  refine s_iushr (pc' := 4) dle_3 rfl ?_
  refine s_iconst (x := (3 : Int32)) (pc' := 5) dle_4 rfl rfl ?_
  refine s_iand (pc' := 6) dle_5 rfl ?_
  refine s_iconst (x := (3 : Int32)) (pc' := 7) dle_6 rfl rfl ?_
  refine s_irem (pc' := 8) dle_7 rfl (by decide) ?_
  exact s_iret rfl dle_8 (by decide) (by decide) ⟨rfl, rfl⟩
def ich : OInfo := ("com/example/slim_mapper/slimmapper/mapping/EnumConstantEqualsPinLaw", method_3_code, 4, (some (.array .char)), "chars", ({ frames := 1, cells := 1, slots := 2, locals := 12 } : Room))
theorem efch (x0 : Int32) (m : MethodId) : entryFrame m #[(.int x0)] 4 = mkF m 0 #[.val (.int x0), .unset, .unset, .unset] [] := by first | (simp [entryFrame, mkF, argsToLocals, Value.category]; done) | rfl
theorem pdch : parseMethodDescriptor "(I)[C" = some ⟨[.int], some (.array .char)⟩ := by decide +kernel
theorem dch_0 : decode method_3_code 0 = .ok (.iload_n 0, 1) := by decide +kernel
theorem dch_1 : decode method_3_code 1 = .ok (.invokestatic 7, 3) := by decide +kernel
theorem dch_4 : decode method_3_code 4 = .ok (.istore_n 1, 1) := by decide +kernel
theorem dch_5 : decode method_3_code 5 = .ok (.iload_n 0, 1) := by decide +kernel
theorem dch_6 : decode method_3_code 6 = .ok (.sipush 255, 3) := by decide +kernel
theorem dch_9 : decode method_3_code 9 = .ok (.iand, 1) := by decide +kernel
theorem dch_10 : decode method_3_code 10 = .ok (.i2c, 1) := by decide +kernel
theorem dch_11 : decode method_3_code 11 = .ok (.istore_n 2, 1) := by decide +kernel
theorem dch_12 : decode method_3_code 12 = .ok (.iload_n 0, 1) := by decide +kernel
theorem dch_13 : decode method_3_code 13 = .ok (.bipush 8, 2) := by decide +kernel
theorem dch_15 : decode method_3_code 15 = .ok (.iushr, 1) := by decide +kernel
theorem dch_16 : decode method_3_code 16 = .ok (.sipush 255, 3) := by decide +kernel
theorem dch_19 : decode method_3_code 19 = .ok (.iand, 1) := by decide +kernel
theorem dch_20 : decode method_3_code 20 = .ok (.i2c, 1) := by decide +kernel
theorem dch_21 : decode method_3_code 21 = .ok (.istore_n 3, 1) := by decide +kernel
theorem dch_22 : decode method_3_code 22 = .ok (.iload_n 1, 1) := by decide +kernel
theorem dch_23 : decode method_3_code 23 = .ok (.ifCond .ne 7, 3) := by decide +kernel
theorem dch_26 : decode method_3_code 26 = .ok (.iconst 0, 1) := by decide +kernel
theorem dch_27 : decode method_3_code 27 = .ok (.newarray .char, 2) := by decide +kernel
theorem dch_29 : decode method_3_code 29 = .ok (.areturn, 1) := by decide +kernel
theorem dch_30 : decode method_3_code 30 = .ok (.iload_n 1, 1) := by decide +kernel
theorem dch_31 : decode method_3_code 31 = .ok (.iconst 1, 1) := by decide +kernel
theorem dch_32 : decode method_3_code 32 = .ok (.if_icmp .ne 11, 3) := by decide +kernel
theorem dch_35 : decode method_3_code 35 = .ok (.iconst 1, 1) := by decide +kernel
theorem dch_36 : decode method_3_code 36 = .ok (.newarray .char, 2) := by decide +kernel
theorem dch_38 : decode method_3_code 38 = .ok (.dup, 1) := by decide +kernel
theorem dch_39 : decode method_3_code 39 = .ok (.iconst 0, 1) := by decide +kernel
theorem dch_40 : decode method_3_code 40 = .ok (.iload_n 2, 1) := by decide +kernel
theorem dch_41 : decode method_3_code 41 = .ok (.castore, 1) := by decide +kernel
theorem dch_42 : decode method_3_code 42 = .ok (.areturn, 1) := by decide +kernel
theorem dch_43 : decode method_3_code 43 = .ok (.iconst 2, 1) := by decide +kernel
theorem dch_44 : decode method_3_code 44 = .ok (.newarray .char, 2) := by decide +kernel
theorem dch_46 : decode method_3_code 46 = .ok (.dup, 1) := by decide +kernel
theorem dch_47 : decode method_3_code 47 = .ok (.iconst 0, 1) := by decide +kernel
theorem dch_48 : decode method_3_code 48 = .ok (.iload_n 2, 1) := by decide +kernel
theorem dch_49 : decode method_3_code 49 = .ok (.castore, 1) := by decide +kernel
theorem dch_50 : decode method_3_code 50 = .ok (.dup, 1) := by decide +kernel
theorem dch_51 : decode method_3_code 51 = .ok (.iconst 1, 1) := by decide +kernel
theorem dch_52 : decode method_3_code 52 = .ok (.iload_n 3, 1) := by decide +kernel
theorem dch_53 : decode method_3_code 53 = .ok (.castore, 1) := by decide +kernel
theorem dch_54 : decode method_3_code 54 = .ok (.areturn, 1) := by decide +kernel
set_option maxRecDepth 65536 in
set_option maxHeartbeats 4000000 in
theorem rmch (l : Launch) {Z : State} {a0 : Array Value} (G : OG Z a0) (n0 : Nat) (x : Int32) (h0 : Heap) : oCon l Z n0 EL1 [] (⟨"com/example/slim_mapper/slimmapper/mapping/EnumConstantEqualsPinLaw", "chars", "(I)[C"⟩ : MethodName) ich #[.int x] h0 (fun v h => ∃ d k, v = some (.ref d) ∧ h0.size ≤ d ∧ Ext h0 h ∧ Arv Z h d k .char (Int32.ofNat (dr x).length) ((dr x).map .int) (.int 0)) := by
  obtain ⟨hw, hEL, ⟨cmp, hC, hc0⟩, -⟩ := id G
  refine oCon.mk hEL (plainFor_of_name pn0) rfl rfl (efch x) fun C hCl => ?_
  refine s_iloadN (pc' := 1) dch_0 rfl rfl ?_
  refine s_callS1 (rmle C.l G n0 x h0) (by simp) (hw _ (List.mem_of_getElem? (i := 7) rfl)) (hw _ (List.mem_of_getElem? (i := 8) rfl)) (hw _ (List.mem_of_getElem? (i := 5) rfl)) (hw _ (List.mem_of_getElem? (i := 9) rfl)) (by decide) (o_len pdle rfl) rfl (pc' := 4) dch_1 rfl (Nat.le_of_ble_eq_true rfl) (Nat.le_of_ble_eq_true rfl) (Nat.le_of_ble_eq_true rfl) (Nat.le_of_ble_eq_true rfl) (fun v1 h1 hQ1 => ?_)
  obtain ⟨rfl, rfl⟩ := hQ1
  dsimp only [oPush]
  refine s_istoreN (kn := 1) rfl (pc' := 5) dch_4 rfl (o_st rfl (by first | exact One.u | exact One.val rfl | assumption) rfl) ?_
  dsimp only [List.set_cons_succ, List.set_cons_zero]
  refine s_iloadN (pc' := 6) dch_5 rfl rfl ?_
  refine s_sipush (x := (255 : Int32)) (pc' := 9) dch_6 rfl rfl ?_
  refine s_iand (pc' := 10) dch_9 rfl ?_
  refine s_i2c (pc' := 11) dch_10 rfl ?_
  rw [i2c_ch (r_and _)]
  refine s_istoreN (kn := 2) rfl (pc' := 12) dch_11 rfl (o_st rfl (by first | exact One.u | exact One.val rfl | assumption) rfl) ?_
  dsimp only [List.set_cons_succ, List.set_cons_zero]
  refine s_iloadN (pc' := 13) dch_12 rfl rfl ?_
  refine s_bipush (x := (8 : Int32)) (pc' := 15) dch_13 rfl rfl ?_
  refine s_iushr (pc' := 16) dch_15 rfl ?_
  refine s_sipush (x := (255 : Int32)) (pc' := 19) dch_16 rfl rfl ?_
  refine s_iand (pc' := 20) dch_19 rfl ?_
  refine s_i2c (pc' := 21) dch_20 rfl ?_
  rw [i2c_ch (r_and _)]
  refine s_istoreN (kn := 3) rfl (pc' := 22) dch_21 rfl (o_st rfl (by first | exact One.u | exact One.val rfl | assumption) rfl) ?_
  dsimp only [List.set_cons_succ, List.set_cons_zero]
  refine s_iloadN (pc' := 23) dch_22 rfl rfl ?_
  refine s_if (pc' := 26) (pc'' := 30) dch_23 rfl (by decide) rfl (fun hc23 => ?_) (fun hc23 => ?_)
  · replace hc23 := b_ne hc23
    refine s_iloadN (pc' := 31) dch_30 rfl rfl ?_
    refine s_iconst (x := (1 : Int32)) (pc' := 32) dch_31 rfl rfl ?_
    refine s_icmp (pc' := 35) (pc'' := 43) dch_32 rfl (by decide) rfl (fun hc32 => ?_) (fun hc32 => ?_)
    · replace hc32 := b_ne hc32
      refine s_iconst (x := (2 : Int32)) (pc' := 44) dch_43 rfl rfl ?_
      refine s_newA 2 (hw _ (List.mem_of_getElem? (i := 10) rfl)) (pc' := 46) dch_44 rfl (by decide) (by decide) (by decide) (Nat.le_of_ble_eq_true rfl) (Nat.le_of_ble_eq_true rfl) (fun h44 b44 k44 g44 nb44 E44 A44 => ?_)
      refine s_dup (pc' := 47) dch_46 rfl rfl ?_
      refine s_iconst (x := (0 : Int32)) (pc' := 48) dch_47 rfl rfl ?_
      refine s_iloadN (pc' := 49) dch_48 rfl rfl ?_
      refine s_castore (o_padTo A44 2) nb44 (by simp) (by decide) (by decide) 0 rfl (by simp) (pc' := 50) dch_49 rfl (fun h49 W49 A49 => ?_)
      rw [nar_ch (r_and _)] at A49
      refine s_dup (pc' := 51) dch_50 rfl rfl ?_
      refine s_iconst (x := (1 : Int32)) (pc' := 52) dch_51 rfl rfl ?_
      refine s_iloadN (pc' := 53) dch_52 rfl rfl ?_
      refine s_castore A49 nb44 (by simp) (by decide) (by decide) 1 rfl (by simp) (pc' := 54) dch_53 rfl (fun h53 W53 A53 => ?_)
      rw [nar_ch (r_and _)] at A53
      exact s_aret rfl rfl rfl dch_54 (Nat.le_of_ble_eq_true rfl) (Nat.le_of_ble_eq_true rfl) ⟨b44, k44, rfl, Nat.le_of_eq g44.symm, o_extKeep (o_extKeep E44 (Keep.of_wr W49) (allS (Nat.le_of_eq g44.symm) all0)) (Keep.of_wr W53) (allS (Nat.le_of_eq g44.symm) all0), by rw [dr, pickc, if_neg hc23, if_neg hc32]; exact A53⟩
    · replace hc32 := b_neF hc32
      refine s_iconst (x := (1 : Int32)) (pc' := 36) dch_35 rfl rfl ?_
      refine s_newA 1 (hw _ (List.mem_of_getElem? (i := 10) rfl)) (pc' := 38) dch_36 rfl (by decide) (by decide) (by decide) (Nat.le_of_ble_eq_true rfl) (Nat.le_of_ble_eq_true rfl) (fun h36 b36 k36 g36 nb36 E36 A36 => ?_)
      refine s_dup (pc' := 39) dch_38 rfl rfl ?_
      refine s_iconst (x := (0 : Int32)) (pc' := 40) dch_39 rfl rfl ?_
      refine s_iloadN (pc' := 41) dch_40 rfl rfl ?_
      refine s_castore (o_padTo A36 1) nb36 (by simp) (by decide) (by decide) 0 rfl (by simp) (pc' := 42) dch_41 rfl (fun h41 W41 A41 => ?_)
      rw [nar_ch (r_and _)] at A41
      exact s_aret rfl rfl rfl dch_42 (Nat.le_of_ble_eq_true rfl) (Nat.le_of_ble_eq_true rfl) ⟨b36, k36, rfl, Nat.le_of_eq g36.symm, o_extKeep E36 (Keep.of_wr W41) (allS (Nat.le_of_eq g36.symm) all0), by rw [dr, pickc, if_neg hc23, if_pos hc32]; exact A41⟩
  · replace hc23 := b_neF hc23
    refine s_iconst (x := (0 : Int32)) (pc' := 27) dch_26 rfl rfl ?_
    refine s_newA 0 (hw _ (List.mem_of_getElem? (i := 10) rfl)) (pc' := 29) dch_27 rfl (by decide) (by decide) (by decide) (Nat.le_of_ble_eq_true rfl) (Nat.le_of_ble_eq_true rfl) (fun h27 b27 k27 g27 nb27 E27 A27 => ?_)
    exact s_aret rfl rfl rfl dch_29 (Nat.le_of_ble_eq_true rfl) (Nat.le_of_ble_eq_true rfl) ⟨b27, k27, rfl, Nat.le_of_eq g27.symm, E27, by rw [dr, pickc, if_pos hc23]; exact A27⟩
def isd : OInfo := ("com/example/slim_mapper/slimmapper/mapping/EnumConstantEqualsPinLaw", method_4_code, 3, (some .boolean), "sameDrawn", ({ frames := 1, cells := 0, slots := 0, locals := 13 } : Room))
theorem efsd (x0 : Int32) (x1 : Int32) (m : MethodId) : entryFrame m #[(.int x0), (.int x1)] 3 = mkF m 0 #[.val (.int x0), .val (.int x1), .unset] [] := by first | (simp [entryFrame, mkF, argsToLocals, Value.category]; done) | rfl
theorem pdsd : parseMethodDescriptor "(II)Z" = some ⟨[.int, .int], some .boolean⟩ := by decide +kernel
theorem dsd_0 : decode method_4_code 0 = .ok (.iload_n 0, 1) := by decide +kernel
theorem dsd_1 : decode method_4_code 1 = .ok (.invokestatic 7, 3) := by decide +kernel
theorem dsd_4 : decode method_4_code 4 = .ok (.istore_n 2, 1) := by decide +kernel
theorem dsd_5 : decode method_4_code 5 = .ok (.iload_n 2, 1) := by decide +kernel
theorem dsd_6 : decode method_4_code 6 = .ok (.iload_n 1, 1) := by decide +kernel
theorem dsd_7 : decode method_4_code 7 = .ok (.invokestatic 7, 3) := by decide +kernel
theorem dsd_10 : decode method_4_code 10 = .ok (.if_icmp .eq 5, 3) := by decide +kernel
theorem dsd_13 : decode method_4_code 13 = .ok (.iconst 0, 1) := by decide +kernel
theorem dsd_14 : decode method_4_code 14 = .ok (.ireturn, 1) := by decide +kernel
theorem dsd_15 : decode method_4_code 15 = .ok (.iload_n 2, 1) := by decide +kernel
theorem dsd_16 : decode method_4_code 16 = .ok (.iconst 1, 1) := by decide +kernel
theorem dsd_17 : decode method_4_code 17 = .ok (.if_icmp .lt 18, 3) := by decide +kernel
theorem dsd_20 : decode method_4_code 20 = .ok (.iload_n 0, 1) := by decide +kernel
theorem dsd_21 : decode method_4_code 21 = .ok (.sipush 255, 3) := by decide +kernel
theorem dsd_24 : decode method_4_code 24 = .ok (.iand, 1) := by decide +kernel
theorem dsd_25 : decode method_4_code 25 = .ok (.iload_n 1, 1) := by decide +kernel
theorem dsd_26 : decode method_4_code 26 = .ok (.sipush 255, 3) := by decide +kernel
theorem dsd_29 : decode method_4_code 29 = .ok (.iand, 1) := by decide +kernel
theorem dsd_30 : decode method_4_code 30 = .ok (.if_icmp .eq 5, 3) := by decide +kernel
theorem dsd_33 : decode method_4_code 33 = .ok (.iconst 0, 1) := by decide +kernel
theorem dsd_34 : decode method_4_code 34 = .ok (.ireturn, 1) := by decide +kernel
theorem dsd_35 : decode method_4_code 35 = .ok (.iload_n 2, 1) := by decide +kernel
theorem dsd_36 : decode method_4_code 36 = .ok (.iconst 2, 1) := by decide +kernel
theorem dsd_37 : decode method_4_code 37 = .ok (.if_icmp .lt 24, 3) := by decide +kernel
theorem dsd_40 : decode method_4_code 40 = .ok (.iload_n 0, 1) := by decide +kernel
theorem dsd_41 : decode method_4_code 41 = .ok (.bipush 8, 2) := by decide +kernel
theorem dsd_43 : decode method_4_code 43 = .ok (.iushr, 1) := by decide +kernel
theorem dsd_44 : decode method_4_code 44 = .ok (.sipush 255, 3) := by decide +kernel
theorem dsd_47 : decode method_4_code 47 = .ok (.iand, 1) := by decide +kernel
theorem dsd_48 : decode method_4_code 48 = .ok (.iload_n 1, 1) := by decide +kernel
theorem dsd_49 : decode method_4_code 49 = .ok (.bipush 8, 2) := by decide +kernel
theorem dsd_51 : decode method_4_code 51 = .ok (.iushr, 1) := by decide +kernel
theorem dsd_52 : decode method_4_code 52 = .ok (.sipush 255, 3) := by decide +kernel
theorem dsd_55 : decode method_4_code 55 = .ok (.iand, 1) := by decide +kernel
theorem dsd_56 : decode method_4_code 56 = .ok (.if_icmp .eq 5, 3) := by decide +kernel
theorem dsd_59 : decode method_4_code 59 = .ok (.iconst 0, 1) := by decide +kernel
theorem dsd_60 : decode method_4_code 60 = .ok (.ireturn, 1) := by decide +kernel
theorem dsd_61 : decode method_4_code 61 = .ok (.iconst 1, 1) := by decide +kernel
theorem dsd_62 : decode method_4_code 62 = .ok (.ireturn, 1) := by decide +kernel
set_option maxRecDepth 65536 in
set_option maxHeartbeats 4000000 in
theorem rmsd (l : Launch) {Z : State} {a0 : Array Value} (G : OG Z a0) (n0 : Nat) (x y : Int32) (h0 : Heap) : oCon l Z n0 EL1 [] (⟨"com/example/slim_mapper/slimmapper/mapping/EnumConstantEqualsPinLaw", "sameDrawn", "(II)Z"⟩ : MethodName) isd #[.int x, .int y] h0 (fun v h => ∃ r : Int32, v = some (.int r) ∧ h = h0 ∧ ((r = 1 ∧ dr x = dr y) ∨ (r = 0 ∧ ¬ dr x = dr y))) := by
  obtain ⟨hw, hEL, ⟨cmp, hC, hc0⟩, -⟩ := id G
  refine oCon.mk hEL (plainFor_of_name pn0) rfl rfl (efsd x y) fun C hCl => ?_
  refine s_iloadN (pc' := 1) dsd_0 rfl rfl ?_
  refine s_callS1 (rmle C.l G n0 x h0) (by simp) (hw _ (List.mem_of_getElem? (i := 7) rfl)) (hw _ (List.mem_of_getElem? (i := 8) rfl)) (hw _ (List.mem_of_getElem? (i := 5) rfl)) (hw _ (List.mem_of_getElem? (i := 9) rfl)) (by decide) (o_len pdle rfl) rfl (pc' := 4) dsd_1 rfl (Nat.le_of_ble_eq_true rfl) (Nat.le_of_ble_eq_true rfl) (Nat.le_of_ble_eq_true rfl) (Nat.le_of_ble_eq_true rfl) (fun v1 h1 hQ1 => ?_)
  obtain ⟨rfl, rfl⟩ := hQ1
  dsimp only [oPush]
  refine s_istoreN (kn := 2) rfl (pc' := 5) dsd_4 rfl (o_st rfl (by first | exact One.u | exact One.val rfl | assumption) rfl) ?_
  dsimp only [List.set_cons_succ, List.set_cons_zero]
  refine s_iloadN (pc' := 6) dsd_5 rfl rfl ?_
  refine s_iloadN (pc' := 7) dsd_6 rfl rfl ?_
  refine s_callS1 (rmle C.l G n0 y _) (by simp) (hw _ (List.mem_of_getElem? (i := 7) rfl)) (hw _ (List.mem_of_getElem? (i := 8) rfl)) (hw _ (List.mem_of_getElem? (i := 5) rfl)) (hw _ (List.mem_of_getElem? (i := 9) rfl)) (by decide) (o_len pdle rfl) rfl (pc' := 10) dsd_7 rfl (Nat.le_of_ble_eq_true rfl) (Nat.le_of_ble_eq_true rfl) (Nat.le_of_ble_eq_true rfl) (Nat.le_of_ble_eq_true rfl) (fun v7 h7 hQ7 => ?_)
  obtain ⟨rfl, rfl⟩ := hQ7
  dsimp only [oPush]
  refine s_icmp (pc' := 13) (pc'' := 15) dsd_10 rfl (by decide) rfl (fun hc10 => ?_) (fun hc10 => ?_)
  · replace hc10 := b_eq hc10
    refine s_iloadN (pc' := 16) dsd_15 rfl rfl ?_
    refine s_iconst (x := (1 : Int32)) (pc' := 17) dsd_16 rfl rfl ?_
    refine s_icmp (pc' := 20) (pc'' := 35) dsd_17 rfl (by decide) rfl (fun hc17 => ?_) (fun hc17 => ?_)
    · replace hc17 := b_lt hc17
      refine s_iloadN (pc' := 36) dsd_35 rfl rfl ?_
      refine s_iconst (x := (2 : Int32)) (pc' := 37) dsd_36 rfl rfl ?_
      refine s_icmp (pc' := 40) (pc'' := 61) dsd_37 rfl (by decide) rfl (fun hc37 => ?_) (fun hc37 => ?_)
      · replace hc37 := b_lt hc37
        refine s_iconst (x := (1 : Int32)) (pc' := 62) dsd_61 rfl rfl ?_
        exact s_nret (t := .boolean) rfl (by simp) dsd_62 (by decide) (by decide) ⟨1, rfl, rfl, Or.inl ⟨rfl, (pick_eq (ln_r x) (ln_r y)).mpr ⟨hc10, by first | exact Or.inl hc17 | exact Or.inr hc30, by first | exact Or.inl hc37 | exact Or.inr hc56⟩⟩⟩
      · replace hc37 := b_ltF hc37
        refine s_iloadN (pc' := 41) dsd_40 rfl rfl ?_
        refine s_bipush (x := (8 : Int32)) (pc' := 43) dsd_41 rfl rfl ?_
        refine s_iushr (pc' := 44) dsd_43 rfl ?_
        refine s_sipush (x := (255 : Int32)) (pc' := 47) dsd_44 rfl rfl ?_
        refine s_iand (pc' := 48) dsd_47 rfl ?_
        refine s_iloadN (pc' := 49) dsd_48 rfl rfl ?_
        refine s_bipush (x := (8 : Int32)) (pc' := 51) dsd_49 rfl rfl ?_
        refine s_iushr (pc' := 52) dsd_51 rfl ?_
        refine s_sipush (x := (255 : Int32)) (pc' := 55) dsd_52 rfl rfl ?_
        refine s_iand (pc' := 56) dsd_55 rfl ?_
        refine s_icmp (pc' := 59) (pc'' := 61) dsd_56 rfl (by decide) rfl (fun hc56 => ?_) (fun hc56 => ?_)
        · replace hc56 := b_eq hc56
          refine s_iconst (x := (1 : Int32)) (pc' := 62) dsd_61 rfl rfl ?_
          exact s_nret (t := .boolean) rfl (by simp) dsd_62 (by decide) (by decide) ⟨1, rfl, rfl, Or.inl ⟨rfl, (pick_eq (ln_r x) (ln_r y)).mpr ⟨hc10, by first | exact Or.inl hc17 | exact Or.inr hc30, by first | exact Or.inl hc37 | exact Or.inr hc56⟩⟩⟩
        · replace hc56 := b_eqF hc56
          refine s_iconst (x := (0 : Int32)) (pc' := 60) dsd_59 rfl rfl ?_
          exact s_nret (t := .boolean) rfl (by simp) dsd_60 (by decide) (by decide) ⟨0, rfl, rfl, Or.inr ⟨rfl, fun q => by unfold dr at q; rw [pick_eq (ln_r x) (ln_r y)] at q; exact q.2.2.elim hc37 hc56⟩⟩
    · replace hc17 := b_ltF hc17
      refine s_iloadN (pc' := 21) dsd_20 rfl rfl ?_
      refine s_sipush (x := (255 : Int32)) (pc' := 24) dsd_21 rfl rfl ?_
      refine s_iand (pc' := 25) dsd_24 rfl ?_
      refine s_iloadN (pc' := 26) dsd_25 rfl rfl ?_
      refine s_sipush (x := (255 : Int32)) (pc' := 29) dsd_26 rfl rfl ?_
      refine s_iand (pc' := 30) dsd_29 rfl ?_
      refine s_icmp (pc' := 33) (pc'' := 35) dsd_30 rfl (by decide) rfl (fun hc30 => ?_) (fun hc30 => ?_)
      · replace hc30 := b_eq hc30
        refine s_iloadN (pc' := 36) dsd_35 rfl rfl ?_
        refine s_iconst (x := (2 : Int32)) (pc' := 37) dsd_36 rfl rfl ?_
        refine s_icmp (pc' := 40) (pc'' := 61) dsd_37 rfl (by decide) rfl (fun hc37 => ?_) (fun hc37 => ?_)
        · replace hc37 := b_lt hc37
          refine s_iconst (x := (1 : Int32)) (pc' := 62) dsd_61 rfl rfl ?_
          exact s_nret (t := .boolean) rfl (by simp) dsd_62 (by decide) (by decide) ⟨1, rfl, rfl, Or.inl ⟨rfl, (pick_eq (ln_r x) (ln_r y)).mpr ⟨hc10, by first | exact Or.inl hc17 | exact Or.inr hc30, by first | exact Or.inl hc37 | exact Or.inr hc56⟩⟩⟩
        · replace hc37 := b_ltF hc37
          refine s_iloadN (pc' := 41) dsd_40 rfl rfl ?_
          refine s_bipush (x := (8 : Int32)) (pc' := 43) dsd_41 rfl rfl ?_
          refine s_iushr (pc' := 44) dsd_43 rfl ?_
          refine s_sipush (x := (255 : Int32)) (pc' := 47) dsd_44 rfl rfl ?_
          refine s_iand (pc' := 48) dsd_47 rfl ?_
          refine s_iloadN (pc' := 49) dsd_48 rfl rfl ?_
          refine s_bipush (x := (8 : Int32)) (pc' := 51) dsd_49 rfl rfl ?_
          refine s_iushr (pc' := 52) dsd_51 rfl ?_
          refine s_sipush (x := (255 : Int32)) (pc' := 55) dsd_52 rfl rfl ?_
          refine s_iand (pc' := 56) dsd_55 rfl ?_
          refine s_icmp (pc' := 59) (pc'' := 61) dsd_56 rfl (by decide) rfl (fun hc56 => ?_) (fun hc56 => ?_)
          · replace hc56 := b_eq hc56
            refine s_iconst (x := (1 : Int32)) (pc' := 62) dsd_61 rfl rfl ?_
            exact s_nret (t := .boolean) rfl (by simp) dsd_62 (by decide) (by decide) ⟨1, rfl, rfl, Or.inl ⟨rfl, (pick_eq (ln_r x) (ln_r y)).mpr ⟨hc10, by first | exact Or.inl hc17 | exact Or.inr hc30, by first | exact Or.inl hc37 | exact Or.inr hc56⟩⟩⟩
          · replace hc56 := b_eqF hc56
            refine s_iconst (x := (0 : Int32)) (pc' := 60) dsd_59 rfl rfl ?_
            exact s_nret (t := .boolean) rfl (by simp) dsd_60 (by decide) (by decide) ⟨0, rfl, rfl, Or.inr ⟨rfl, fun q => by unfold dr at q; rw [pick_eq (ln_r x) (ln_r y)] at q; exact q.2.2.elim hc37 hc56⟩⟩
      · replace hc30 := b_eqF hc30
        refine s_iconst (x := (0 : Int32)) (pc' := 34) dsd_33 rfl rfl ?_
        exact s_nret (t := .boolean) rfl (by simp) dsd_34 (by decide) (by decide) ⟨0, rfl, rfl, Or.inr ⟨rfl, fun q => by unfold dr at q; rw [pick_eq (ln_r x) (ln_r y)] at q; exact q.2.1.elim hc17 hc30⟩⟩
  · replace hc10 := b_eqF hc10
    refine s_iconst (x := (0 : Int32)) (pc' := 14) dsd_13 rfl rfl ?_
    exact s_nret (t := .boolean) rfl (by simp) dsd_14 (by decide) (by decide) ⟨0, rfl, rfl, Or.inr ⟨rfl, fun q => by unfold dr at q; rw [pick_eq (ln_r x) (ln_r y)] at q; exact hc10 q.1⟩⟩
theorem pnL : plainName "com/example/slim_mapper/slimmapper/mapping/ClassFile$ClassLiteral" = true := by first | (simp [plainName, overriddenIn]; done) | decide +kernel
theorem pnE : plainName "com/example/slim_mapper/slimmapper/mapping/ClassFile$EnumConstant" = true := by first | (simp [plainName, overriddenIn]; done) | decide +kernel
def ili : OInfo := ("com/example/slim_mapper/slimmapper/mapping/ClassFile$ClassLiteral", prog_24_method_1_code, 2, none, "<init>", ({ frames := 1, cells := 0, slots := 0, locals := 12 } : Room))
theorem efli (x0 : Addr) (x1 : Addr) (m : MethodId) : entryFrame m #[(.ref x0), (.ref x1)] 2 = mkF m 0 #[.val (.ref x0), .val (.ref x1)] [] := by first | (simp [entryFrame, mkF, argsToLocals, Value.category]; done) | rfl
theorem pdli : parseMethodDescriptor "(Ljava/lang/String;)V" = some ⟨[(.object "java/lang/String")], none⟩ := by decide +kernel
theorem dli_0 : decode prog_24_method_1_code 0 = .ok (.aload_n 0, 1) := by decide +kernel
theorem dli_1 : decode prog_24_method_1_code 1 = .ok (.invokespecial 1, 3) := by decide +kernel
theorem dli_4 : decode prog_24_method_1_code 4 = .ok (.aload_n 0, 1) := by decide +kernel
theorem dli_5 : decode prog_24_method_1_code 5 = .ok (.aload_n 1, 1) := by decide +kernel
theorem dli_6 : decode prog_24_method_1_code 6 = .ok (.putfield 7, 3) := by decide +kernel
theorem dli_9 : decode prog_24_method_1_code 9 = .ok (.return_, 1) := by decide +kernel
set_option maxRecDepth 65536 in
set_option maxHeartbeats 4000000 in
theorem rmli (l : Launch) {Z : State} {a0 : Array Value} (G : OG Z a0) (n0 : Nat) (a t : Addr) (h0 : Heap) (E : Exa Z h0 a "com/example/slim_mapper/slimmapper/mapping/ClassFile$ClassLiteral") (F0 : Fld Z h0 a "com/example/slim_mapper/slimmapper/mapping/ClassFile$ClassLiteral" "typeName" "Ljava/lang/String;" .null) (ga : n0 ≤ a) : oCon l Z n0 EL1 [a] (⟨"com/example/slim_mapper/slimmapper/mapping/ClassFile$ClassLiteral", "<init>", "(Ljava/lang/String;)V"⟩ : MethodName) ili #[.ref a, .ref t] h0 (fun v h => v = none ∧ Keep h0 h [a] ∧ Exa Z h a "com/example/slim_mapper/slimmapper/mapping/ClassFile$ClassLiteral") := by
  obtain ⟨hw, hEL, ⟨cmp, hC, hc0⟩, -⟩ := id G
  refine oCon.mk hEL (plainFor_of_name pnL) rfl rfl (efli a t) fun C hCl => ?_
  refine s_aloadN (pc' := 1) dli_0 rfl rfl rfl ?_
  refine s_initO (hw _ (List.mem_of_getElem? (i := 79) rfl)) (hw _ (List.mem_of_getElem? (i := 19) rfl)) (hw _ (List.mem_of_getElem? (i := 20) rfl)) rfl (pc' := 4) dli_1 rfl (Nat.le_of_ble_eq_true rfl) (Nat.le_of_ble_eq_true rfl) ?_
  refine s_aloadN (pc' := 5) dli_4 rfl rfl rfl ?_
  refine s_aloadN (pc' := 6) dli_5 rfl rfl rfl ?_
  refine s_putF F0 E ga (by simp) (host := "") (Or.inl (hw _ (List.mem_of_getElem? (i := 80) rfl))) Via.refl (Or.inr ⟨(hw _ (List.mem_of_getElem? (i := 81) rfl)), rfl, rfl⟩) (hw _ (List.mem_of_getElem? (i := 74) rfl)) (ty := (.object "java/lang/String")) (by decide) rfl rfl (pc' := 9) dli_6 rfl (fun h6 W6 => ?_)
  exact s_ret rfl dli_9 (by decide) (by decide) ⟨rfl, Keep.of_wr W6, E.wr W6⟩
def iei : OInfo := ("com/example/slim_mapper/slimmapper/mapping/ClassFile$EnumConstant", prog_26_method_1_code, 3, none, "<init>", ({ frames := 1, cells := 0, slots := 0, locals := 12 } : Room))
theorem efei (x0 : Addr) (x1 : Addr) (x2 : Addr) (m : MethodId) : entryFrame m #[(.ref x0), (.ref x1), (.ref x2)] 3 = mkF m 0 #[.val (.ref x0), .val (.ref x1), .val (.ref x2)] [] := by first | (simp [entryFrame, mkF, argsToLocals, Value.category]; done) | rfl
theorem pdei : parseMethodDescriptor "(Ljava/lang/String;Ljava/lang/String;)V" = some ⟨[(.object "java/lang/String"), (.object "java/lang/String")], none⟩ := by decide +kernel
theorem dei_0 : decode prog_26_method_1_code 0 = .ok (.aload_n 0, 1) := by decide +kernel
theorem dei_1 : decode prog_26_method_1_code 1 = .ok (.invokespecial 1, 3) := by decide +kernel
theorem dei_4 : decode prog_26_method_1_code 4 = .ok (.aload_n 0, 1) := by decide +kernel
theorem dei_5 : decode prog_26_method_1_code 5 = .ok (.aload_n 1, 1) := by decide +kernel
theorem dei_6 : decode prog_26_method_1_code 6 = .ok (.putfield 7, 3) := by decide +kernel
theorem dei_9 : decode prog_26_method_1_code 9 = .ok (.aload_n 0, 1) := by decide +kernel
theorem dei_10 : decode prog_26_method_1_code 10 = .ok (.aload_n 2, 1) := by decide +kernel
theorem dei_11 : decode prog_26_method_1_code 11 = .ok (.putfield 13, 3) := by decide +kernel
theorem dei_14 : decode prog_26_method_1_code 14 = .ok (.return_, 1) := by decide +kernel
set_option maxRecDepth 65536 in
set_option maxHeartbeats 4000000 in
theorem rmei (l : Launch) {Z : State} {a0 : Array Value} (G : OG Z a0) (n0 : Nat) (a t u : Addr) (h0 : Heap) (E : Exa Z h0 a "com/example/slim_mapper/slimmapper/mapping/ClassFile$EnumConstant") (F0 : Fld Z h0 a "com/example/slim_mapper/slimmapper/mapping/ClassFile$EnumConstant" "typeName" "Ljava/lang/String;" .null) (F1 : Fld Z h0 a "com/example/slim_mapper/slimmapper/mapping/ClassFile$EnumConstant" "name" "Ljava/lang/String;" .null) (ga : n0 ≤ a) : oCon l Z n0 EL1 [a] (⟨"com/example/slim_mapper/slimmapper/mapping/ClassFile$EnumConstant", "<init>", "(Ljava/lang/String;Ljava/lang/String;)V"⟩ : MethodName) iei #[.ref a, .ref t, .ref u] h0 (fun v h => v = none ∧ Keep h0 h [a] ∧ Exa Z h a "com/example/slim_mapper/slimmapper/mapping/ClassFile$EnumConstant" ∧ Fld Z h a "com/example/slim_mapper/slimmapper/mapping/ClassFile$EnumConstant" "typeName" "Ljava/lang/String;" (.ref t) ∧ Fld Z h a "com/example/slim_mapper/slimmapper/mapping/ClassFile$EnumConstant" "name" "Ljava/lang/String;" (.ref u)) := by
  obtain ⟨hw, hEL, ⟨cmp, hC, hc0⟩, -⟩ := id G
  refine oCon.mk hEL (plainFor_of_name pnE) rfl rfl (efei a t u) fun C hCl => ?_
  refine s_aloadN (pc' := 1) dei_0 rfl rfl rfl ?_
  refine s_initO (hw _ (List.mem_of_getElem? (i := 35) rfl)) (hw _ (List.mem_of_getElem? (i := 19) rfl)) (hw _ (List.mem_of_getElem? (i := 20) rfl)) rfl (pc' := 4) dei_1 rfl (Nat.le_of_ble_eq_true rfl) (Nat.le_of_ble_eq_true rfl) ?_
  refine s_aloadN (pc' := 5) dei_4 rfl rfl rfl ?_
  refine s_aloadN (pc' := 6) dei_5 rfl rfl rfl ?_
  refine s_putF F0 E ga (by simp) (host := "") (Or.inl (hw _ (List.mem_of_getElem? (i := 36) rfl))) Via.refl (Or.inr ⟨(hw _ (List.mem_of_getElem? (i := 37) rfl)), rfl, rfl⟩) (hw _ (List.mem_of_getElem? (i := 30) rfl)) (ty := (.object "java/lang/String")) (by decide) rfl rfl (pc' := 9) dei_6 rfl (fun h6 W6 => ?_)
  refine s_aloadN (pc' := 10) dei_9 rfl rfl rfl ?_
  refine s_aloadN (pc' := 11) dei_10 rfl rfl rfl ?_
  refine s_putF (F1.other W6 (Or.inr (slot_ne (Or.inr (hw _ (List.mem_of_getElem? (i := 39) rfl))) (Or.inr (hw _ (List.mem_of_getElem? (i := 37) rfl))) (by decide) (t := (.object "java/lang/String")) (t' := (.object "java/lang/String")) (by decide) (by decide)))) (E.wr W6) ga (by simp) (host := "") (Or.inl (hw _ (List.mem_of_getElem? (i := 38) rfl))) Via.refl (Or.inr ⟨(hw _ (List.mem_of_getElem? (i := 39) rfl)), rfl, rfl⟩) (hw _ (List.mem_of_getElem? (i := 30) rfl)) (ty := (.object "java/lang/String")) (by decide) rfl rfl (pc' := 14) dei_11 rfl (fun h11 W11 => ?_)
  exact s_ret rfl dei_14 (by decide) (by decide) ⟨rfl, (Keep.of_wr W6).wr W11 (Or.inl (List.mem_cons_self ..)), (E.wr W6).wr W11, ((F0.same W6).other W11 (Or.inr (slot_ne (Or.inr (hw _ (List.mem_of_getElem? (i := 37) rfl))) (Or.inr (hw _ (List.mem_of_getElem? (i := 39) rfl))) (by decide) (t := (.object "java/lang/String")) (t' := (.object "java/lang/String")) (by decide) (by decide)))), ((F1.other W6 (Or.inr (slot_ne (Or.inr (hw _ (List.mem_of_getElem? (i := 39) rfl))) (Or.inr (hw _ (List.mem_of_getElem? (i := 37) rfl))) (by decide) (t := (.object "java/lang/String")) (t' := (.object "java/lang/String")) (by decide) (by decide)))).same W11)⟩
def ieq : OInfo := ("com/example/slim_mapper/slimmapper/mapping/ClassFile$EnumConstant", prog_26_method_3_code, 3, (some .boolean), "equals", ({ frames := 2, cells := 0, slots := 0, locals := 28 } : Room))
theorem efeq (x0 : Addr) (x1 : Addr) (m : MethodId) : entryFrame m #[(.ref x0), (.ref x1)] 3 = mkF m 0 #[.val (.ref x0), .val (.ref x1), .unset] [] := by first | (simp [entryFrame, mkF, argsToLocals, Value.category]; done) | rfl
theorem pdeq : parseMethodDescriptor "(Ljava/lang/Object;)Z" = some ⟨[(.object "java/lang/Object")], some .boolean⟩ := by decide +kernel
theorem deq_0 : decode prog_26_method_3_code 0 = .ok (.aload_n 1, 1) := by decide +kernel
theorem deq_1 : decode prog_26_method_3_code 1 = .ok (.instanceof 8, 3) := by decide +kernel
theorem deq_4 : decode prog_26_method_3_code 4 = .ok (.ifCond .eq 40, 3) := by decide +kernel
theorem deq_7 : decode prog_26_method_3_code 7 = .ok (.aload_n 1, 1) := by decide +kernel
theorem deq_8 : decode prog_26_method_3_code 8 = .ok (.checkcast 8, 3) := by decide +kernel
theorem deq_11 : decode prog_26_method_3_code 11 = .ok (.astore_n 2, 1) := by decide +kernel
theorem deq_12 : decode prog_26_method_3_code 12 = .ok (.aload_n 2, 1) := by decide +kernel
theorem deq_13 : decode prog_26_method_3_code 13 = .ok (.getfield 7, 3) := by decide +kernel
theorem deq_16 : decode prog_26_method_3_code 16 = .ok (.aload_n 0, 1) := by decide +kernel
theorem deq_17 : decode prog_26_method_3_code 17 = .ok (.getfield 7, 3) := by decide +kernel
theorem deq_20 : decode prog_26_method_3_code 20 = .ok (.invokevirtual 16, 3) := by decide +kernel
theorem deq_23 : decode prog_26_method_3_code 23 = .ok (.ifCond .eq 21, 3) := by decide +kernel
theorem deq_26 : decode prog_26_method_3_code 26 = .ok (.aload_n 2, 1) := by decide +kernel
theorem deq_27 : decode prog_26_method_3_code 27 = .ok (.getfield 13, 3) := by decide +kernel
theorem deq_30 : decode prog_26_method_3_code 30 = .ok (.aload_n 0, 1) := by decide +kernel
theorem deq_31 : decode prog_26_method_3_code 31 = .ok (.getfield 13, 3) := by decide +kernel
theorem deq_34 : decode prog_26_method_3_code 34 = .ok (.invokevirtual 16, 3) := by decide +kernel
theorem deq_37 : decode prog_26_method_3_code 37 = .ok (.ifCond .eq 7, 3) := by decide +kernel
theorem deq_40 : decode prog_26_method_3_code 40 = .ok (.iconst 1, 1) := by decide +kernel
theorem deq_41 : decode prog_26_method_3_code 41 = .ok (.goto 4, 3) := by decide +kernel
theorem deq_44 : decode prog_26_method_3_code 44 = .ok (.iconst 0, 1) := by decide +kernel
theorem deq_45 : decode prog_26_method_3_code 45 = .ok (.ireturn, 1) := by decide +kernel
set_option maxRecDepth 65536 in
set_option maxHeartbeats 4000000 in
theorem rmeq (l : Launch) {Z : State} {a0 : Array Value} (G : OG Z a0) (n0 : Nat) (a o t u t' u' : Addr) (N M N' M' : Nat) (cs ds cs' ds' : List Int32) (h0 : Heap) (hb : cs.length < 2147483648) (hb' : ds.length < 2147483648) (hch : Ch cs) (hch' : Ch ds) (hsame : u = t → ds = cs) (T1 : SV Z h0 N t cs) (T2 : SV Z h0 M u ds) (hd : cs'.length < 2147483648) (hd' : ds'.length < 2147483648) (he : Ch cs') (he' : Ch ds') (hsame' : u' = t' → ds' = cs') (U1 : SV Z h0 N' t' cs') (U2 : SV Z h0 M' u' ds') (E2 : Exa Z h0 o "com/example/slim_mapper/slimmapper/mapping/ClassFile$EnumConstant") (F1 : Fld Z h0 a "com/example/slim_mapper/slimmapper/mapping/ClassFile$EnumConstant" "typeName" "Ljava/lang/String;" (.ref t)) (F2 : Fld Z h0 o "com/example/slim_mapper/slimmapper/mapping/ClassFile$EnumConstant" "typeName" "Ljava/lang/String;" (.ref u)) (G1 : Fld Z h0 a "com/example/slim_mapper/slimmapper/mapping/ClassFile$EnumConstant" "name" "Ljava/lang/String;" (.ref t')) (G2 : Fld Z h0 o "com/example/slim_mapper/slimmapper/mapping/ClassFile$EnumConstant" "name" "Ljava/lang/String;" (.ref u')) : oCon l Z n0 EL1 [] (⟨"com/example/slim_mapper/slimmapper/mapping/ClassFile$EnumConstant", "equals", "(Ljava/lang/Object;)Z"⟩ : MethodName) ieq #[.ref a, .ref o] h0 (fun v h => ∃ r : Int32, v = some (.int r) ∧ h = h0 ∧ ((r = 1 ∧ ds = cs ∧ ds' = cs') ∨ (r = 0 ∧ ¬ (ds = cs ∧ ds' = cs')))) := by
  obtain ⟨hw, hEL, ⟨cmp, hC, hc0⟩, -⟩ := id G
  refine oCon.mk hEL (plainFor_of_name pnE) rfl rfl (efeq a o) fun C hCl => ?_
  refine s_aloadN (pc' := 1) deq_0 rfl rfl rfl ?_
  refine s_instY (Ins.self E2) (hw _ (List.mem_of_getElem? (i := 48) rfl)) (pc' := 4) deq_1 rfl ?_
  refine s_if (pc' := 7) (pc'' := 44) deq_4 rfl (by decide) rfl (fun hc4 => ?_) (fun hc4 => ?_)
  · replace hc4 := b_eq hc4
    exact absurd hc4 (by decide)
  · replace hc4 := b_eqF hc4
    refine s_aloadN (pc' := 8) deq_7 rfl rfl rfl ?_
    refine s_castY (Ins.self E2) (hw _ (List.mem_of_getElem? (i := 48) rfl)) (pc' := 11) deq_8 rfl ?_
    refine s_astoreN (kn := 2) rfl (pc' := 12) deq_11 rfl rfl (o_st rfl (by first | exact One.u | exact One.val rfl | assumption) rfl) ?_
    dsimp only [List.set_cons_succ, List.set_cons_zero]
    refine s_aloadN (pc' := 13) deq_12 rfl rfl rfl ?_
    refine s_getF F2 (host := "") (Or.inl (hw _ (List.mem_of_getElem? (i := 36) rfl))) Via.refl (pc' := 16) deq_13 rfl ?_
    refine s_aloadN (pc' := 17) deq_16 rfl rfl rfl ?_
    refine s_getF F1 (host := "") (Or.inl (hw _ (List.mem_of_getElem? (i := 36) rfl))) Via.refl (pc' := 20) deq_17 rfl ?_
    refine s_callV1 (rmsE C.l G n0 u t _ _ ds cs h0 hb' hb hch' hch hsame T2 T1) (by simp) T2.exa (hw _ (List.mem_of_getElem? (i := 50) rfl)) (hw _ (List.mem_of_getElem? (i := 51) rfl)) (hw _ (List.mem_of_getElem? (i := 53) rfl)) (hw _ (List.mem_of_getElem? (i := 52) rfl)) (o_nf (hw _ (List.mem_of_getElem? (i := 53) rfl)) rfl) (hw _ (List.mem_of_getElem? (i := 2) rfl)) (hw _ (List.mem_of_getElem? (i := 54) rfl)) (by decide) (o_len pdsE rfl) rfl (pc' := 23) deq_20 rfl (Nat.le_of_ble_eq_true rfl) (Nat.le_of_ble_eq_true rfl) (Nat.le_of_ble_eq_true rfl) (Nat.le_of_ble_eq_true rfl) (fun v20 h20 hQ20 => ?_)
    obtain ⟨r, rfl, rfl, hr⟩ := hQ20
    dsimp only [oPush]
    refine s_if (pc' := 26) (pc'' := 44) deq_23 rfl (by decide) rfl (fun hc23 => ?_) (fun hc23 => ?_)
    · replace hc23 := b_eq hc23
      refine s_iconst (x := (0 : Int32)) (pc' := 45) deq_44 rfl rfl ?_
      exact s_nret (t := .boolean) rfl (by simp) deq_45 (by decide) (by decide) (by first | exact ⟨1, rfl, rfl, Or.inl ⟨rfl, hr.elim (·.2) fun z => absurd z.1 hc23, hr2.elim (·.2) fun z => absurd z.1 hc37⟩⟩ | exact ⟨0, rfl, rfl, Or.inr ⟨rfl, fun q => hr.elim (fun z => absurd (z.1.symm.trans hc23) (by decide)) fun z => z.2 q.1⟩⟩ | exact ⟨0, rfl, rfl, Or.inr ⟨rfl, fun q => hr2.elim (fun z => absurd (z.1.symm.trans hc37) (by decide)) fun z => z.2 q.2⟩⟩)
    · replace hc23 := b_eqF hc23
      refine s_aloadN (pc' := 27) deq_26 rfl rfl rfl ?_
      refine s_getF G2 (host := "") (Or.inl (hw _ (List.mem_of_getElem? (i := 38) rfl))) Via.refl (pc' := 30) deq_27 rfl ?_
      refine s_aloadN (pc' := 31) deq_30 rfl rfl rfl ?_
      refine s_getF G1 (host := "") (Or.inl (hw _ (List.mem_of_getElem? (i := 38) rfl))) Via.refl (pc' := 34) deq_31 rfl ?_
      refine s_callV1 (rmsE C.l G n0 u' t' _ _ ds' cs' _ hd' hd he' he hsame' U2 U1) (by simp) U2.exa (hw _ (List.mem_of_getElem? (i := 50) rfl)) (hw _ (List.mem_of_getElem? (i := 51) rfl)) (hw _ (List.mem_of_getElem? (i := 53) rfl)) (hw _ (List.mem_of_getElem? (i := 52) rfl)) (o_nf (hw _ (List.mem_of_getElem? (i := 53) rfl)) rfl) (hw _ (List.mem_of_getElem? (i := 2) rfl)) (hw _ (List.mem_of_getElem? (i := 54) rfl)) (by decide) (o_len pdsE rfl) rfl (pc' := 37) deq_34 rfl (Nat.le_of_ble_eq_true rfl) (Nat.le_of_ble_eq_true rfl) (Nat.le_of_ble_eq_true rfl) (Nat.le_of_ble_eq_true rfl) (fun v34 h34 hQ34 => ?_)
      obtain ⟨r2, rfl, rfl, hr2⟩ := hQ34
      dsimp only [oPush]
      refine s_if (pc' := 40) (pc'' := 44) deq_37 rfl (by decide) rfl (fun hc37 => ?_) (fun hc37 => ?_)
      · replace hc37 := b_eq hc37
        refine s_iconst (x := (0 : Int32)) (pc' := 45) deq_44 rfl rfl ?_
        exact s_nret (t := .boolean) rfl (by simp) deq_45 (by decide) (by decide) (by first | exact ⟨1, rfl, rfl, Or.inl ⟨rfl, hr.elim (·.2) fun z => absurd z.1 hc23, hr2.elim (·.2) fun z => absurd z.1 hc37⟩⟩ | exact ⟨0, rfl, rfl, Or.inr ⟨rfl, fun q => hr.elim (fun z => absurd (z.1.symm.trans hc23) (by decide)) fun z => z.2 q.1⟩⟩ | exact ⟨0, rfl, rfl, Or.inr ⟨rfl, fun q => hr2.elim (fun z => absurd (z.1.symm.trans hc37) (by decide)) fun z => z.2 q.2⟩⟩)
      · replace hc37 := b_eqF hc37
        refine s_iconst (x := (1 : Int32)) (pc' := 41) deq_40 rfl rfl ?_
        refine s_goto (pc' := 45) deq_41 (by decide) rfl ?_
        exact s_nret (t := .boolean) rfl (by simp) deq_45 (by decide) (by decide) (by first | exact ⟨1, rfl, rfl, Or.inl ⟨rfl, hr.elim (·.2) fun z => absurd z.1 hc23, hr2.elim (·.2) fun z => absurd z.1 hc37⟩⟩ | exact ⟨0, rfl, rfl, Or.inr ⟨rfl, fun q => hr.elim (fun z => absurd (z.1.symm.trans hc23) (by decide)) fun z => z.2 q.1⟩⟩ | exact ⟨0, rfl, rfl, Or.inr ⟨rfl, fun q => hr2.elim (fun z => absurd (z.1.symm.trans hc37) (by decide)) fun z => z.2 q.2⟩⟩)
theorem efeN (x0 : Addr) (m : MethodId) : entryFrame m #[(.ref x0), .null] 3 = mkF m 0 #[.val (.ref x0), .val .null, .unset] [] := by first | (simp [entryFrame, mkF, argsToLocals, Value.category]; done) | rfl
set_option maxRecDepth 65536 in
set_option maxHeartbeats 4000000 in
theorem rmeN (l : Launch) {Z : State} {a0 : Array Value} (G : OG Z a0) (n0 : Nat) (a : Addr) (h0 : Heap) : oCon l Z n0 EL1 [] (⟨"com/example/slim_mapper/slimmapper/mapping/ClassFile$EnumConstant", "equals", "(Ljava/lang/Object;)Z"⟩ : MethodName) ieq #[.ref a, .null] h0 (fun v h => v = some (.int 0) ∧ h = h0) := by
  obtain ⟨hw, hEL, ⟨cmp, hC, hc0⟩, -⟩ := id G
  refine oCon.mk hEL (plainFor_of_name pnE) rfl rfl (efeN a) fun C hCl => ?_
  refine s_aloadN (pc' := 1) deq_0 rfl rfl rfl ?_
  refine s_instNull (pc' := 4) deq_1 rfl ?_
  refine s_if (pc' := 7) (pc'' := 44) deq_4 rfl (by decide) rfl (fun hc4 => ?_) (fun hc4 => ?_)
  · replace hc4 := b_eq hc4
    refine s_iconst (x := (0 : Int32)) (pc' := 45) deq_44 rfl rfl ?_
    exact s_nret (t := .boolean) rfl (by simp) deq_45 (by decide) (by decide) ⟨rfl, rfl⟩
  · replace hc4 := b_eqF hc4
    exact absurd rfl hc4
set_option maxRecDepth 65536 in
set_option maxHeartbeats 4000000 in
theorem rmeO (l : Launch) {Z : State} {a0 : Array Value} (G : OG Z a0) (n0 : Nat) (a o : Addr) (Cn : String) (h0 : Heap) (E2 : Exa Z h0 o Cn) (no : ∃ c t, Z.vm.findClass Cn = some c ∧ Z.vm.findClass "com/example/slim_mapper/slimmapper/mapping/ClassFile$EnumConstant" = some t ∧ Z.vm.assignable c t = false) : oCon l Z n0 EL1 [] (⟨"com/example/slim_mapper/slimmapper/mapping/ClassFile$EnumConstant", "equals", "(Ljava/lang/Object;)Z"⟩ : MethodName) ieq #[.ref a, .ref o] h0 (fun v h => v = some (.int 0) ∧ h = h0) := by
  obtain ⟨hw, hEL, ⟨cmp, hC, hc0⟩, -⟩ := id G
  refine oCon.mk hEL (plainFor_of_name pnE) rfl rfl (efeq a o) fun C hCl => ?_
  refine s_aloadN (pc' := 1) deq_0 rfl rfl rfl ?_
  refine s_instNo E2 no (hw _ (List.mem_of_getElem? (i := 48) rfl)) (pc' := 4) deq_1 rfl ?_
  refine s_if (pc' := 7) (pc'' := 44) deq_4 rfl (by decide) rfl (fun hc4 => ?_) (fun hc4 => ?_)
  · replace hc4 := b_eq hc4
    refine s_iconst (x := (0 : Int32)) (pc' := 45) deq_44 rfl rfl ?_
    exact s_nret (t := .boolean) rfl (by simp) deq_45 (by decide) (by decide) ⟨rfl, rfl⟩
  · replace hc4 := b_eqF hc4
    exact absurd rfl hc4
def i0 : OInfo := ("com/example/slim_mapper/slimmapper/mapping/EnumConstantEqualsPinLaw", code, maxLocals, (some .boolean), "law", room_1)
theorem ef0 (x0 : Int32) (x1 : Int32) (x2 : Int32) (x3 : Int32) (x4 : Int32) (m : MethodId) : entryFrame m #[(.int x0), (.int x1), (.int x2), (.int x3), (.int x4)] maxLocals = mkF m 0 #[.val (.int x0), .val (.int x1), .val (.int x2), .val (.int x3), .val (.int x4), .unset, .unset, .unset, .unset, .unset, .unset, .unset, .unset, .unset, .unset, .unset, .unset] [] := by first | (simp [entryFrame, mkF, argsToLocals, Value.category, maxLocals]; done) | rfl
set_option maxRecDepth 65536 in
set_option maxHeartbeats 4000000 in
theorem sg0 {Z : State} {C : OCtx} {n0 : Nat} {ws : List Addr} {Q : Option Value → Heap → Prop} {h : Heap} {a b c d e : Int32} {s5 s6 s7 s8 s9 s10 s11 s12 s13 s14 s15 s16 : Slot} (K1 : ∀ v : Int32, oRun C Z n0 i0 EL1 ws Q h 0 0 (mkF C.m 12 #[.val (.int a), .val (.int b), .val (.int c), .val (.int d), .val (.int e), s5, s6, s7, s8, s9, s10, s11, s12, s13, s14, s15, s16] [.int v])) : oRun C Z n0 i0 EL1 ws Q h 0 0 (mkF C.m 0 #[.val (.int a), .val (.int b), .val (.int c), .val (.int d), .val (.int e), s5, s6, s7, s8, s9, s10, s11, s12, s13, s14, s15, s16] []) := by
  refine s_iload (pc' := 2) at_0 rfl rfl ?_
  refine s_iconst (x := (1 : Int32)) (pc' := 3) at_2 rfl rfl ?_
  refine s_iand (pc' := 4) at_3 rfl ?_
  refine s_if (pc' := 7) (pc'' := 11) at_4 rfl (by decide) rfl (fun hc4 => ?_) (fun hc4 => ?_)
  · replace hc4 := b_eq hc4
    refine s_iconst (x := (0 : Int32)) (pc' := 12) at_11 rfl rfl ?_
    exact K1 _
  · replace hc4 := b_eqF hc4
    refine s_iconst (x := (1 : Int32)) (pc' := 8) at_7 rfl rfl ?_
    refine s_goto (pc' := 12) at_8 (by decide) rfl ?_
    exact K1 _
set_option maxRecDepth 65536 in
set_option maxHeartbeats 4000000 in
theorem sg14 {Z : State} {C : OCtx} {n0 : Nat} {ws : List Addr} {Q : Option Value → Heap → Prop} {h : Heap} {a b c d e z : Int32} {s6 s7 s8 s9 s10 s11 s12 s13 s14 s15 s16 : Slot} (K1 : ∀ v : Int32, oRun C Z n0 i0 EL1 ws Q h 0 0 (mkF C.m 26 #[.val (.int a), .val (.int b), .val (.int c), .val (.int d), .val (.int e), .val (.int z), s6, s7, s8, s9, s10, s11, s12, s13, s14, s15, s16] [.int v])) : oRun C Z n0 i0 EL1 ws Q h 0 0 (mkF C.m 14 #[.val (.int a), .val (.int b), .val (.int c), .val (.int d), .val (.int e), .val (.int z), s6, s7, s8, s9, s10, s11, s12, s13, s14, s15, s16] []) := by
  refine s_iload (pc' := 16) at_14 rfl rfl ?_
  refine s_iconst (x := (2 : Int32)) (pc' := 17) at_16 rfl rfl ?_
  refine s_iand (pc' := 18) at_17 rfl ?_
  refine s_if (pc' := 21) (pc'' := 25) at_18 rfl (by decide) rfl (fun hc18 => ?_) (fun hc18 => ?_)
  · replace hc18 := b_eq hc18
    refine s_iconst (x := (0 : Int32)) (pc' := 26) at_25 rfl rfl ?_
    exact K1 _
  · replace hc18 := b_eqF hc18
    refine s_iconst (x := (1 : Int32)) (pc' := 22) at_21 rfl rfl ?_
    refine s_goto (pc' := 26) at_22 (by decide) rfl ?_
    exact K1 _
set_option maxRecDepth 65536 in
set_option maxHeartbeats 4000000 in
theorem sg54 {C : OCtx} {n0 : Nat} {ws : List Addr} {Q : Option Value → Heap → Prop} {h : Heap} {a b c d e z y : Int32} {s7 s8 s9 s10 s11 s12 s13 s14 s15 s16 : Slot} {Z : State} {aa : Array Value} (G : OG Z aa) (K1 : ∀ h' u, Ext h h' → h.size ≤ u → SV Z h' h'.size u (if z = 0 then dr c else dr a) → oRun C Z n0 i0 EL1 ws Q h' 18 42 (mkF C.m 84 #[.val (.int a), .val (.int b), .val (.int c), .val (.int d), .val (.int e), .val (.int z), .val (.int y), s7, s8, s9, s10, s11, s12, s13, s14, s15, s16] [.ref u])) : oRun C Z n0 i0 EL1 ws Q h 12 28 (mkF C.m 54 #[.val (.int a), .val (.int b), .val (.int c), .val (.int d), .val (.int e), .val (.int z), .val (.int y), s7, s8, s9, s10, s11, s12, s13, s14, s15, s16] []) := by
  have hw := G.1
  refine s_iload (pc' := 56) at_54 rfl rfl ?_
  refine s_if (pc' := 59) (pc'' := 73) at_56 rfl (by decide) rfl (fun hc56 => ?_) (fun hc56 => ?_)
  · replace hc56 := b_eq hc56
    refine s_new (hw _ (List.mem_of_getElem? (i := 0) rfl)) (hw _ (List.mem_of_getElem? (i := 1) rfl)) (hw _ (List.mem_of_getElem? (i := 2) rfl)) (pc' := 76) at_73 rfl (Nat.le_of_ble_eq_true rfl) (Nat.le_of_ble_eq_true rfl) (fun h73 b73 g73 nb73 E73 A73 D73 => ?_)
    refine s_dup (pc' := 77) at_76 rfl rfl ?_
    refine s_iloadN (pc' := 78) at_77 rfl rfl ?_
    refine s_callS1 (rmch C.l G n0 c _) (by simp) (hw _ (List.mem_of_getElem? (i := 3) rfl)) (hw _ (List.mem_of_getElem? (i := 4) rfl)) (hw _ (List.mem_of_getElem? (i := 5) rfl)) (hw _ (List.mem_of_getElem? (i := 6) rfl)) (by decide) (o_len pdch rfl) rfl (pc' := 81) at_78 rfl (Nat.le_of_ble_eq_true rfl) (Nat.le_of_ble_eq_true rfl) (Nat.le_of_ble_eq_true rfl) (Nat.le_of_ble_eq_true rfl) (fun v78 h78 hQ78 => ?_)
    obtain ⟨d78, k78, rfl, gd78, Y78, D78c⟩ := hQ78
    dsimp only [oPush]
    refine s_callI1 (rmsC C.l G n0 b73 d78 k78 (dr c) _ _ (dr_cap _) (dr_ch _) D78c (A73.ext Y78) ((D73 (Or.inr (hw _ (List.mem_of_getElem? (i := 23) rfl))) (ty := .array .byte) (by decide)).ext Y78) ((D73 (Or.inr (hw _ (List.mem_of_getElem? (i := 24) rfl))) (ty := .byte) (by decide)).ext Y78) nb73) (by simp) rfl rfl (hw _ (List.mem_of_getElem? (i := 11) rfl)) (hw _ (List.mem_of_getElem? (i := 12) rfl)) (hw _ (List.mem_of_getElem? (i := 2) rfl)) (hw _ (List.mem_of_getElem? (i := 13) rfl)) (by decide) (o_len pdsC rfl) rfl (pc' := 84) at_81 rfl (Nat.le_of_ble_eq_true rfl) (Nat.le_of_ble_eq_true rfl) (Nat.le_of_ble_eq_true rfl) (Nat.le_of_ble_eq_true rfl) (fun v81 h81 hQ81 => ?_)
    obtain ⟨rfl, K81, V81⟩ := hQ81
    dsimp only [oPush]
    have X81 := o_extKeep (o_ext E73 Y78) K81 (allS (Nat.le_of_eq g73.symm) all0)
    refine s_weak (ws' := ws) (by intro x hx; simp [hx]) ?_
    first
    | exact K1 _ _ X81 (Nat.le_of_eq g73.symm) (by rw [if_pos hc56]; exact V81)
    | exact K1 _ _ X67 (Nat.le_of_eq g59.symm) (by rw [if_neg hc56]; exact V67)
  · replace hc56 := b_eqF hc56
    refine s_new (hw _ (List.mem_of_getElem? (i := 0) rfl)) (hw _ (List.mem_of_getElem? (i := 1) rfl)) (hw _ (List.mem_of_getElem? (i := 2) rfl)) (pc' := 62) at_59 rfl (Nat.le_of_ble_eq_true rfl) (Nat.le_of_ble_eq_true rfl) (fun h59 b59 g59 nb59 E59 A59 D59 => ?_)
    refine s_dup (pc' := 63) at_62 rfl rfl ?_
    refine s_iloadN (pc' := 64) at_63 rfl rfl ?_
    refine s_callS1 (rmch C.l G n0 a _) (by simp) (hw _ (List.mem_of_getElem? (i := 3) rfl)) (hw _ (List.mem_of_getElem? (i := 4) rfl)) (hw _ (List.mem_of_getElem? (i := 5) rfl)) (hw _ (List.mem_of_getElem? (i := 6) rfl)) (by decide) (o_len pdch rfl) rfl (pc' := 67) at_64 rfl (Nat.le_of_ble_eq_true rfl) (Nat.le_of_ble_eq_true rfl) (Nat.le_of_ble_eq_true rfl) (Nat.le_of_ble_eq_true rfl) (fun v64 h64 hQ64 => ?_)
    obtain ⟨d64, k64, rfl, gd64, Y64, D64c⟩ := hQ64
    dsimp only [oPush]
    refine s_callI1 (rmsC C.l G n0 b59 d64 k64 (dr a) _ _ (dr_cap _) (dr_ch _) D64c (A59.ext Y64) ((D59 (Or.inr (hw _ (List.mem_of_getElem? (i := 23) rfl))) (ty := .array .byte) (by decide)).ext Y64) ((D59 (Or.inr (hw _ (List.mem_of_getElem? (i := 24) rfl))) (ty := .byte) (by decide)).ext Y64) nb59) (by simp) rfl rfl (hw _ (List.mem_of_getElem? (i := 11) rfl)) (hw _ (List.mem_of_getElem? (i := 12) rfl)) (hw _ (List.mem_of_getElem? (i := 2) rfl)) (hw _ (List.mem_of_getElem? (i := 13) rfl)) (by decide) (o_len pdsC rfl) rfl (pc' := 70) at_67 rfl (Nat.le_of_ble_eq_true rfl) (Nat.le_of_ble_eq_true rfl) (Nat.le_of_ble_eq_true rfl) (Nat.le_of_ble_eq_true rfl) (fun v67 h67 hQ67 => ?_)
    obtain ⟨rfl, K67, V67⟩ := hQ67
    dsimp only [oPush]
    have X67 := o_extKeep (o_ext E59 Y64) K67 (allS (Nat.le_of_eq g59.symm) all0)
    refine s_goto (pc' := 84) at_70 (by decide) rfl ?_
    refine s_weak (ws' := ws) (by intro x hx; simp [hx]) ?_
    first
    | exact K1 _ _ X81 (Nat.le_of_eq g73.symm) (by rw [if_pos hc56]; exact V81)
    | exact K1 _ _ X67 (Nat.le_of_eq g59.symm) (by rw [if_neg hc56]; exact V67)
set_option maxRecDepth 65536 in
set_option maxHeartbeats 4000000 in
theorem sg86 {C : OCtx} {n0 : Nat} {ws : List Addr} {Q : Option Value → Heap → Prop} {h : Heap} {a b c d e z y : Int32} {s7 s8 s9 s10 s11 s12 s13 s14 s15 s16 : Slot} {Z : State} {aa : Array Value} (G : OG Z aa) (K1 : ∀ h' u, Ext h h' → h.size ≤ u → SV Z h' h'.size u (if y = 0 then dr d else dr b) → oRun C Z n0 i0 EL1 ws Q h' 24 56 (mkF C.m 116 #[.val (.int a), .val (.int b), .val (.int c), .val (.int d), .val (.int e), .val (.int z), .val (.int y), s7, s8, s9, s10, s11, s12, s13, s14, s15, s16] [.ref u])) : oRun C Z n0 i0 EL1 ws Q h 18 42 (mkF C.m 86 #[.val (.int a), .val (.int b), .val (.int c), .val (.int d), .val (.int e), .val (.int z), .val (.int y), s7, s8, s9, s10, s11, s12, s13, s14, s15, s16] []) := by
  have hw := G.1
  refine s_iload (pc' := 88) at_86 rfl rfl ?_
  refine s_if (pc' := 91) (pc'' := 105) at_88 rfl (by decide) rfl (fun hc88 => ?_) (fun hc88 => ?_)
  · replace hc88 := b_eq hc88
    refine s_new (hw _ (List.mem_of_getElem? (i := 0) rfl)) (hw _ (List.mem_of_getElem? (i := 1) rfl)) (hw _ (List.mem_of_getElem? (i := 2) rfl)) (pc' := 108) at_105 rfl (Nat.le_of_ble_eq_true rfl) (Nat.le_of_ble_eq_true rfl) (fun h105 b105 g105 nb105 E105 A105 D105 => ?_)
    refine s_dup (pc' := 109) at_108 rfl rfl ?_
    refine s_iloadN (pc' := 110) at_109 rfl rfl ?_
    refine s_callS1 (rmch C.l G n0 d _) (by simp) (hw _ (List.mem_of_getElem? (i := 3) rfl)) (hw _ (List.mem_of_getElem? (i := 4) rfl)) (hw _ (List.mem_of_getElem? (i := 5) rfl)) (hw _ (List.mem_of_getElem? (i := 6) rfl)) (by decide) (o_len pdch rfl) rfl (pc' := 113) at_110 rfl (Nat.le_of_ble_eq_true rfl) (Nat.le_of_ble_eq_true rfl) (Nat.le_of_ble_eq_true rfl) (Nat.le_of_ble_eq_true rfl) (fun v110 h110 hQ110 => ?_)
    obtain ⟨d110, k110, rfl, gd110, Y110, D110c⟩ := hQ110
    dsimp only [oPush]
    refine s_callI1 (rmsC C.l G n0 b105 d110 k110 (dr d) _ _ (dr_cap _) (dr_ch _) D110c (A105.ext Y110) ((D105 (Or.inr (hw _ (List.mem_of_getElem? (i := 23) rfl))) (ty := .array .byte) (by decide)).ext Y110) ((D105 (Or.inr (hw _ (List.mem_of_getElem? (i := 24) rfl))) (ty := .byte) (by decide)).ext Y110) nb105) (by simp) rfl rfl (hw _ (List.mem_of_getElem? (i := 11) rfl)) (hw _ (List.mem_of_getElem? (i := 12) rfl)) (hw _ (List.mem_of_getElem? (i := 2) rfl)) (hw _ (List.mem_of_getElem? (i := 13) rfl)) (by decide) (o_len pdsC rfl) rfl (pc' := 116) at_113 rfl (Nat.le_of_ble_eq_true rfl) (Nat.le_of_ble_eq_true rfl) (Nat.le_of_ble_eq_true rfl) (Nat.le_of_ble_eq_true rfl) (fun v113 h113 hQ113 => ?_)
    obtain ⟨rfl, K113, V113⟩ := hQ113
    dsimp only [oPush]
    have X113 := o_extKeep (o_ext E105 Y110) K113 (allS (Nat.le_of_eq g105.symm) all0)
    refine s_weak (ws' := ws) (by intro x hx; simp [hx]) ?_
    first
    | exact K1 _ _ X113 (Nat.le_of_eq g105.symm) (by rw [if_pos hc88]; exact V113)
    | exact K1 _ _ X99 (Nat.le_of_eq g91.symm) (by rw [if_neg hc88]; exact V99)
  · replace hc88 := b_eqF hc88
    refine s_new (hw _ (List.mem_of_getElem? (i := 0) rfl)) (hw _ (List.mem_of_getElem? (i := 1) rfl)) (hw _ (List.mem_of_getElem? (i := 2) rfl)) (pc' := 94) at_91 rfl (Nat.le_of_ble_eq_true rfl) (Nat.le_of_ble_eq_true rfl) (fun h91 b91 g91 nb91 E91 A91 D91 => ?_)
    refine s_dup (pc' := 95) at_94 rfl rfl ?_
    refine s_iloadN (pc' := 96) at_95 rfl rfl ?_
    refine s_callS1 (rmch C.l G n0 b _) (by simp) (hw _ (List.mem_of_getElem? (i := 3) rfl)) (hw _ (List.mem_of_getElem? (i := 4) rfl)) (hw _ (List.mem_of_getElem? (i := 5) rfl)) (hw _ (List.mem_of_getElem? (i := 6) rfl)) (by decide) (o_len pdch rfl) rfl (pc' := 99) at_96 rfl (Nat.le_of_ble_eq_true rfl) (Nat.le_of_ble_eq_true rfl) (Nat.le_of_ble_eq_true rfl) (Nat.le_of_ble_eq_true rfl) (fun v96 h96 hQ96 => ?_)
    obtain ⟨d96, k96, rfl, gd96, Y96, D96c⟩ := hQ96
    dsimp only [oPush]
    refine s_callI1 (rmsC C.l G n0 b91 d96 k96 (dr b) _ _ (dr_cap _) (dr_ch _) D96c (A91.ext Y96) ((D91 (Or.inr (hw _ (List.mem_of_getElem? (i := 23) rfl))) (ty := .array .byte) (by decide)).ext Y96) ((D91 (Or.inr (hw _ (List.mem_of_getElem? (i := 24) rfl))) (ty := .byte) (by decide)).ext Y96) nb91) (by simp) rfl rfl (hw _ (List.mem_of_getElem? (i := 11) rfl)) (hw _ (List.mem_of_getElem? (i := 12) rfl)) (hw _ (List.mem_of_getElem? (i := 2) rfl)) (hw _ (List.mem_of_getElem? (i := 13) rfl)) (by decide) (o_len pdsC rfl) rfl (pc' := 102) at_99 rfl (Nat.le_of_ble_eq_true rfl) (Nat.le_of_ble_eq_true rfl) (Nat.le_of_ble_eq_true rfl) (Nat.le_of_ble_eq_true rfl) (fun v99 h99 hQ99 => ?_)
    obtain ⟨rfl, K99, V99⟩ := hQ99
    dsimp only [oPush]
    have X99 := o_extKeep (o_ext E91 Y96) K99 (allS (Nat.le_of_eq g91.symm) all0)
    refine s_goto (pc' := 116) at_102 (by decide) rfl ?_
    refine s_weak (ws' := ws) (by intro x hx; simp [hx]) ?_
    first
    | exact K1 _ _ X113 (Nat.le_of_eq g105.symm) (by rw [if_pos hc88]; exact V113)
    | exact K1 _ _ X99 (Nat.le_of_eq g91.symm) (by rw [if_neg hc88]; exact V99)
set_option maxRecDepth 65536 in
set_option maxHeartbeats 4000000 in
theorem sg160 {C : OCtx} {n0 : Nat} {ws : List Addr} {Q : Option Value → Heap → Prop} {h : Heap} {a b c d e z y : Int32} {s7 s8 s9 s10 s11 s12 s13 s14 s15 s16 : Slot} {Z : State} {aa : Array Value} (G : OG Z aa) (K1 : ∀ v : Int32, ((v = 1 ∧ (¬ z = 0 ∨ dr a = dr c)) ∨ (v = 0 ∧ ¬ (¬ z = 0 ∨ dr a = dr c))) → oRun C Z n0 i0 EL1 ws Q h 26 60 (mkF C.m 178 #[.val (.int a), .val (.int b), .val (.int c), .val (.int d), .val (.int e), .val (.int z), .val (.int y), s7, s8, s9, s10, s11, s12, s13, s14, s15, s16] [.int v])) : oRun C Z n0 i0 EL1 ws Q h 26 60 (mkF C.m 160 #[.val (.int a), .val (.int b), .val (.int c), .val (.int d), .val (.int e), .val (.int z), .val (.int y), s7, s8, s9, s10, s11, s12, s13, s14, s15, s16] []) := by
  have hw := G.1
  refine s_iload (pc' := 162) at_160 rfl rfl ?_
  refine s_if (pc' := 165) (pc'' := 173) at_162 rfl (by decide) rfl (fun hc162 => ?_) (fun hc162 => ?_)
  · replace hc162 := b_ne hc162
    refine s_iconst (x := (1 : Int32)) (pc' := 174) at_173 rfl rfl ?_
    refine s_goto (pc' := 178) at_174 (by decide) rfl ?_
    first
    | exact K1 1 (Or.inl ⟨rfl, Or.inl hc162⟩)
    | exact K1 1 (Or.inl ⟨rfl, Or.inr (hr.elim (·.2) fun q => absurd q.1 hc170)⟩)
    | exact K1 0 (Or.inr ⟨rfl, fun q => q.elim (fun q => q hc162) fun q => hr.elim (fun m => absurd (m.1.symm.trans hc170) (by decide)) fun m => m.2 q⟩)
  · replace hc162 := b_neF hc162
    refine s_iloadN (pc' := 166) at_165 rfl rfl ?_
    refine s_iloadN (pc' := 167) at_166 rfl rfl ?_
    refine s_callS2 (rmsd C.l G n0 a c _) (by simp) (hw _ (List.mem_of_getElem? (i := 40) rfl)) (hw _ (List.mem_of_getElem? (i := 41) rfl)) (hw _ (List.mem_of_getElem? (i := 5) rfl)) (hw _ (List.mem_of_getElem? (i := 42) rfl)) (by decide) (o_len pdsd rfl) rfl (pc' := 170) at_167 rfl (Nat.le_of_ble_eq_true rfl) (Nat.le_of_ble_eq_true rfl) (Nat.le_of_ble_eq_true rfl) (Nat.le_of_ble_eq_true rfl) (fun v167 h167 hQ167 => ?_)
    obtain ⟨r, rfl, rfl, hr⟩ := hQ167
    dsimp only [oPush]
    refine s_if (pc' := 173) (pc'' := 177) at_170 rfl (by decide) rfl (fun hc170 => ?_) (fun hc170 => ?_)
    · replace hc170 := b_eq hc170
      refine s_iconst (x := (0 : Int32)) (pc' := 178) at_177 rfl rfl ?_
      first
      | exact K1 1 (Or.inl ⟨rfl, Or.inl hc162⟩)
      | exact K1 1 (Or.inl ⟨rfl, Or.inr (hr.elim (·.2) fun q => absurd q.1 hc170)⟩)
      | exact K1 0 (Or.inr ⟨rfl, fun q => q.elim (fun q => q hc162) fun q => hr.elim (fun m => absurd (m.1.symm.trans hc170) (by decide)) fun m => m.2 q⟩)
    · replace hc170 := b_eqF hc170
      refine s_iconst (x := (1 : Int32)) (pc' := 174) at_173 rfl rfl ?_
      refine s_goto (pc' := 178) at_174 (by decide) rfl ?_
      first
      | exact K1 1 (Or.inl ⟨rfl, Or.inl hc162⟩)
      | exact K1 1 (Or.inl ⟨rfl, Or.inr (hr.elim (·.2) fun q => absurd q.1 hc170)⟩)
      | exact K1 0 (Or.inr ⟨rfl, fun q => q.elim (fun q => q hc162) fun q => hr.elim (fun m => absurd (m.1.symm.trans hc170) (by decide)) fun m => m.2 q⟩)
set_option maxRecDepth 65536 in
set_option maxHeartbeats 4000000 in
theorem sg180 {C : OCtx} {n0 : Nat} {ws : List Addr} {Q : Option Value → Heap → Prop} {h : Heap} {a b c d e z y : Int32} {s7 s8 s9 s10 s11 s12 s13 s14 s15 s16 : Slot} {Z : State} {aa : Array Value} (G : OG Z aa) (K1 : ∀ v : Int32, ((v = 1 ∧ (¬ y = 0 ∨ dr b = dr d)) ∨ (v = 0 ∧ ¬ (¬ y = 0 ∨ dr b = dr d))) → oRun C Z n0 i0 EL1 ws Q h 26 60 (mkF C.m 198 #[.val (.int a), .val (.int b), .val (.int c), .val (.int d), .val (.int e), .val (.int z), .val (.int y), s7, s8, s9, s10, s11, s12, s13, s14, s15, s16] [.int v])) : oRun C Z n0 i0 EL1 ws Q h 26 60 (mkF C.m 180 #[.val (.int a), .val (.int b), .val (.int c), .val (.int d), .val (.int e), .val (.int z), .val (.int y), s7, s8, s9, s10, s11, s12, s13, s14, s15, s16] []) := by
  have hw := G.1
  refine s_iload (pc' := 182) at_180 rfl rfl ?_
  refine s_if (pc' := 185) (pc'' := 193) at_182 rfl (by decide) rfl (fun hc182 => ?_) (fun hc182 => ?_)
  · replace hc182 := b_ne hc182
    refine s_iconst (x := (1 : Int32)) (pc' := 194) at_193 rfl rfl ?_
    refine s_goto (pc' := 198) at_194 (by decide) rfl ?_
    first
    | exact K1 1 (Or.inl ⟨rfl, Or.inl hc182⟩)
    | exact K1 1 (Or.inl ⟨rfl, Or.inr (hr.elim (·.2) fun q => absurd q.1 hc190)⟩)
    | exact K1 0 (Or.inr ⟨rfl, fun q => q.elim (fun q => q hc182) fun q => hr.elim (fun m => absurd (m.1.symm.trans hc190) (by decide)) fun m => m.2 q⟩)
  · replace hc182 := b_neF hc182
    refine s_iloadN (pc' := 186) at_185 rfl rfl ?_
    refine s_iloadN (pc' := 187) at_186 rfl rfl ?_
    refine s_callS2 (rmsd C.l G n0 b d _) (by simp) (hw _ (List.mem_of_getElem? (i := 40) rfl)) (hw _ (List.mem_of_getElem? (i := 41) rfl)) (hw _ (List.mem_of_getElem? (i := 5) rfl)) (hw _ (List.mem_of_getElem? (i := 42) rfl)) (by decide) (o_len pdsd rfl) rfl (pc' := 190) at_187 rfl (Nat.le_of_ble_eq_true rfl) (Nat.le_of_ble_eq_true rfl) (Nat.le_of_ble_eq_true rfl) (Nat.le_of_ble_eq_true rfl) (fun v187 h187 hQ187 => ?_)
    obtain ⟨r, rfl, rfl, hr⟩ := hQ187
    dsimp only [oPush]
    refine s_if (pc' := 193) (pc'' := 197) at_190 rfl (by decide) rfl (fun hc190 => ?_) (fun hc190 => ?_)
    · replace hc190 := b_eq hc190
      refine s_iconst (x := (0 : Int32)) (pc' := 198) at_197 rfl rfl ?_
      first
      | exact K1 1 (Or.inl ⟨rfl, Or.inl hc182⟩)
      | exact K1 1 (Or.inl ⟨rfl, Or.inr (hr.elim (·.2) fun q => absurd q.1 hc190)⟩)
      | exact K1 0 (Or.inr ⟨rfl, fun q => q.elim (fun q => q hc182) fun q => hr.elim (fun m => absurd (m.1.symm.trans hc190) (by decide)) fun m => m.2 q⟩)
    · replace hc190 := b_eqF hc190
      refine s_iconst (x := (1 : Int32)) (pc' := 194) at_193 rfl rfl ?_
      refine s_goto (pc' := 198) at_194 (by decide) rfl ?_
      first
      | exact K1 1 (Or.inl ⟨rfl, Or.inl hc182⟩)
      | exact K1 1 (Or.inl ⟨rfl, Or.inr (hr.elim (·.2) fun q => absurd q.1 hc190)⟩)
      | exact K1 0 (Or.inr ⟨rfl, fun q => q.elim (fun q => q hc182) fun q => hr.elim (fun m => absurd (m.1.symm.trans hc190) (by decide)) fun m => m.2 q⟩)
set_option maxRecDepth 65536 in
set_option maxHeartbeats 4000000 in
theorem sg200 {Z : State} {C : OCtx} {n0 : Nat} {ws : List Addr} {Q : Option Value → Heap → Prop} {h : Heap} {a b c d e z y w w2 : Int32} {s7 s8 s9 s10 s11 s12 s13 s14 : Slot} (K1 : ∀ v : Int32, ((v = 1 ∧ ¬ w = 0 ∧ ¬ w2 = 0) ∨ (v = 0 ∧ ¬ (¬ w = 0 ∧ ¬ w2 = 0))) → oRun C Z n0 i0 EL1 ws Q h 26 60 (mkF C.m 215 #[.val (.int a), .val (.int b), .val (.int c), .val (.int d), .val (.int e), .val (.int z), .val (.int y), s7, s8, s9, s10, s11, s12, s13, s14, .val (.int w), .val (.int w2)] [.int v])) : oRun C Z n0 i0 EL1 ws Q h 26 60 (mkF C.m 200 #[.val (.int a), .val (.int b), .val (.int c), .val (.int d), .val (.int e), .val (.int z), .val (.int y), s7, s8, s9, s10, s11, s12, s13, s14, .val (.int w), .val (.int w2)] []) := by
  refine s_iload (pc' := 202) at_200 rfl rfl ?_
  refine s_if (pc' := 205) (pc'' := 214) at_202 rfl (by decide) rfl (fun hc202 => ?_) (fun hc202 => ?_)
  · replace hc202 := b_eq hc202
    refine s_iconst (x := (0 : Int32)) (pc' := 215) at_214 rfl rfl ?_
    first
    | exact K1 1 (Or.inl ⟨rfl, hc202, hc207⟩)
    | exact K1 0 (Or.inr ⟨rfl, fun q => q.1 hc202⟩)
    | exact K1 0 (Or.inr ⟨rfl, fun q => q.2 hc207⟩)
  · replace hc202 := b_eqF hc202
    refine s_iload (pc' := 207) at_205 rfl rfl ?_
    refine s_if (pc' := 210) (pc'' := 214) at_207 rfl (by decide) rfl (fun hc207 => ?_) (fun hc207 => ?_)
    · replace hc207 := b_eq hc207
      refine s_iconst (x := (0 : Int32)) (pc' := 215) at_214 rfl rfl ?_
      first
      | exact K1 1 (Or.inl ⟨rfl, hc202, hc207⟩)
      | exact K1 0 (Or.inr ⟨rfl, fun q => q.1 hc202⟩)
      | exact K1 0 (Or.inr ⟨rfl, fun q => q.2 hc207⟩)
    · replace hc207 := b_eqF hc207
      refine s_iconst (x := (1 : Int32)) (pc' := 211) at_210 rfl rfl ?_
      refine s_goto (pc' := 215) at_211 (by decide) rfl ?_
      first
      | exact K1 1 (Or.inl ⟨rfl, hc202, hc207⟩)
      | exact K1 0 (Or.inr ⟨rfl, fun q => q.1 hc202⟩)
      | exact K1 0 (Or.inr ⟨rfl, fun q => q.2 hc207⟩)
theorem law0 {a b c d z y r w w2 v : Int32} (hr : (r = 1 ∧ (if z = 0 then dr c else dr a) = dr a ∧ (if y = 0 then dr d else dr b) = dr b) ∨ (r = 0 ∧ ¬ ((if z = 0 then dr c else dr a) = dr a ∧ (if y = 0 then dr d else dr b) = dr b)))
    (h1 : (w = 1 ∧ (¬ z = 0 ∨ dr a = dr c)) ∨ (w = 0 ∧ ¬ (¬ z = 0 ∨ dr a = dr c))) (h2 : (w2 = 1 ∧ (¬ y = 0 ∨ dr b = dr d)) ∨ (w2 = 0 ∧ ¬ (¬ y = 0 ∨ dr b = dr d))) (h3 : (v = 1 ∧ ¬ w = 0 ∧ ¬ w2 = 0) ∨ (v = 0 ∧ ¬ (¬ w = 0 ∧ ¬ w2 = 0))) : r = v := by
  have p1 : (if z = 0 then dr c else dr a) = dr a ↔ (¬ z = 0 ∨ dr a = dr c) := by
    by_cases q : z = 0
    · rw [if_pos q]; exact ⟨fun m => Or.inr m.symm, fun m => m.elim (fun n => absurd q n) Eq.symm⟩
    · rw [if_neg q]; exact ⟨fun _ => Or.inl q, fun _ => rfl⟩
  have p2 : (if y = 0 then dr d else dr b) = dr b ↔ (¬ y = 0 ∨ dr b = dr d) := by
    by_cases q : y = 0
    · rw [if_pos q]; exact ⟨fun m => Or.inr m.symm, fun m => m.elim (fun n => absurd q n) Eq.symm⟩
    · rw [if_neg q]; exact ⟨fun _ => Or.inl q, fun _ => rfl⟩
  rw [p1, p2] at hr
  have q1 : ¬ w = 0 ↔ (¬ z = 0 ∨ dr a = dr c) := by rcases h1 with ⟨rfl, h1⟩ | ⟨rfl, h1⟩ <;> simp [h1]
  have q2 : ¬ w2 = 0 ↔ (¬ y = 0 ∨ dr b = dr d) := by rcases h2 with ⟨rfl, h2⟩ | ⟨rfl, h2⟩ <;> simp [h2]
  rw [q1, q2] at h3
  exact law_eq Iff.rfl hr h3
set_option maxRecDepth 65536 in
set_option maxHeartbeats 4000000 in
theorem rm0 (l : Launch) {Z : State} {a0 : Array Value} (G : OG Z a0) (n0 : Nat) (a b c d e : Int32) (h0 : Heap) : oCon l Z n0 EL1 [] x i0 #[.int a, .int b, .int c, .int d, .int e] h0 (fun v h => v = some (.int 1)) := by
  obtain ⟨hw, hEL, ⟨cmp, hC, hc0⟩, -⟩ := id G
  refine oCon.mk hEL (plainFor_of_name pn0) rfl rfl (ef0 a b c d e) fun C hCl => ?_
  refine sg0 fun z => ?_
  refine s_istore (pc' := 14) at_12 rfl (o_st rfl (by first | exact One.u | exact One.val rfl | assumption) rfl) ?_
  dsimp only [List.set_cons_succ, List.set_cons_zero]
  refine sg14 fun y => ?_
  refine s_istore (pc' := 28) at_26 rfl (o_st rfl (by first | exact One.u | exact One.val rfl | assumption) rfl) ?_
  dsimp only [List.set_cons_succ, List.set_cons_zero]
  refine s_new (hw _ (List.mem_of_getElem? (i := 0) rfl)) (hw _ (List.mem_of_getElem? (i := 1) rfl)) (hw _ (List.mem_of_getElem? (i := 2) rfl)) (pc' := 31) at_28 rfl (Nat.le_of_ble_eq_true rfl) (Nat.le_of_ble_eq_true rfl) (fun h28 b28 g28 nb28 E28 A28 D28 => ?_)
  refine s_dup (pc' := 32) at_31 rfl rfl ?_
  refine s_iloadN (pc' := 33) at_32 rfl rfl ?_
  refine s_callS1 (rmch C.l G n0 a _) (by simp) (hw _ (List.mem_of_getElem? (i := 3) rfl)) (hw _ (List.mem_of_getElem? (i := 4) rfl)) (hw _ (List.mem_of_getElem? (i := 5) rfl)) (hw _ (List.mem_of_getElem? (i := 6) rfl)) (by decide) (o_len pdch rfl) rfl (pc' := 36) at_33 rfl (Nat.le_of_ble_eq_true rfl) (Nat.le_of_ble_eq_true rfl) (Nat.le_of_ble_eq_true rfl) (Nat.le_of_ble_eq_true rfl) (fun v33 h33 hQ33 => ?_)
  obtain ⟨d33, k33, rfl, gd33, Y33, D33c⟩ := hQ33
  dsimp only [oPush]
  refine s_callI1 (rmsC C.l G n0 b28 d33 k33 (dr a) _ _ (dr_cap _) (dr_ch _) D33c (A28.ext Y33) ((D28 (Or.inr (hw _ (List.mem_of_getElem? (i := 23) rfl))) (ty := .array .byte) (by decide)).ext Y33) ((D28 (Or.inr (hw _ (List.mem_of_getElem? (i := 24) rfl))) (ty := .byte) (by decide)).ext Y33) nb28) (by simp) rfl rfl (hw _ (List.mem_of_getElem? (i := 11) rfl)) (hw _ (List.mem_of_getElem? (i := 12) rfl)) (hw _ (List.mem_of_getElem? (i := 2) rfl)) (hw _ (List.mem_of_getElem? (i := 13) rfl)) (by decide) (o_len pdsC rfl) rfl (pc' := 39) at_36 rfl (Nat.le_of_ble_eq_true rfl) (Nat.le_of_ble_eq_true rfl) (Nat.le_of_ble_eq_true rfl) (Nat.le_of_ble_eq_true rfl) (fun v36 h36 hQ36 => ?_)
  obtain ⟨rfl, K36, V36⟩ := hQ36
  dsimp only [oPush]
  have X36 := o_extKeep (o_ext E28 Y33) K36 (allS (Nat.le_of_eq g28.symm) all0)
  refine s_astore (pc' := 41) at_39 rfl rfl (o_st rfl (by first | exact One.u | exact One.val rfl | assumption) rfl) ?_
  dsimp only [List.set_cons_succ, List.set_cons_zero]
  have T1 := V36
  have n1 := V36.lt
  refine s_new (hw _ (List.mem_of_getElem? (i := 0) rfl)) (hw _ (List.mem_of_getElem? (i := 1) rfl)) (hw _ (List.mem_of_getElem? (i := 2) rfl)) (pc' := 44) at_41 rfl (Nat.le_of_ble_eq_true rfl) (Nat.le_of_ble_eq_true rfl) (fun h41 b41 g41 nb41 E41 A41 D41 => ?_)
  refine s_dup (pc' := 45) at_44 rfl rfl ?_
  refine s_iloadN (pc' := 46) at_45 rfl rfl ?_
  refine s_callS1 (rmch C.l G n0 b _) (by simp) (hw _ (List.mem_of_getElem? (i := 3) rfl)) (hw _ (List.mem_of_getElem? (i := 4) rfl)) (hw _ (List.mem_of_getElem? (i := 5) rfl)) (hw _ (List.mem_of_getElem? (i := 6) rfl)) (by decide) (o_len pdch rfl) rfl (pc' := 49) at_46 rfl (Nat.le_of_ble_eq_true rfl) (Nat.le_of_ble_eq_true rfl) (Nat.le_of_ble_eq_true rfl) (Nat.le_of_ble_eq_true rfl) (fun v46 h46 hQ46 => ?_)
  obtain ⟨d46, k46, rfl, gd46, Y46, D46c⟩ := hQ46
  dsimp only [oPush]
  refine s_callI1 (rmsC C.l G n0 b41 d46 k46 (dr b) _ _ (dr_cap _) (dr_ch _) D46c (A41.ext Y46) ((D41 (Or.inr (hw _ (List.mem_of_getElem? (i := 23) rfl))) (ty := .array .byte) (by decide)).ext Y46) ((D41 (Or.inr (hw _ (List.mem_of_getElem? (i := 24) rfl))) (ty := .byte) (by decide)).ext Y46) nb41) (by simp) rfl rfl (hw _ (List.mem_of_getElem? (i := 11) rfl)) (hw _ (List.mem_of_getElem? (i := 12) rfl)) (hw _ (List.mem_of_getElem? (i := 2) rfl)) (hw _ (List.mem_of_getElem? (i := 13) rfl)) (by decide) (o_len pdsC rfl) rfl (pc' := 52) at_49 rfl (Nat.le_of_ble_eq_true rfl) (Nat.le_of_ble_eq_true rfl) (Nat.le_of_ble_eq_true rfl) (Nat.le_of_ble_eq_true rfl) (fun v49 h49 hQ49 => ?_)
  obtain ⟨rfl, K49, V49⟩ := hQ49
  dsimp only [oPush]
  have X49 := o_extKeep (o_ext E41 Y46) K49 (allS (Nat.le_of_eq g41.symm) all0)
  refine s_astore (pc' := 54) at_52 rfl rfl (o_st rfl (by first | exact One.u | exact One.val rfl | assumption) rfl) ?_
  dsimp only [List.set_cons_succ, List.set_cons_zero]
  have U1 := V49
  have n2 := V49.lt
  have X28 := X36
  replace T1 := T1.ext X49
  refine s_weak (ws' := []) (by simp) ?_
  refine sg54 G fun h5 t2 X5 gt2 T2 => ?_
  have nt : t2 ≠ b28 := (o_fresh' (Nat.lt_of_lt_of_le n1 (Nat.le_trans X49.1 (Nat.le_refl _))) gt2).symm
  replace T1 := T1.ext X5
  replace U1 := U1.ext X5
  refine s_astore (pc' := 86) at_84 rfl rfl (o_st rfl (by first | exact One.u | exact One.val rfl | assumption) rfl) ?_
  dsimp only [List.set_cons_succ, List.set_cons_zero]
  refine sg86 G fun h6 u2 X6 gu2 U2 => ?_
  have nu : u2 ≠ b41 := (o_fresh' (Nat.lt_of_lt_of_le n2 X5.1) gu2).symm
  replace T1 := (T1.ext X6).mono (Nat.le_trans X49.1 (Nat.le_trans X5.1 X6.1))
  replace U1 := (U1.ext X6).mono (Nat.le_trans X5.1 X6.1)
  replace T2 := (T2.ext X6).mono X6.1
  refine s_astore (pc' := 118) at_116 rfl rfl (o_st rfl (by first | exact One.u | exact One.val rfl | assumption) rfl) ?_
  dsimp only [List.set_cons_succ, List.set_cons_zero]
  refine s_new (hw _ (List.mem_of_getElem? (i := 29) rfl)) (hw _ (List.mem_of_getElem? (i := 30) rfl)) (hw _ (List.mem_of_getElem? (i := 31) rfl)) (pc' := 121) at_118 rfl (Nat.le_of_ble_eq_true rfl) (Nat.le_of_ble_eq_true rfl) (fun h118 b118 g118 nb118 E118 A118 D118 => ?_)
  refine s_dup (pc' := 122) at_121 rfl rfl ?_
  refine s_aload (pc' := 124) at_122 rfl rfl rfl ?_
  refine s_aload (pc' := 126) at_124 rfl rfl rfl ?_
  refine s_callI2 (rmei C.l G n0 b118 b28 b41 _ A118 (D118 (Or.inr (hw _ (List.mem_of_getElem? (i := 37) rfl))) (ty := .object "java/lang/String") (by decide)) (D118 (Or.inr (hw _ (List.mem_of_getElem? (i := 39) rfl))) (ty := .object "java/lang/String") (by decide)) nb118) (by simp) rfl rfl (hw _ (List.mem_of_getElem? (i := 32) rfl)) (hw _ (List.mem_of_getElem? (i := 33) rfl)) (hw _ (List.mem_of_getElem? (i := 31) rfl)) (hw _ (List.mem_of_getElem? (i := 34) rfl)) (by decide) (o_len pdei rfl) rfl (pc' := 129) at_126 rfl (Nat.le_of_ble_eq_true rfl) (Nat.le_of_ble_eq_true rfl) (Nat.le_of_ble_eq_true rfl) (Nat.le_of_ble_eq_true rfl) (fun v126 h126 hQ126 => ?_)
  obtain ⟨rfl, K126, X1, F1, G1⟩ := hQ126
  dsimp only [oPush]
  replace T1 := (T1.ext E118).keep K126 (allS (Nat.le_of_eq g118.symm) all0)
  replace U1 := (U1.ext E118).keep K126 (allS (Nat.le_of_eq g118.symm) all0)
  replace T2 := (T2.ext E118).keep K126 (allS (Nat.le_of_eq g118.symm) all0)
  replace U2 := (U2.ext E118).keep K126 (allS (Nat.le_of_eq g118.symm) all0)
  refine s_astore (pc' := 131) at_129 rfl rfl (o_st rfl (by first | exact One.u | exact One.val rfl | assumption) rfl) ?_
  dsimp only [List.set_cons_succ, List.set_cons_zero]
  refine s_iload (pc' := 133) at_131 rfl rfl ?_
  refine s_iconst (x := (2 : Int32)) (pc' := 134) at_133 rfl rfl ?_
  refine s_iushr (pc' := 135) at_134 rfl ?_
  refine s_bipush (x := (7 : Int32)) (pc' := 137) at_135 rfl rfl ?_
  refine s_iand (pc' := 138) at_137 rfl ?_
  refine s_iconst (x := (5 : Int32)) (pc' := 139) at_138 rfl rfl ?_
  refine s_irem (pc' := 140) at_139 rfl (by decide) ?_
  generalize (XT.ushr e 2 &&& 7) % 5 = kd
  refine s_istore (pc' := 142) at_140 rfl (o_st rfl (by first | exact One.u | exact One.val rfl | assumption) rfl) ?_
  dsimp only [List.set_cons_succ, List.set_cons_zero]
  refine s_iload (pc' := 144) at_142 rfl rfl ?_
  refine s_if (pc' := 147) (pc'' := 220) at_144 rfl (by decide) rfl (fun hc144 => ?_) (fun hc144 => ?_)
  · skip
    refine s_iload (pc' := 222) at_220 rfl rfl ?_
    refine s_iconst (x := (1 : Int32)) (pc' := 223) at_222 rfl rfl ?_
    refine s_icmp (pc' := 226) (pc'' := 235) at_223 rfl (by decide) rfl (fun hc223 => ?_) (fun hc223 => ?_)
    · skip
      refine s_iload (pc' := 237) at_235 rfl rfl ?_
      refine s_iconst (x := (2 : Int32)) (pc' := 238) at_237 rfl rfl ?_
      refine s_icmp (pc' := 241) (pc'' := 260) at_238 rfl (by decide) rfl (fun hc238 => ?_) (fun hc238 => ?_)
      · skip
        refine s_iload (pc' := 262) at_260 rfl rfl ?_
        refine s_iconst (x := (3 : Int32)) (pc' := 263) at_262 rfl rfl ?_
        refine s_icmp (pc' := 266) (pc'' := 292) at_263 rfl (by decide) rfl (fun hc263 => ?_) (fun hc263 => ?_)
        · skip
          refine s_aload (pc' := 294) at_292 rfl rfl rfl ?_
          refine s_astore (pc' := 296) at_294 rfl rfl (o_st rfl (by first | exact One.u | exact One.val rfl | assumption) rfl) ?_
          dsimp only [List.set_cons_succ, List.set_cons_zero]
          refine s_iconst (x := (1 : Int32)) (pc' := 297) at_296 rfl rfl ?_
          refine s_istore (pc' := 299) at_297 rfl (o_st rfl (by first | exact One.u | exact One.val rfl | assumption) rfl) ?_
          dsimp only [List.set_cons_succ, List.set_cons_zero]
          refine s_aload (pc' := 301) at_299 rfl rfl rfl ?_
          refine s_aload (pc' := 303) at_301 rfl rfl rfl ?_
          refine s_callV1 (rmeq C.l G n0 b118 b118 b28 b28 b41 b41 _ _ _ _ _ _ _ _ _ (dr_len _) (dr_len _) (dr_ch _) (dr_ch _) (fun _ => rfl) T1 T1 (dr_len _) (dr_len _) (dr_ch _) (dr_ch _) (fun _ => rfl) U1 U1 X1 F1 F1 G1 G1) (by simp) X1 (hw _ (List.mem_of_getElem? (i := 43) rfl)) (hw _ (List.mem_of_getElem? (i := 44) rfl)) (hw _ (List.mem_of_getElem? (i := 46) rfl)) (hw _ (List.mem_of_getElem? (i := 45) rfl)) (o_nf (hw _ (List.mem_of_getElem? (i := 46) rfl)) rfl) (hw _ (List.mem_of_getElem? (i := 31) rfl)) (hw _ (List.mem_of_getElem? (i := 47) rfl)) (by decide) (o_len pdeq rfl) rfl (pc' := 306) at_303 rfl (Nat.le_of_ble_eq_true rfl) (Nat.le_of_ble_eq_true rfl) (Nat.le_of_ble_eq_true rfl) (Nat.le_of_ble_eq_true rfl) (fun v303 h303 hQ303 => ?_)
          obtain ⟨r, rfl, rfl, hr⟩ := hQ303
          dsimp only [oPush]
          refine s_iload (pc' := 308) at_306 rfl rfl ?_
          refine s_icmp (pc' := 311) (pc'' := 315) at_308 rfl (by decide) rfl (fun hc308 => ?_) (fun hc308 => ?_)
          · replace hc308 := b_ne hc308
            exact absurd (hr.elim (·.1) fun q => absurd ⟨rfl, rfl⟩ q.2) hc308
          · replace hc308 := b_neF hc308
            refine s_iconst (x := (1 : Int32)) (pc' := 312) at_311 rfl rfl ?_
            refine s_goto (pc' := 316) at_312 (by decide) rfl ?_
            exact s_nret (t := .boolean) rfl (by simp) at_316 (Nat.le_of_ble_eq_true rfl) (Nat.le_of_ble_eq_true rfl) rfl
        · skip
          refine s_new (hw _ (List.mem_of_getElem? (i := 73) rfl)) (hw _ (List.mem_of_getElem? (i := 74) rfl)) (hw _ (List.mem_of_getElem? (i := 75) rfl)) (pc' := 269) at_266 rfl (Nat.le_of_ble_eq_true rfl) (Nat.le_of_ble_eq_true rfl) (fun h266 b266 g266 nb266 E266 A266 D266 => ?_)
          refine s_dup (pc' := 270) at_269 rfl rfl ?_
          refine s_new (hw _ (List.mem_of_getElem? (i := 0) rfl)) (hw _ (List.mem_of_getElem? (i := 1) rfl)) (hw _ (List.mem_of_getElem? (i := 2) rfl)) (pc' := 273) at_270 rfl (Nat.le_of_ble_eq_true rfl) (Nat.le_of_ble_eq_true rfl) (fun h270 b270 g270 nb270 E270 A270 D270 => ?_)
          refine s_dup (pc' := 274) at_273 rfl rfl ?_
          refine s_iloadN (pc' := 275) at_274 rfl rfl ?_
          refine s_callS1 (rmch C.l G n0 a _) (by simp) (hw _ (List.mem_of_getElem? (i := 3) rfl)) (hw _ (List.mem_of_getElem? (i := 4) rfl)) (hw _ (List.mem_of_getElem? (i := 5) rfl)) (hw _ (List.mem_of_getElem? (i := 6) rfl)) (by decide) (o_len pdch rfl) rfl (pc' := 278) at_275 rfl (Nat.le_of_ble_eq_true rfl) (Nat.le_of_ble_eq_true rfl) (Nat.le_of_ble_eq_true rfl) (Nat.le_of_ble_eq_true rfl) (fun v275 h275 hQ275 => ?_)
          obtain ⟨d275, k275, rfl, gd275, Y275, D275c⟩ := hQ275
          dsimp only [oPush]
          refine s_callI1 (rmsC C.l G n0 b270 d275 k275 (dr a) _ _ (dr_cap _) (dr_ch _) D275c (A270.ext Y275) ((D270 (Or.inr (hw _ (List.mem_of_getElem? (i := 23) rfl))) (ty := .array .byte) (by decide)).ext Y275) ((D270 (Or.inr (hw _ (List.mem_of_getElem? (i := 24) rfl))) (ty := .byte) (by decide)).ext Y275) nb270) (by simp) rfl rfl (hw _ (List.mem_of_getElem? (i := 11) rfl)) (hw _ (List.mem_of_getElem? (i := 12) rfl)) (hw _ (List.mem_of_getElem? (i := 2) rfl)) (hw _ (List.mem_of_getElem? (i := 13) rfl)) (by decide) (o_len pdsC rfl) rfl (pc' := 281) at_278 rfl (Nat.le_of_ble_eq_true rfl) (Nat.le_of_ble_eq_true rfl) (Nat.le_of_ble_eq_true rfl) (Nat.le_of_ble_eq_true rfl) (fun v278 h278 hQ278 => ?_)
          obtain ⟨rfl, K278, V278⟩ := hQ278
          dsimp only [oPush]
          have X278 := o_extKeep (o_ext E270 Y275) K278 (allS (Nat.le_of_eq g270.symm) all0)
          refine s_callI1 (rmli C.l G n0 b266 b270 _ (A266.ext X278) ((D266 (Or.inr (hw _ (List.mem_of_getElem? (i := 81) rfl))) (ty := .object "java/lang/String") (by decide)).ext X278) nb266) (by simp) rfl rfl (hw _ (List.mem_of_getElem? (i := 76) rfl)) (hw _ (List.mem_of_getElem? (i := 77) rfl)) (hw _ (List.mem_of_getElem? (i := 75) rfl)) (hw _ (List.mem_of_getElem? (i := 78) rfl)) (by decide) (o_len pdli rfl) rfl (pc' := 284) at_281 rfl (Nat.le_of_ble_eq_true rfl) (Nat.le_of_ble_eq_true rfl) (Nat.le_of_ble_eq_true rfl) (Nat.le_of_ble_eq_true rfl) (fun v281 h281 hQ281 => ?_)
          obtain ⟨rfl, K281, X3⟩ := hQ281
          dsimp only [oPush]
          replace X1 := ((X1.ext E266).ext X278).keep K281
          refine s_astore (pc' := 286) at_284 rfl rfl (o_st rfl (by first | exact One.u | exact One.val rfl | assumption) rfl) ?_
          dsimp only [List.set_cons_succ, List.set_cons_zero]
          refine s_iconst (x := (0 : Int32)) (pc' := 287) at_286 rfl rfl ?_
          refine s_istore (pc' := 289) at_287 rfl (o_st rfl (by first | exact One.u | exact One.val rfl | assumption) rfl) ?_
          dsimp only [List.set_cons_succ, List.set_cons_zero]
          refine s_goto (pc' := 299) at_289 (by decide) rfl ?_
          refine s_aload (pc' := 301) at_299 rfl rfl rfl ?_
          refine s_aload (pc' := 303) at_301 rfl rfl rfl ?_
          refine s_callV1 (rmeO C.l G n0 b118 b266 "com/example/slim_mapper/slimmapper/mapping/ClassFile$ClassLiteral" _ X3 (o_notOf (hw _ (List.mem_of_getElem? (i := 82) rfl)) (hw _ (List.mem_of_getElem? (i := 62) rfl)) (hw _ (List.mem_of_getElem? (i := 30) rfl)) (by decide) (by decide))) (by simp) X1 (hw _ (List.mem_of_getElem? (i := 43) rfl)) (hw _ (List.mem_of_getElem? (i := 44) rfl)) (hw _ (List.mem_of_getElem? (i := 46) rfl)) (hw _ (List.mem_of_getElem? (i := 45) rfl)) (o_nf (hw _ (List.mem_of_getElem? (i := 46) rfl)) rfl) (hw _ (List.mem_of_getElem? (i := 31) rfl)) (hw _ (List.mem_of_getElem? (i := 47) rfl)) (by decide) (o_len pdeq rfl) rfl (pc' := 306) at_303 rfl (Nat.le_of_ble_eq_true rfl) (Nat.le_of_ble_eq_true rfl) (Nat.le_of_ble_eq_true rfl) (Nat.le_of_ble_eq_true rfl) (fun v303 h303 hQ303 => ?_)
          obtain ⟨rfl, rfl⟩ := hQ303
          dsimp only [oPush]
          refine s_iload (pc' := 308) at_306 rfl rfl ?_
          refine s_icmp (pc' := 311) (pc'' := 315) at_308 rfl (by decide) rfl (fun hc308 => ?_) (fun hc308 => ?_)
          · replace hc308 := b_ne hc308
            exact absurd rfl hc308
          · replace hc308 := b_neF hc308
            refine s_iconst (x := (1 : Int32)) (pc' := 312) at_311 rfl rfl ?_
            refine s_goto (pc' := 316) at_312 (by decide) rfl ?_
            exact s_nret (t := .boolean) rfl (by simp) at_316 (Nat.le_of_ble_eq_true rfl) (Nat.le_of_ble_eq_true rfl) rfl
      · skip
        refine s_new (hw _ (List.mem_of_getElem? (i := 0) rfl)) (hw _ (List.mem_of_getElem? (i := 1) rfl)) (hw _ (List.mem_of_getElem? (i := 2) rfl)) (pc' := 244) at_241 rfl (Nat.le_of_ble_eq_true rfl) (Nat.le_of_ble_eq_true rfl) (fun h241 b241 g241 nb241 E241 A241 D241 => ?_)
        refine s_dup (pc' := 245) at_244 rfl rfl ?_
        refine s_iloadN (pc' := 246) at_245 rfl rfl ?_
        refine s_callS1 (rmch C.l G n0 b _) (by simp) (hw _ (List.mem_of_getElem? (i := 3) rfl)) (hw _ (List.mem_of_getElem? (i := 4) rfl)) (hw _ (List.mem_of_getElem? (i := 5) rfl)) (hw _ (List.mem_of_getElem? (i := 6) rfl)) (by decide) (o_len pdch rfl) rfl (pc' := 249) at_246 rfl (Nat.le_of_ble_eq_true rfl) (Nat.le_of_ble_eq_true rfl) (Nat.le_of_ble_eq_true rfl) (Nat.le_of_ble_eq_true rfl) (fun v246 h246 hQ246 => ?_)
        obtain ⟨d246, k246, rfl, gd246, Y246, D246c⟩ := hQ246
        dsimp only [oPush]
        refine s_callI1 (rmsC C.l G n0 b241 d246 k246 (dr b) _ _ (dr_cap _) (dr_ch _) D246c (A241.ext Y246) ((D241 (Or.inr (hw _ (List.mem_of_getElem? (i := 23) rfl))) (ty := .array .byte) (by decide)).ext Y246) ((D241 (Or.inr (hw _ (List.mem_of_getElem? (i := 24) rfl))) (ty := .byte) (by decide)).ext Y246) nb241) (by simp) rfl rfl (hw _ (List.mem_of_getElem? (i := 11) rfl)) (hw _ (List.mem_of_getElem? (i := 12) rfl)) (hw _ (List.mem_of_getElem? (i := 2) rfl)) (hw _ (List.mem_of_getElem? (i := 13) rfl)) (by decide) (o_len pdsC rfl) rfl (pc' := 252) at_249 rfl (Nat.le_of_ble_eq_true rfl) (Nat.le_of_ble_eq_true rfl) (Nat.le_of_ble_eq_true rfl) (Nat.le_of_ble_eq_true rfl) (fun v249 h249 hQ249 => ?_)
        obtain ⟨rfl, K249, V249⟩ := hQ249
        dsimp only [oPush]
        have X249 := o_extKeep (o_ext E241 Y246) K249 (allS (Nat.le_of_eq g241.symm) all0)
        replace X1 := X1.ext X249
        refine s_astore (pc' := 254) at_252 rfl rfl (o_st rfl (by first | exact One.u | exact One.val rfl | assumption) rfl) ?_
        dsimp only [List.set_cons_succ, List.set_cons_zero]
        refine s_iconst (x := (0 : Int32)) (pc' := 255) at_254 rfl rfl ?_
        refine s_istore (pc' := 257) at_255 rfl (o_st rfl (by first | exact One.u | exact One.val rfl | assumption) rfl) ?_
        dsimp only [List.set_cons_succ, List.set_cons_zero]
        refine s_goto (pc' := 299) at_257 (by decide) rfl ?_
        refine s_aload (pc' := 301) at_299 rfl rfl rfl ?_
        refine s_aload (pc' := 303) at_301 rfl rfl rfl ?_
        refine s_callV1 (rmeO C.l G n0 b118 b241 "java/lang/String" _ V249.exa (o_notOf (hw _ (List.mem_of_getElem? (i := 61) rfl)) (hw _ (List.mem_of_getElem? (i := 62) rfl)) (hw _ (List.mem_of_getElem? (i := 30) rfl)) (by decide) (by decide))) (by simp) X1 (hw _ (List.mem_of_getElem? (i := 43) rfl)) (hw _ (List.mem_of_getElem? (i := 44) rfl)) (hw _ (List.mem_of_getElem? (i := 46) rfl)) (hw _ (List.mem_of_getElem? (i := 45) rfl)) (o_nf (hw _ (List.mem_of_getElem? (i := 46) rfl)) rfl) (hw _ (List.mem_of_getElem? (i := 31) rfl)) (hw _ (List.mem_of_getElem? (i := 47) rfl)) (by decide) (o_len pdeq rfl) rfl (pc' := 306) at_303 rfl (Nat.le_of_ble_eq_true rfl) (Nat.le_of_ble_eq_true rfl) (Nat.le_of_ble_eq_true rfl) (Nat.le_of_ble_eq_true rfl) (fun v303 h303 hQ303 => ?_)
        obtain ⟨rfl, rfl⟩ := hQ303
        dsimp only [oPush]
        refine s_iload (pc' := 308) at_306 rfl rfl ?_
        refine s_icmp (pc' := 311) (pc'' := 315) at_308 rfl (by decide) rfl (fun hc308 => ?_) (fun hc308 => ?_)
        · replace hc308 := b_ne hc308
          exact absurd rfl hc308
        · replace hc308 := b_neF hc308
          refine s_iconst (x := (1 : Int32)) (pc' := 312) at_311 rfl rfl ?_
          refine s_goto (pc' := 316) at_312 (by decide) rfl ?_
          exact s_nret (t := .boolean) rfl (by simp) at_316 (Nat.le_of_ble_eq_true rfl) (Nat.le_of_ble_eq_true rfl) rfl
    · skip
      refine s_null (pc' := 227) at_226 rfl ?_
      refine s_astore (pc' := 229) at_227 rfl rfl (o_st rfl (by first | exact One.u | exact One.val rfl | assumption) rfl) ?_
      dsimp only [List.set_cons_succ, List.set_cons_zero]
      refine s_iconst (x := (0 : Int32)) (pc' := 230) at_229 rfl rfl ?_
      refine s_istore (pc' := 232) at_230 rfl (o_st rfl (by first | exact One.u | exact One.val rfl | assumption) rfl) ?_
      dsimp only [List.set_cons_succ, List.set_cons_zero]
      refine s_goto (pc' := 299) at_232 (by decide) rfl ?_
      refine s_aload (pc' := 301) at_299 rfl rfl rfl ?_
      refine s_aload (pc' := 303) at_301 rfl rfl rfl ?_
      refine s_callV1 (rmeN C.l G n0 b118 _) (by simp) X1 (hw _ (List.mem_of_getElem? (i := 43) rfl)) (hw _ (List.mem_of_getElem? (i := 44) rfl)) (hw _ (List.mem_of_getElem? (i := 46) rfl)) (hw _ (List.mem_of_getElem? (i := 45) rfl)) (o_nf (hw _ (List.mem_of_getElem? (i := 46) rfl)) rfl) (hw _ (List.mem_of_getElem? (i := 31) rfl)) (hw _ (List.mem_of_getElem? (i := 47) rfl)) (by decide) (o_len pdeq rfl) rfl (pc' := 306) at_303 rfl (Nat.le_of_ble_eq_true rfl) (Nat.le_of_ble_eq_true rfl) (Nat.le_of_ble_eq_true rfl) (Nat.le_of_ble_eq_true rfl) (fun v303 h303 hQ303 => ?_)
      obtain ⟨rfl, rfl⟩ := hQ303
      dsimp only [oPush]
      refine s_iload (pc' := 308) at_306 rfl rfl ?_
      refine s_icmp (pc' := 311) (pc'' := 315) at_308 rfl (by decide) rfl (fun hc308 => ?_) (fun hc308 => ?_)
      · replace hc308 := b_ne hc308
        exact absurd rfl hc308
      · replace hc308 := b_neF hc308
        refine s_iconst (x := (1 : Int32)) (pc' := 312) at_311 rfl rfl ?_
        refine s_goto (pc' := 316) at_312 (by decide) rfl ?_
        exact s_nret (t := .boolean) rfl (by simp) at_316 (Nat.le_of_ble_eq_true rfl) (Nat.le_of_ble_eq_true rfl) rfl
  · skip
    refine s_new (hw _ (List.mem_of_getElem? (i := 29) rfl)) (hw _ (List.mem_of_getElem? (i := 30) rfl)) (hw _ (List.mem_of_getElem? (i := 31) rfl)) (pc' := 150) at_147 rfl (Nat.le_of_ble_eq_true rfl) (Nat.le_of_ble_eq_true rfl) (fun h147 b147 g147 nb147 E147 A147 D147 => ?_)
    refine s_dup (pc' := 151) at_150 rfl rfl ?_
    refine s_aload (pc' := 153) at_151 rfl rfl rfl ?_
    refine s_aload (pc' := 155) at_153 rfl rfl rfl ?_
    refine s_callI2 (rmei C.l G n0 b147 t2 u2 _ A147 (D147 (Or.inr (hw _ (List.mem_of_getElem? (i := 37) rfl))) (ty := .object "java/lang/String") (by decide)) (D147 (Or.inr (hw _ (List.mem_of_getElem? (i := 39) rfl))) (ty := .object "java/lang/String") (by decide)) nb147) (by simp) rfl rfl (hw _ (List.mem_of_getElem? (i := 32) rfl)) (hw _ (List.mem_of_getElem? (i := 33) rfl)) (hw _ (List.mem_of_getElem? (i := 31) rfl)) (hw _ (List.mem_of_getElem? (i := 34) rfl)) (by decide) (o_len pdei rfl) rfl (pc' := 158) at_155 rfl (Nat.le_of_ble_eq_true rfl) (Nat.le_of_ble_eq_true rfl) (Nat.le_of_ble_eq_true rfl) (Nat.le_of_ble_eq_true rfl) (fun v155 h155 hQ155 => ?_)
    obtain ⟨rfl, K155, X2, F2, G2⟩ := hQ155
    dsimp only [oPush]
    have hxy : b118 ≠ b147 := o_fresh X1.lt g147
    replace F1 := (F1.ext E147).keep K155 (ninS hxy nin0)
    replace G1 := (G1.ext E147).keep K155 (ninS hxy nin0)
    replace X1 := (X1.ext E147).keep K155
    replace T1 := (T1.ext E147).keep K155 (allS (by have := E118.1; have := K126.1; omega) all0)
    replace U1 := (U1.ext E147).keep K155 (allS (by have := E118.1; have := K126.1; omega) all0)
    replace T2 := (T2.ext E147).keep K155 (allS (by have := E118.1; have := K126.1; omega) all0)
    replace U2 := (U2.ext E147).keep K155 (allS (by have := E118.1; have := K126.1; omega) all0)
    refine s_astore (pc' := 160) at_158 rfl rfl (o_st rfl (by first | exact One.u | exact One.val rfl | assumption) rfl) ?_
    dsimp only [List.set_cons_succ, List.set_cons_zero]
    refine sg160 G fun w h1 => ?_
    refine s_istore (pc' := 180) at_178 rfl (o_st rfl (by first | exact One.u | exact One.val rfl | assumption) rfl) ?_
    dsimp only [List.set_cons_succ, List.set_cons_zero]
    refine sg180 G fun w2 h2 => ?_
    refine s_istore (pc' := 200) at_198 rfl (o_st rfl (by first | exact One.u | exact One.val rfl | assumption) rfl) ?_
    dsimp only [List.set_cons_succ, List.set_cons_zero]
    refine sg200 fun v h3 => ?_
    refine s_istore (pc' := 217) at_215 rfl (o_st rfl (by first | exact One.u | exact One.val rfl | assumption) rfl) ?_
    dsimp only [List.set_cons_succ, List.set_cons_zero]
    refine s_goto (pc' := 299) at_217 (by decide) rfl ?_
    refine s_aload (pc' := 301) at_299 rfl rfl rfl ?_
    refine s_aload (pc' := 303) at_301 rfl rfl rfl ?_
    refine s_callV1 (rmeq C.l G n0 b118 b147 b28 t2 b41 u2 _ _ _ _ _ _ _ _ _ (dr_len _) (by split <;> exact dr_len _) (dr_ch _) (by split <;> exact dr_ch _) (fun q => absurd q nt) T1 T2 (dr_len _) (by split <;> exact dr_len _) (dr_ch _) (by split <;> exact dr_ch _) (fun q => absurd q nu) U1 U2 X2 F1 F2 G1 G2) (by simp) X1 (hw _ (List.mem_of_getElem? (i := 43) rfl)) (hw _ (List.mem_of_getElem? (i := 44) rfl)) (hw _ (List.mem_of_getElem? (i := 46) rfl)) (hw _ (List.mem_of_getElem? (i := 45) rfl)) (o_nf (hw _ (List.mem_of_getElem? (i := 46) rfl)) rfl) (hw _ (List.mem_of_getElem? (i := 31) rfl)) (hw _ (List.mem_of_getElem? (i := 47) rfl)) (by decide) (o_len pdeq rfl) rfl (pc' := 306) at_303 rfl (Nat.le_of_ble_eq_true rfl) (Nat.le_of_ble_eq_true rfl) (Nat.le_of_ble_eq_true rfl) (Nat.le_of_ble_eq_true rfl) (fun v303 h303 hQ303 => ?_)
    obtain ⟨r, rfl, rfl, hr⟩ := hQ303
    dsimp only [oPush]
    refine s_iload (pc' := 308) at_306 rfl rfl ?_
    refine s_icmp (pc' := 311) (pc'' := 315) at_308 rfl (by decide) rfl (fun hc308 => ?_) (fun hc308 => ?_)
    · replace hc308 := b_ne hc308
      exact absurd (law0 hr h1 h2 h3) hc308
    · replace hc308 := b_neF hc308
      refine s_iconst (x := (1 : Int32)) (pc' := 312) at_311 rfl rfl ?_
      refine s_goto (pc' := 316) at_312 (by decide) rfl ?_
      exact s_nret (t := .boolean) rfl (by simp) at_316 (Nat.le_of_ble_eq_true rfl) (Nat.le_of_ble_eq_true rfl) rfl
set_option maxRecDepth 65536 in
set_option maxHeartbeats 4000000 in
theorem comes_1 {Post : Tables → Env → Array Value → State → Outcome → State → Prop} (hpost : ∀ tb e args s v u, (limb_1_1.after args s (.returned v) u = true ∧ limb_1_2.after args s (.returned v) u = true ∧ True) → ReturnedEndW s (.returned v) u (Jvm.fieldLocs frame_1_writes args s ++ Jvm.arrayLocs frame_1_arrays args s ++ Jvm.staticLocs frame_1_statics s) 48 1216 → Post tb e args s (.returned v) u) :
    ArmFor flags0 classFile x code maxLocals ret World_1 tables_1 room_1 Calls_1 rest_1 Pre_1 Post := by
  intro l hfl _ _ p e ha hc hk s m args below hf hA hF happ hP
  obtain ⟨hcalls, hrest, hpre⟩ := hP
  obtain ⟨-, -, -, hnamed, -, -, -, hat⟩ := (Spec.applies_iff hf).mp happ
  obtain ⟨hg, hn⟩ := and_e (Cond.before_iff.mp (show (Jvm.Cond.and given_1 narrow_1).before args s = true from hpre))
  obtain ⟨hcount, hr0⟩ := and_e hg
  obtain ⟨ha0, hr1⟩ := and_e hr0
  obtain ⟨ha1, hr2⟩ := and_e hr1
  obtain ⟨ha2, hr3⟩ := and_e hr2
  obtain ⟨ha3, hr4⟩ := and_e hr3
  have ha4 := hr4
  obtain ⟨w0, w1, w2, w3, w4, rfl⟩ : ∃ w0 w1 w2 w3 w4 : Value, args = #[w0, w1, w2, w3, w4] := by
    have hs : args.size = 5 := by simpa [Cond.value, given_1] using hcount
    obtain ⟨L⟩ := args
    match L, hs with
    | [w0, w1, w2, w3, w4], _ => exact ⟨w0, w1, w2, w3, w4, rfl⟩
  have hw := fun d (hd : d ∈ tables_1) => atoms_spec (ws := Jvm.Cond.code x code maxLocals ret :: tables_1) hat d (List.mem_cons_of_mem _ hd)
  obtain ⟨hsets, hown0⟩ := atoms_of _ (rest_1_c_eq ▸ (show rest_1_c.before _ s = true from hrest))
  have hfit : Fit s := fun {y c} hc i hi => by
    obtain ⟨ha, rfl⟩ := Array.getElem?_eq_some_iff.mp hc
    have q := List.all_eq_true.mp ((Array.all_eq_true_iff_forall_mem.mp hF) _ (Array.getElem_mem ha)) i (List.mem_range.mpr hi)
    simpa [Array.getElem?_eq_getElem hi] using q
  obtain ⟨i0, e0⟩ := is_v ha0
  obtain rfl : w0 = (.int i0) := Option.some.inj e0
  obtain ⟨i1, e1⟩ := is_v ha1
  obtain rfl : w1 = (.int i1) := Option.some.inj e1
  obtain ⟨i2, e2⟩ := is_v ha2
  obtain rfl : w2 = (.int i2) := Option.some.inj e2
  obtain ⟨i3, e3⟩ := is_v ha3
  obtain rfl : w3 = (.int i3) := Option.some.inj e3
  obtain ⟨i4, e4⟩ := is_v ha4
  obtain rfl : w4 = (.int i4) := Option.some.inj e4
  have n2 := not_v (Cond.before_iff.mp (hsets _ (List.mem_of_getElem? (i := 2) rfl)))
  obtain ⟨cmp, ec⟩ := is_v (Cond.before_iff.mp (hsets _ (List.mem_of_getElem? (i := 1) rfl)))
  have hC : Sta s s.heap "java/lang/String" "COMPACT_STRINGS" "Z" (.int cmp) := Sta.start ec (Or.inl (hsets _ (List.mem_of_getElem? (i := 0) rfl)))
  have hc0 : ¬ cmp = 0 := gotF (Cond.eq_ints ec (Term.int_eval 0)) n2
  have hEL : EW s _ EL1 := (EW.cons (hw _ (List.mem_of_getElem? (i := 21) rfl)) (by decide) EW.nil)
  have G : OG s _ := ⟨hw, hEL, ⟨cmp, hC, hc0⟩, trivial⟩
  have hCH : CHv s EL1 s.vm s.heap := CHv.start hEL (fun p hp => hcalls.1 p hp) (hsets _ (List.mem_of_getElem? (i := 2) rfl)) (hw _ (List.mem_of_getElem? (i := 22) rfl)) (hw _ (List.mem_of_getElem? (i := 1) rfl))
  obtain ⟨n, o, q1, q2, q3, _, L, rfl, ⟨N, -, rfl⟩, -, hq⟩ := (rm0 l G s.heap.size i0 i1 i2 i3 i4 s.heap) (Old.start s) tables_1 p e ha hc hk s m _ below hf ((Spec.applies_iff_loose hf).mp happ).1 ⟨rfl, State.Warmed39.refl s, rfl, hCH, by simp⟩ trivial
  refine ⟨n, _, q1, q2, q3, hpost _ _ _ _ _ _ ⟨Cond.after_iff.mpr rfl, Cond.after_iff.mpr (eq_i res_at (Term.int_eval (1)) rfl), trivial⟩ ⟨hq.1, hq.2.1, hq.2.2.1, (hq.2.2.2.sift fun y hy => Or.inr (N y hy)).mono (by decide) (by decide)⟩⟩
theorem main_1_1 : Claimed_1_1 := comes_1 fun _ _ _ _ _ _ h hF => ⟨h.1, hF⟩
theorem main_1_2 : Claimed_1_2 := comes_1 fun _ _ _ _ _ _ h hF => ⟨h.2.1, hF⟩
end Jvm.Pilot.@@N@@
namespace Jvm.Pilot.@@N@@
open Jvm Jvm.ClassFile Sem Op Lib Jvm.Free Jvm.Stand Jvm.Pilot.@@N@@.Jvm.D
/-! MADE BY PROGRAM (witnessworld.py) out of the Statement's table words and the real class files: 21 classes; the members and pool entries that the words name. The judged class is class 1, her method 4. -/
namespace start1
open Jvm.ClassFile
def u (s : String) : CpInfo := .utf8 (stringToUtf16 s)
/-- a pool by its gaps: so many unusable entries, then the entry; so many at the end -/
def gap : Nat → List CpInfo → List CpInfo
  | 0, r => r
  | n + 1, r => .unusable :: gap n r
def poolList (es : List (Nat × CpInfo)) (last : Nat) : List CpInfo := es.foldr (fun e r => gap e.1 (e.2 :: r)) (gap last [])
def pool (es : List (Nat × CpInfo)) (last : Nat) : Array CpInfo := ⟨poolList es last⟩
def fileOf (pool : Array CpInfo) (this : Nat) (attrs : Array Attribute := #[]) (ms : Array MethodInfo := #[]) (fl : Nat := 33) (sup : Nat := 0) (ifs : Array Nat := #[]) (fds : Array FieldInfo := #[]) : ClassFile where
  minorVersion := 0
  majorVersion := 65
  constantPool := pool
  accessFlags := fl
  thisClass := this
  superClass := sup
  interfaces := ifs
  fields := fds
  methods := ms
  attributes := attrs
def plain (name : String) (sup : Option ClassId) : Class where
  name := name
  kind := .ordinary
  loader := none
  accessFlags := 33
  super := sup
  interfaces := #[]
  cf := none
  fields := #[]
  methods := #[]
  instanceTypes := #[]
  staticTypes := #[]
  resolved := #[]
  callSites := []
  init := .initialized
  statics := none
  mirror := none

def pool0 : Array CpInfo := pool [(5, u "<init>"), (0, u "()V"), (1, .class_ 10), (1, u "java/lang/Object")] 113

def k0c0 : Code := { maxStack := 0, maxLocals := 1, code := object_method_1_code, exceptionTable := #[], attributes := #[] }
def k0m0 : Method := { name := "<init>", desc := "()V", sig := { parameters := [], returnType := none }, accessFlags := 1, code := some k0c0 }
/-- java/lang/Object -/
def k0 : Class := { plain "java/lang/Object" none with
  accessFlags := 33
  interfaces := #[]
  cf := some (fileOf pool0 8 #[] #[{ accessFlags := 1, nameIndex := 5, descriptorIndex := 6, attributes := #[] }] 33 0 #[] #[])
  fields := #[]
  methods := #[k0m0]
  instanceTypes := #[]
  staticTypes := #[]
  resolved := Array.replicate 124 none
  statics := none }

def pool1 : Array CpInfo := pool [(2, .class_ 4), (1, u "java/lang/Object"), (0, u "<init>"), (0, u "()V"), (0, .methodref 8 9), (0, .class_ 10), (0, .nameAndType 11 12), (0, u "com/example/slim_mapper/slimmapper/mapping/EnumConstantEqualsPinLaw"), (0, u "len"), (0, u "(I)I"), (0, .class_ 14), (0, u "java/lang/String"), (0, .methodref 8 16), (0, .nameAndType 17 18), (0, u "chars"), (0, u "(I)[C"), (0, .methodref 13 20), (0, .nameAndType 5 21), (0, u "([C)V"), (0, .class_ 23), (0, u "com/example/slim_mapper/slimmapper/mapping/ClassFile$EnumConstant"), (0, .methodref 22 25), (0, .nameAndType 5 26), (0, u "(Ljava/lang/String;Ljava/lang/String;)V"), (0, .methodref 8 28), (0, .nameAndType 29 30), (0, u "sameDrawn"), (0, u "(II)Z"), (0, .class_ 32), (0, u "com/example/slim_mapper/slimmapper/mapping/ClassFile$ClassLiteral"), (0, .methodref 31 34), (0, .nameAndType 5 35), (0, u "(Ljava/lang/String;)V"), (0, .methodref 22 37), (0, .nameAndType 38 39), (0, u "equals"), (0, u "(Ljava/lang/Object;)Z"), (3, u "law"), (0, u "(IIIII)Z")] 7

def k1m0 : Method := { name := "<init>", desc := "()V", sig := { parameters := [], returnType := none }, accessFlags := 1, code := none }
def k1c1 : Code := { maxStack := 2, maxLocals := 1, code := method_2_code, exceptionTable := #[], attributes := #[] }
def k1m1 : Method := { name := "len", desc := "(I)I", sig := { parameters := [.int], returnType := some .int }, accessFlags := 10, code := some k1c1 }
def k1c2 : Code := { maxStack := 4, maxLocals := 4, code := method_3_code, exceptionTable := #[], attributes := #[] }
def k1m2 : Method := { name := "chars", desc := "(I)[C", sig := { parameters := [.int], returnType := some (.array .char) }, accessFlags := 10, code := some k1c2 }
def k1c3 : Code := { maxStack := 3, maxLocals := 3, code := method_4_code, exceptionTable := #[], attributes := #[] }
def k1m3 : Method := { name := "sameDrawn", desc := "(II)Z", sig := { parameters := [.int, .int], returnType := some .boolean }, accessFlags := 10, code := some k1c3 }
def k1c4 : Code := { maxStack := 5, maxLocals := 17, code := code, exceptionTable := #[], attributes := #[] }
def k1m4 : Method := { name := "law", desc := "(IIIII)Z", sig := { parameters := [.int, .int, .int, .int, .int], returnType := some .boolean }, accessFlags := 9, code := some k1c4 }
/-- com/example/slim_mapper/slimmapper/mapping/EnumConstantEqualsPinLaw -/
def k1 : Class := { plain "com/example/slim_mapper/slimmapper/mapping/EnumConstantEqualsPinLaw" (some 0) with
  accessFlags := 49
  interfaces := #[]
  cf := some (fileOf pool1 8 #[] #[{ accessFlags := 1, nameIndex := 5, descriptorIndex := 6, attributes := #[] }, { accessFlags := 10, nameIndex := 11, descriptorIndex := 12, attributes := #[] }, { accessFlags := 10, nameIndex := 17, descriptorIndex := 18, attributes := #[] }, { accessFlags := 10, nameIndex := 29, descriptorIndex := 30, attributes := #[] }, { accessFlags := 9, nameIndex := 43, descriptorIndex := 44, attributes := #[] }] 49 2 #[] #[])
  fields := #[]
  methods := #[k1m0, k1m1, k1m2, k1m3, k1m4]
  instanceTypes := #[]
  staticTypes := #[]
  resolved := Array.replicate 52 none
  statics := none }

def pool2 : Array CpInfo := pool [(1, .class_ 2), (0, u "java/io/Serializable"), (0, .class_ 4), (0, u "java/lang/Object")] 2

/-- java/io/Serializable -/
def k2 : Class := { plain "java/io/Serializable" (some 0) with
  accessFlags := 1537
  interfaces := #[]
  cf := some (fileOf pool2 1 #[] #[] 1537 3 #[] #[])
  fields := #[]
  methods := #[]
  instanceTypes := #[]
  staticTypes := #[]
  resolved := Array.replicate 7 none
  statics := none }

def pool3 : Array CpInfo := pool [(1, .class_ 2), (0, u "java/lang/Comparable"), (0, .class_ 4), (0, u "java/lang/Object")] 7

/-- java/lang/Comparable -/
def k3 : Class := { plain "java/lang/Comparable" (some 0) with
  accessFlags := 1537
  interfaces := #[]
  cf := some (fileOf pool3 1 #[] #[] 1537 3 #[] #[])
  fields := #[]
  methods := #[]
  instanceTypes := #[]
  staticTypes := #[]
  resolved := Array.replicate 12 none
  statics := none }

def pool4 : Array CpInfo := pool [(2, .class_ 4), (1, u "java/lang/CharSequence"), (42, .class_ 48), (0, u "java/lang/CharSequence$1CodePointIterator"), (10, .class_ 60), (0, u "java/lang/CharSequence$1CharIterator"), (5, .class_ 67), (0, u "java/lang/Object")] 63

/-- java/lang/CharSequence -/
def k4 : Class := { plain "java/lang/CharSequence" (some 0) with
  accessFlags := 1537
  interfaces := #[]
  cf := some (fileOf pool4 2 #[.nestMembers #[47, 59]] #[] 1537 66 #[] #[])
  fields := #[]
  methods := #[]
  instanceTypes := #[]
  staticTypes := #[]
  resolved := Array.replicate 131 none
  statics := none }

def pool5 : Array CpInfo := pool [(1, .class_ 2), (0, u "java/lang/constant/Constable"), (0, .class_ 4), (0, u "java/lang/Object")] 6

/-- java/lang/constant/Constable -/
def k5 : Class := { plain "java/lang/constant/Constable" (some 0) with
  accessFlags := 1537
  interfaces := #[]
  cf := some (fileOf pool5 1 #[] #[] 1537 3 #[] #[])
  fields := #[]
  methods := #[]
  instanceTypes := #[]
  staticTypes := #[]
  resolved := Array.replicate 11 none
  statics := none }

def pool6 : Array CpInfo := pool [(1, .class_ 2), (0, u "java/lang/constant/ConstantDesc"), (0, .class_ 4), (0, u "java/lang/Object")] 32

/-- java/lang/constant/ConstantDesc -/
def k6 : Class := { plain "java/lang/constant/ConstantDesc" (some 0) with
  accessFlags := 1537
  interfaces := #[]
  cf := some (fileOf pool6 1 #[] #[] 1537 3 #[] #[])
  fields := #[]
  methods := #[]
  instanceTypes := #[]
  staticTypes := #[]
  resolved := Array.replicate 37 none
  statics := none }

def pool7 : Array CpInfo := pool [(1, .methodref 2 3), (0, .class_ 4), (0, .nameAndType 5 6), (0, u "java/lang/Object"), (0, u "<init>"), (0, u "()V"), (0, .string 8), (0, u ""), (0, .fieldref 10 11), (0, .class_ 12), (0, .nameAndType 13 14), (0, u "java/lang/String"), (0, u "value"), (0, u "[B"), (0, .fieldref 10 16), (0, .nameAndType 17 18), (0, u "coder"), (0, u "B"), (2, u "hash"), (0, u "I"), (2, u "hashIsZero"), (0, u "Z"), (0, .methodref 10 28), (0, .nameAndType 5 29), (0, u "([CIILjava/lang/Void;)V"), (8, .fieldref 10 39), (0, .nameAndType 40 26), (0, u "COMPACT_STRINGS"), (1, .class_ 44), (1, u "java/lang/StringUTF16"), (0, u "compress"), (1, .methodref 42 48), (0, .nameAndType 49 50), (0, u "coderFromArrayLen"), (0, u "([BI)B"), (56, .class_ 109), (1, u "java/lang/StringLatin1"), (67, .methodref 42 178), (0, .nameAndType 45 179), (0, u "([CII)[B"), (361, .methodref 107 542), (0, .nameAndType 543 544), (0, u "equals"), (0, u "([B[B)Z"), (28, u "(Ljava/lang/Object;)Z"), (1, .class_ 576), (0, u "java/lang/CharSequence"), (22, u "CASE_INSENSITIVE_ORDER"), (0, u "Ljava/util/Comparator;"), (409, u "([C)V"), (90, u "serialPersistentFields"), (0, u "[Ljava/io/ObjectStreamField;"), (0, .class_ 1104), (0, u "java/lang/String$CaseInsensitiveComparator"), (1, .class_ 1107), (0, u "java/io/Serializable"), (0, .class_ 1109), (0, u "java/lang/Comparable"), (0, .class_ 1111), (0, u "java/lang/constant/Constable"), (0, .class_ 1113), (0, u "java/lang/constant/ConstantDesc"), (2, u "serialVersionUID"), (0, u "J"), (3, u "REPL"), (0, u "C"), (2, u "LATIN1"), (1, u "UTF16")] 323

def k7m0 : Method := { name := "<init>", desc := "()V", sig := { parameters := [], returnType := none }, accessFlags := 1, code := none }
def k7c1 : Code := { maxStack := 5, maxLocals := 2, code := jdk_42_method_3_code, exceptionTable := #[], attributes := #[] }
def k7m1 : Method := { name := "<init>", desc := "([C)V", sig := { parameters := [(.array .char)], returnType := none }, accessFlags := 1, code := some k7c1 }
def k7c2 : Code := { maxStack := 2, maxLocals := 3, code := jdk_42_method_66_code, exceptionTable := #[], attributes := #[] }
def k7m2 : Method := { name := "equals", desc := "(Ljava/lang/Object;)Z", sig := { parameters := [(.object "java/lang/Object")], returnType := some .boolean }, accessFlags := 1, code := some k7c2 }
def k7c3 : Code := { maxStack := 4, maxLocals := 6, code := jdk_42_method_149_code, exceptionTable := #[], attributes := #[] }
def k7m3 : Method := { name := "<init>", desc := "([CIILjava/lang/Void;)V", sig := { parameters := [(.array .char), .int, .int, (.object "java/lang/Void")], returnType := none }, accessFlags := 2, code := some k7c3 }
/-- java/lang/String -/
def k7 : Class := { plain "java/lang/String" (some 0) with
  accessFlags := 49
  interfaces := #[2, 3, 4, 5, 6]
  cf := some (fileOf pool7 10 #[.nestMembers #[1103]] #[{ accessFlags := 1, nameIndex := 5, descriptorIndex := 6, attributes := #[] }, { accessFlags := 1, nameIndex := 5, descriptorIndex := 1010, attributes := #[] }, { accessFlags := 1, nameIndex := 543, descriptorIndex := 573, attributes := #[] }, { accessFlags := 2, nameIndex := 5, descriptorIndex := 29, attributes := #[] }] 49 2 #[1106, 1108, 575, 1110, 1112] #[{ accessFlags := 18, nameIndex := 13, descriptorIndex := 14, attributes := #[] }, { accessFlags := 18, nameIndex := 17, descriptorIndex := 18, attributes := #[] }, { accessFlags := 2, nameIndex := 21, descriptorIndex := 22, attributes := #[] }, { accessFlags := 2, nameIndex := 25, descriptorIndex := 26, attributes := #[] }, { accessFlags := 26, nameIndex := 1116, descriptorIndex := 1117, attributes := #[] }, { accessFlags := 24, nameIndex := 40, descriptorIndex := 26, attributes := #[] }, { accessFlags := 26, nameIndex := 1101, descriptorIndex := 1102, attributes := #[] }, { accessFlags := 26, nameIndex := 1121, descriptorIndex := 1122, attributes := #[] }, { accessFlags := 25, nameIndex := 599, descriptorIndex := 600, attributes := #[] }, { accessFlags := 24, nameIndex := 1125, descriptorIndex := 18, attributes := #[] }, { accessFlags := 24, nameIndex := 1127, descriptorIndex := 18, attributes := #[] }])
  fields := #[{ name := "value", type := (.array .byte), accessFlags := 18, slot := 0, constantValue := 0 }, { name := "coder", type := .byte, accessFlags := 18, slot := 1, constantValue := 0 }, { name := "hash", type := .int, accessFlags := 2, slot := 2, constantValue := 0 }, { name := "hashIsZero", type := .boolean, accessFlags := 2, slot := 3, constantValue := 0 }, { name := "serialVersionUID", type := .long, accessFlags := 26, slot := 0, constantValue := 0 }, { name := "COMPACT_STRINGS", type := .boolean, accessFlags := 24, slot := 1, constantValue := 0 }, { name := "serialPersistentFields", type := (.array (.object "java/io/ObjectStreamField")), accessFlags := 26, slot := 2, constantValue := 0 }, { name := "REPL", type := .char, accessFlags := 26, slot := 3, constantValue := 0 }, { name := "CASE_INSENSITIVE_ORDER", type := (.object "java/util/Comparator"), accessFlags := 25, slot := 4, constantValue := 0 }, { name := "LATIN1", type := .byte, accessFlags := 24, slot := 5, constantValue := 0 }, { name := "UTF16", type := .byte, accessFlags := 24, slot := 6, constantValue := 0 }]
  methods := #[k7m0, k7m1, k7m2, k7m3]
  instanceTypes := #[(.array .byte), .byte, .int, .boolean]
  staticTypes := #[.long, .boolean, (.array (.object "java/io/ObjectStreamField")), .char, (.object "java/util/Comparator"), .byte, .byte]
  resolved := Array.replicate 1451 none
  statics := some 0 }

def pool8 : Array CpInfo := pool [(1, .methodref 2 3), (0, .class_ 4), (0, .nameAndType 5 6), (0, u "java/lang/Object"), (0, u "<init>"), (0, u "()V"), (0, .fieldref 8 9), (0, .class_ 10), (0, .nameAndType 11 12), (0, u "com/example/slim_mapper/slimmapper/mapping/ClassFile$EnumConstant"), (0, u "typeName"), (0, u "Ljava/lang/String;"), (0, .fieldref 8 14), (0, .nameAndType 15 12), (0, u "name"), (0, .methodref 17 18), (0, .class_ 19), (0, .nameAndType 20 21), (0, u "java/lang/String"), (0, u "equals"), (0, u "(Ljava/lang/Object;)Z"), (6, u "(Ljava/lang/String;Ljava/lang/String;)V"), (10, .class_ 40), (0, u "com/example/slim_mapper/slimmapper/mapping/ClassFile")] 2

def k8c0 : Code := { maxStack := 2, maxLocals := 3, code := prog_26_method_1_code, exceptionTable := #[], attributes := #[] }
def k8m0 : Method := { name := "<init>", desc := "(Ljava/lang/String;Ljava/lang/String;)V", sig := { parameters := [(.object "java/lang/String"), (.object "java/lang/String")], returnType := none }, accessFlags := 0, code := some k8c0 }
def k8c1 : Code := { maxStack := 2, maxLocals := 3, code := prog_26_method_3_code, exceptionTable := #[], attributes := #[] }
def k8m1 : Method := { name := "equals", desc := "(Ljava/lang/Object;)Z", sig := { parameters := [(.object "java/lang/Object")], returnType := some .boolean }, accessFlags := 1, code := some k8c1 }
/-- com/example/slim_mapper/slimmapper/mapping/ClassFile$EnumConstant -/
def k8 : Class := { plain "com/example/slim_mapper/slimmapper/mapping/ClassFile$EnumConstant" (some 0) with
  accessFlags := 48
  interfaces := #[]
  cf := some (fileOf pool8 8 #[.nestHost 39] #[{ accessFlags := 0, nameIndex := 5, descriptorIndex := 28, attributes := #[] }, { accessFlags := 1, nameIndex := 20, descriptorIndex := 21, attributes := #[] }] 48 2 #[] #[{ accessFlags := 18, nameIndex := 11, descriptorIndex := 12, attributes := #[] }, { accessFlags := 18, nameIndex := 15, descriptorIndex := 12, attributes := #[] }])
  fields := #[{ name := "typeName", type := (.object "java/lang/String"), accessFlags := 18, slot := 0, constantValue := 0 }, { name := "name", type := (.object "java/lang/String"), accessFlags := 18, slot := 1, constantValue := 0 }]
  methods := #[k8m0, k8m1]
  instanceTypes := #[(.object "java/lang/String"), (.object "java/lang/String")]
  staticTypes := #[]
  resolved := Array.replicate 43 none
  statics := none }

def pool9 : Array CpInfo := pool [(4, .class_ 6), (1, u "java/lang/Object"), (0, u "<init>"), (0, u "()V"), (5, .class_ 16), (1, u "java/lang/StringLatin1"), (104, u "$assertionsDisabled"), (0, u "Z"), (98, .class_ 223), (1, u "java/lang/StringLatin1$LinesSpliterator"), (57, u "equals"), (0, u "([B[B)Z"), (107, .class_ 391), (0, u "java/lang/StringLatin1$CharsSpliterator")] 3

def k9m0 : Method := { name := "<init>", desc := "()V", sig := { parameters := [], returnType := none }, accessFlags := 0, code := none }
def k9c1 : Code := { maxStack := 3, maxLocals := 3, code := jdk_43_method_13_code, exceptionTable := #[], attributes := #[] }
def k9m1 : Method := { name := "equals", desc := "([B[B)Z", sig := { parameters := [(.array .byte), (.array .byte)], returnType := some .boolean }, accessFlags := 9, code := some k9c1 }
/-- java/lang/StringLatin1 -/
def k9 : Class := { plain "java/lang/StringLatin1" (some 0) with
  accessFlags := 48
  interfaces := #[]
  cf := some (fileOf pool9 14 #[.nestMembers #[390, 221]] #[{ accessFlags := 0, nameIndex := 7, descriptorIndex := 8, attributes := #[] }, { accessFlags := 9, nameIndex := 281, descriptorIndex := 282, attributes := #[] }] 48 4 #[] #[{ accessFlags := 4120, nameIndex := 121, descriptorIndex := 122, attributes := #[] }])
  fields := #[{ name := "$assertionsDisabled", type := .boolean, accessFlags := 4120, slot := 0, constantValue := 0 }]
  methods := #[k9m0, k9m1]
  instanceTypes := #[]
  staticTypes := #[.boolean]
  resolved := Array.replicate 395 none
  statics := none }

def pool10 : Array CpInfo := pool [(6, .class_ 8), (1, u "java/lang/Object"), (0, u "<init>"), (0, u "()V"), (1, .class_ 14), (1, u "java/lang/StringUTF16"), (31, u "$assertionsDisabled"), (0, u "Z"), (13, u "HI_BYTE_SHIFT"), (0, u "I"), (2, u "LO_BYTE_SHIFT"), (49, .methodref 12 116), (0, .nameAndType 117 118), (0, u "compress"), (0, u "([CI[BII)I"), (3, u "([CII)[B"), (138, u "coderFromArrayLen"), (0, u "([BI)B"), (106, .class_ 371), (1, u "java/lang/StringUTF16$LinesSpliterator"), (58, u "MAX_LENGTH"), (196, .class_ 628), (0, u "java/lang/StringUTF16$CodePointsSpliterator"), (0, .class_ 630), (0, u "java/lang/StringUTF16$CharsSpliterator")] 4

def k10m0 : Method := { name := "<init>", desc := "()V", sig := { parameters := [], returnType := none }, accessFlags := 0, code := none }
def k10c1 : Code := { maxStack := 2, maxLocals := 2, code := jdk_52_method_15_code, exceptionTable := #[], attributes := #[] }
def k10m1 : Method := { name := "coderFromArrayLen", desc := "([BI)B", sig := { parameters := [(.array .byte), .int], returnType := some .byte }, accessFlags := 8, code := some k10c1 }
def k10c2 : Code := { maxStack := 5, maxLocals := 6, code := jdk_52_method_16_code, exceptionTable := #[], attributes := #[] }
def k10m2 : Method := { name := "compress", desc := "([CII)[B", sig := { parameters := [(.array .char), .int, .int], returnType := some (.array .byte) }, accessFlags := 9, code := some k10c2 }
def k10c3 : Code := { maxStack := 3, maxLocals := 7, code := jdk_52_method_21_code, exceptionTable := #[], attributes := #[] }
def k10m3 : Method := { name := "compress", desc := "([CI[BII)I", sig := { parameters := [(.array .char), .int, (.array .byte), .int, .int], returnType := some .int }, accessFlags := 9, code := some k10c3 }
/-- java/lang/StringUTF16 -/
def k10 : Class := { plain "java/lang/StringUTF16" (some 0) with
  accessFlags := 48
  interfaces := #[]
  cf := some (fileOf pool10 12 #[.nestMembers #[627, 629, 369]] #[{ accessFlags := 0, nameIndex := 9, descriptorIndex := 10, attributes := #[] }, { accessFlags := 8, nameIndex := 261, descriptorIndex := 262, attributes := #[] }, { accessFlags := 9, nameIndex := 117, descriptorIndex := 122, attributes := #[] }, { accessFlags := 9, nameIndex := 117, descriptorIndex := 118, attributes := #[] }] 48 6 #[] #[{ accessFlags := 26, nameIndex := 61, descriptorIndex := 62, attributes := #[] }, { accessFlags := 26, nameIndex := 65, descriptorIndex := 62, attributes := #[] }, { accessFlags := 24, nameIndex := 430, descriptorIndex := 62, attributes := #[] }, { accessFlags := 4120, nameIndex := 46, descriptorIndex := 47, attributes := #[] }])
  fields := #[{ name := "HI_BYTE_SHIFT", type := .int, accessFlags := 26, slot := 0, constantValue := 0 }, { name := "LO_BYTE_SHIFT", type := .int, accessFlags := 26, slot := 1, constantValue := 0 }, { name := "MAX_LENGTH", type := .int, accessFlags := 24, slot := 2, constantValue := 0 }, { name := "$assertionsDisabled", type := .boolean, accessFlags := 4120, slot := 3, constantValue := 0 }]
  methods := #[k10m0, k10m1, k10m2, k10m3]
  instanceTypes := #[]
  staticTypes := #[.int, .int, .int, .boolean]
  resolved := Array.replicate 635 none
  statics := none }

def pool11 : Array CpInfo := pool [(1, .methodref 2 3), (0, .class_ 4), (0, .nameAndType 5 6), (0, u "java/lang/Object"), (0, u "<init>"), (0, u "()V"), (0, .fieldref 8 9), (0, .class_ 10), (0, .nameAndType 11 12), (0, u "com/example/slim_mapper/slimmapper/mapping/ClassFile$ClassLiteral"), (0, u "typeName"), (0, u "Ljava/lang/String;"), (14, u "(Ljava/lang/String;)V"), (8, .class_ 37), (0, u "com/example/slim_mapper/slimmapper/mapping/ClassFile")] 16

def k11c0 : Code := { maxStack := 2, maxLocals := 2, code := prog_24_method_1_code, exceptionTable := #[], attributes := #[] }
def k11m0 : Method := { name := "<init>", desc := "(Ljava/lang/String;)V", sig := { parameters := [(.object "java/lang/String")], returnType := none }, accessFlags := 0, code := some k11c0 }
/-- com/example/slim_mapper/slimmapper/mapping/ClassFile$ClassLiteral -/
def k11 : Class := { plain "com/example/slim_mapper/slimmapper/mapping/ClassFile$ClassLiteral" (some 0) with
  accessFlags := 48
  interfaces := #[]
  cf := some (fileOf pool11 8 #[.nestHost 36] #[{ accessFlags := 0, nameIndex := 5, descriptorIndex := 27, attributes := #[] }] 48 2 #[] #[{ accessFlags := 18, nameIndex := 11, descriptorIndex := 12, attributes := #[] }])
  fields := #[{ name := "typeName", type := (.object "java/lang/String"), accessFlags := 18, slot := 0, constantValue := 0 }]
  methods := #[k11m0]
  instanceTypes := #[(.object "java/lang/String")]
  staticTypes := #[]
  resolved := Array.replicate 54 none
  statics := none }

def pool12 : Array CpInfo := pool [(2, .class_ 4), (1, u "java/lang/Object"), (0, u "<init>"), (0, u "()V"), (17, .class_ 26), (1, u "jdk/internal/util/Preconditions"), (28, .class_ 56), (0, u "jdk/internal/util/Preconditions$4"), (57, .class_ 115), (0, u "jdk/internal/util/Preconditions$1"), (7, u "SIOOBE_FORMATTER"), (0, u "Ljava/util/function/BiFunction;"), (0, .class_ 126), (0, u "jdk/internal/util/Preconditions$2"), (3, u "AIOOBE_FORMATTER"), (0, .class_ 132), (0, u "jdk/internal/util/Preconditions$3"), (3, u "IOOBE_FORMATTER")] 57

def k12m0 : Method := { name := "<init>", desc := "()V", sig := { parameters := [], returnType := none }, accessFlags := 1, code := none }
/-- jdk/internal/util/Preconditions -/
def k12 : Class := { plain "jdk/internal/util/Preconditions" (some 0) with
  accessFlags := 33
  interfaces := #[]
  cf := some (fileOf pool12 24 #[.nestMembers #[55, 131, 125, 114]] #[{ accessFlags := 1, nameIndex := 5, descriptorIndex := 6, attributes := #[] }] 33 2 #[] #[{ accessFlags := 25, nameIndex := 123, descriptorIndex := 124, attributes := #[] }, { accessFlags := 25, nameIndex := 130, descriptorIndex := 124, attributes := #[] }, { accessFlags := 25, nameIndex := 136, descriptorIndex := 124, attributes := #[] }])
  fields := #[{ name := "SIOOBE_FORMATTER", type := (.object "java/util/function/BiFunction"), accessFlags := 25, slot := 0, constantValue := 0 }, { name := "AIOOBE_FORMATTER", type := (.object "java/util/function/BiFunction"), accessFlags := 25, slot := 1, constantValue := 0 }, { name := "IOOBE_FORMATTER", type := (.object "java/util/function/BiFunction"), accessFlags := 25, slot := 2, constantValue := 0 }]
  methods := #[k12m0]
  instanceTypes := #[]
  staticTypes := #[(.object "java/util/function/BiFunction"), (.object "java/util/function/BiFunction"), (.object "java/util/function/BiFunction")]
  resolved := Array.replicate 194 none
  statics := some 1 }

def pool13 : Array CpInfo := pool [(9, u "<init>"), (6, .class_ 18), (1, u "java/lang/Object"), (0, u "()V"), (1, .class_ 23), (1, u "jdk/internal/util/ArraysSupport"), (0, u "LOG2_ARRAY_LONG_INDEX_SCALE"), (0, u "I"), (2, u "U"), (0, u "Ljdk/internal/misc/Unsafe;"), (8, u "BIG_ENDIAN"), (0, u "Z"), (8, u "LOG2_BYTE_BIT_SIZE"), (4, u "LOG2_ARRAY_INT_INDEX_SCALE"), (54, u "JLA"), (0, u "Ljdk/internal/access/JavaLangAccess;"), (11, u "LOG2_ARRAY_BOOLEAN_INDEX_SCALE"), (9, u "LOG2_ARRAY_BYTE_INDEX_SCALE"), (5, u "LOG2_ARRAY_CHAR_INDEX_SCALE"), (5, u "LOG2_ARRAY_SHORT_INDEX_SCALE"), (18, u "LOG2_ARRAY_FLOAT_INDEX_SCALE"), (24, u "LOG2_ARRAY_DOUBLE_INDEX_SCALE"), (89, u "T_BOOLEAN"), (2, u "T_CHAR"), (1, u "T_FLOAT"), (1, u "T_DOUBLE"), (1, u "T_BYTE"), (1, u "T_SHORT"), (1, u "T_INT"), (1, u "T_LONG"), (1, u "SOFT_MAX_ARRAY_LENGTH")] 83

def k13m0 : Method := { name := "<init>", desc := "()V", sig := { parameters := [], returnType := none }, accessFlags := 2, code := none }
/-- jdk/internal/util/ArraysSupport -/
def k13 : Class := { plain "jdk/internal/util/ArraysSupport" (some 0) with
  accessFlags := 33
  interfaces := #[]
  cf := some (fileOf pool13 21 #[] #[{ accessFlags := 2, nameIndex := 9, descriptorIndex := 19, attributes := #[] }] 33 16 #[] #[{ accessFlags := 24, nameIndex := 28, descriptorIndex := 29, attributes := #[] }, { accessFlags := 26, nameIndex := 38, descriptorIndex := 39, attributes := #[] }, { accessFlags := 25, nameIndex := 121, descriptorIndex := 25, attributes := #[] }, { accessFlags := 25, nameIndex := 131, descriptorIndex := 25, attributes := #[] }, { accessFlags := 25, nameIndex := 137, descriptorIndex := 25, attributes := #[] }, { accessFlags := 25, nameIndex := 143, descriptorIndex := 25, attributes := #[] }, { accessFlags := 25, nameIndex := 53, descriptorIndex := 25, attributes := #[] }, { accessFlags := 25, nameIndex := 24, descriptorIndex := 25, attributes := #[] }, { accessFlags := 25, nameIndex := 162, descriptorIndex := 25, attributes := #[] }, { accessFlags := 25, nameIndex := 187, descriptorIndex := 25, attributes := #[] }, { accessFlags := 26, nameIndex := 48, descriptorIndex := 25, attributes := #[] }, { accessFlags := 25, nameIndex := 277, descriptorIndex := 25, attributes := #[] }, { accessFlags := 25, nameIndex := 280, descriptorIndex := 25, attributes := #[] }, { accessFlags := 25, nameIndex := 282, descriptorIndex := 25, attributes := #[] }, { accessFlags := 25, nameIndex := 284, descriptorIndex := 25, attributes := #[] }, { accessFlags := 25, nameIndex := 286, descriptorIndex := 25, attributes := #[] }, { accessFlags := 25, nameIndex := 288, descriptorIndex := 25, attributes := #[] }, { accessFlags := 25, nameIndex := 290, descriptorIndex := 25, attributes := #[] }, { accessFlags := 25, nameIndex := 292, descriptorIndex := 25, attributes := #[] }, { accessFlags := 26, nameIndex := 108, descriptorIndex := 109, attributes := #[] }, { accessFlags := 25, nameIndex := 294, descriptorIndex := 25, attributes := #[] }])
  fields := #[{ name := "U", type := (.object "jdk/internal/misc/Unsafe"), accessFlags := 24, slot := 0, constantValue := 0 }, { name := "BIG_ENDIAN", type := .boolean, accessFlags := 26, slot := 1, constantValue := 0 }, { name := "LOG2_ARRAY_BOOLEAN_INDEX_SCALE", type := .int, accessFlags := 25, slot := 2, constantValue := 0 }, { name := "LOG2_ARRAY_BYTE_INDEX_SCALE", type := .int, accessFlags := 25, slot := 3, constantValue := 0 }, { name := "LOG2_ARRAY_CHAR_INDEX_SCALE", type := .int, accessFlags := 25, slot := 4, constantValue := 0 }, { name := "LOG2_ARRAY_SHORT_INDEX_SCALE", type := .int, accessFlags := 25, slot := 5, constantValue := 0 }, { name := "LOG2_ARRAY_INT_INDEX_SCALE", type := .int, accessFlags := 25, slot := 6, constantValue := 0 }, { name := "LOG2_ARRAY_LONG_INDEX_SCALE", type := .int, accessFlags := 25, slot := 7, constantValue := 0 }, { name := "LOG2_ARRAY_FLOAT_INDEX_SCALE", type := .int, accessFlags := 25, slot := 8, constantValue := 0 }, { name := "LOG2_ARRAY_DOUBLE_INDEX_SCALE", type := .int, accessFlags := 25, slot := 9, constantValue := 0 }, { name := "LOG2_BYTE_BIT_SIZE", type := .int, accessFlags := 26, slot := 10, constantValue := 0 }, { name := "T_BOOLEAN", type := .int, accessFlags := 25, slot := 11, constantValue := 0 }, { name := "T_CHAR", type := .int, accessFlags := 25, slot := 12, constantValue := 0 }, { name := "T_FLOAT", type := .int, accessFlags := 25, slot := 13, constantValue := 0 }, { name := "T_DOUBLE", type := .int, accessFlags := 25, slot := 14, constantValue := 0 }, { name := "T_BYTE", type := .int, accessFlags := 25, slot := 15, constantValue := 0 }, { name := "T_SHORT", type := .int, accessFlags := 25, slot := 16, constantValue := 0 }, { name := "T_INT", type := .int, accessFlags := 25, slot := 17, constantValue := 0 }, { name := "T_LONG", type := .int, accessFlags := 25, slot := 18, constantValue := 0 }, { name := "JLA", type := (.object "jdk/internal/access/JavaLangAccess"), accessFlags := 26, slot := 19, constantValue := 0 }, { name := "SOFT_MAX_ARRAY_LENGTH", type := .int, accessFlags := 25, slot := 20, constantValue := 0 }]
  methods := #[k13m0]
  instanceTypes := #[]
  staticTypes := #[(.object "jdk/internal/misc/Unsafe"), .boolean, .int, .int, .int, .int, .int, .int, .int, .int, .int, .int, .int, .int, .int, .int, .int, .int, .int, (.object "jdk/internal/access/JavaLangAccess"), .int]
  resolved := Array.replicate 378 none
  statics := none }

def pool14 : Array CpInfo := pool [(1, u "java/lang/Cloneable"), (0, .class_ 1), (0, u "java/lang/Object"), (0, .class_ 3)] 3

/-- java/lang/Cloneable -/
def k14 : Class := { plain "java/lang/Cloneable" (some 0) with
  accessFlags := 1537
  interfaces := #[]
  cf := some (fileOf pool14 2 #[] #[] 1537 4 #[] #[])
  fields := #[]
  methods := #[]
  instanceTypes := #[]
  staticTypes := #[]
  resolved := Array.replicate 8 none
  statics := none }

/-- the primitive byte -/
def k15 : Class := { plain "byte" none with kind := .primitive 'B', accessFlags := 0x411 }
/-- [B -/
def k16 : Class := { plain "[B" (some 0) with kind := .array 15 .byte, interfaces := #[14, 2], accessFlags := 1041 }

/-- the primitive char -/
def k17 : Class := { plain "char" none with kind := .primitive 'C', accessFlags := 0x411 }
/-- [C -/
def k18 : Class := { plain "[C" (some 0) with kind := .array 17 .char, interfaces := #[14, 2], accessFlags := 1041 }

/-- the primitive int -/
def k19 : Class := { plain "int" none with kind := .primitive 'I', accessFlags := 0x411 }
/-- [I -/
def k20 : Class := { plain "[I" (some 0) with kind := .array 19 .int, interfaces := #[14, 2], accessFlags := 1041 }

def heap : Heap := #[{ cls := 7, slots := #[.long 0, .int 1, .null, .int 0, .null, .int 0, .int 0], vm := .statics 7 },
  { cls := 12, slots := #[.null, .null, .null], vm := .statics 12 }]
def classes : Array Class := #[k0, k1, k2, k3, k4, k5, k6, k7, k8, k9, k10, k11, k12, k13, k14, k15, k16, k17, k18, k19, k20]
def interned : List (Array UInt16 × Addr) := []
def slotsUsed : Nat := 10
def theMethod : MethodId := ⟨1, 4⟩
def args0 : Array Value := #[.int 5, .int 3, .int 5, .int 1, .int 4]
def aboutOver (below : List Frame) : State where
  vm := { classes := classes, interned := interned.toArray }
  heap := heap
  slotsUsed := slotsUsed
  threads := #[{ frames := .invoking theMethod args0 :: below }]
def below0 : List Frame := [.native { method := ⟨0, 0⟩, args := #[] }]
def about1 : State := aboutOver below0
def p0 : Program := .bare "" "" ""
def e0 : Env := launch0.env 0 0 0
theorem w_frames : about1.frames = Frame.invoking theMethod args0 :: below0 := rfl
set_option maxRecDepth 65536 in
theorem w_args : argsFit about1.vm theMethod args0 = true := by decide +kernel
set_option maxRecDepth 65536 in
theorem w_heap : heapFits about1 = true := by decide +kernel
set_option maxRecDepth 65536 in
theorem w_runnable : about1.curStatus? = some .runnable := by decide +kernel
set_option maxRecDepth 65536 in
theorem w_alone : about1.alone = true := by decide +kernel
set_option maxRecDepth 65536 in
theorem w_named : about1.methodNamed? x = some theMethod := by decide +kernel
set_option maxRecDepth 65536 in
theorem w_hears : about1.hears theMethod below0 = true := by decide +kernel
set_option maxRecDepth 65536 in
theorem w_ripe : about1.ripe theMethod args0 below0 = true := by decide +kernel
theorem w_running : about1.status = .running := rfl
set_option maxRecDepth 65536 in
theorem w_room : about1.hasRoom e0.platform room_1 = true :=
  launch0.hasRoom_least _ room_1 (by decide +kernel) (by decide +kernel) (by decide +kernel) (by decide +kernel) (by decide +kernel) (by decide +kernel)
theorem allAtoms_all (ts : List Jvm.Cond) (a : Array Jvm.Value) (st : Jvm.State) : (allAtoms ts).before a st = ts.all (fun c => c.before a st) := by
  induction ts with
  | nil => rfl
  | cons c t ih =>
    show (Jvm.Cond.and c (allAtoms t)).before a st = _
    rw [Jvm.Cond.before_and, ih, List.all_cons]
def words1 : List Jvm.Cond := Jvm.Cond.code x code maxLocals ret :: tables_1
/-- a 'code' word, met by the world's own term for the bytes: nothing is compared byte by byte -/
theorem code_word {y : MethodName} {bytes : ByteArray} {mx : Nat} {rt : Option FieldType} {a : Array Value} {s : State} {m : MethodId} {meth : Method} {c : Code} (h1 : s.methodNamed? y = some m) (h2 : s.vm.method? m = some meth) (h3 : meth.code = some c) (h4 : c.code = bytes)
    (h5 : (c.maxLocals == mx && c.exceptionTable.isEmpty && decide (c.maxStack ≤ mostOperands) && decide (meth.sig.returnType = rt) && !meth.locks && decide (parseMethodDescriptor y.desc = some meth.sig)) = true) : (Jvm.Cond.code y bytes mx rt).before a s = true := by
  simp only [Bool.and_eq_true, beq_iff_eq, Bool.not_eq_true', decide_eq_true_eq] at h5
  obtain ⟨⟨⟨⟨⟨g1, g2⟩, g3⟩, g4⟩, g5⟩, g6⟩ := h5
  simp [Cond.before, Cond.holds, Cond.value, h1, h2, h3, h4, g1, g2, g3, g4, g5, g6]
def isCode : Jvm.Cond → Bool
  | .code _ _ _ _ => true
  | _ => false
theorem all_split {L : List Jvm.Cond} {P : Jvm.Cond → Bool} (h1 : L.all (fun c => isCode c || P c) = true) (h2 : ∀ c ∈ L.filter isCode, P c = true) : L.all P = true := by
  refine List.all_eq_true.mpr fun c hc => ?_
  have h := List.all_eq_true.mp h1 c hc
  rcases Bool.eq_false_or_eq_true (isCode c) with hi | hi
  · exact h2 c (List.mem_filter.mpr ⟨hc, hi⟩)
  · simpa [hi] using h
set_option maxRecDepth 65536 in
theorem w_c0 : (Jvm.Cond.code x code maxLocals ret).before args0 about1 = true := code_word (m := ⟨1, 4⟩) (meth := k1m4) (c := k1c4) (by decide +kernel) rfl rfl rfl (by decide +kernel)
set_option maxRecDepth 65536 in
theorem w_c1 : (Jvm.Cond.code ({ cls := "com/example/slim_mapper/slimmapper/mapping/EnumConstantEqualsPinLaw", name := "chars", desc := "(I)[C" } : Jvm.MethodName) method_3_code (4 : Nat) (Option.some (Jvm.ClassFile.FieldType.array Jvm.ClassFile.FieldType.char))).before args0 about1 = true := code_word (m := ⟨1, 2⟩) (meth := k1m2) (c := k1c2) (by decide +kernel) rfl rfl rfl (by decide +kernel)
set_option maxRecDepth 65536 in
theorem w_c2 : (Jvm.Cond.code ({ cls := "com/example/slim_mapper/slimmapper/mapping/EnumConstantEqualsPinLaw", name := "len", desc := "(I)I" } : Jvm.MethodName) method_2_code (1 : Nat) (Option.some Jvm.ClassFile.FieldType.int)).before args0 about1 = true := code_word (m := ⟨1, 1⟩) (meth := k1m1) (c := k1c1) (by decide +kernel) rfl rfl rfl (by decide +kernel)
set_option maxRecDepth 65536 in
theorem w_c3 : (Jvm.Cond.code ({ cls := "java/lang/String", name := "<init>", desc := "([C)V" } : Jvm.MethodName) jdk_42_method_3_code (2 : Nat) (Option.none : Option Jvm.ClassFile.FieldType)).before args0 about1 = true := code_word (m := ⟨7, 1⟩) (meth := k7m1) (c := k7c1) (by decide +kernel) rfl rfl rfl (by decide +kernel)
set_option maxRecDepth 65536 in
theorem w_c4 : (Jvm.Cond.code ({ cls := "java/lang/String", name := "<init>", desc := "([CIILjava/lang/Void;)V" } : Jvm.MethodName) jdk_42_method_149_code (6 : Nat) (Option.none : Option Jvm.ClassFile.FieldType)).before args0 about1 = true := code_word (m := ⟨7, 3⟩) (meth := k7m3) (c := k7c3) (by decide +kernel) rfl rfl rfl (by decide +kernel)
set_option maxRecDepth 65536 in
theorem w_c5 : (Jvm.Cond.code ({ cls := "java/lang/Object", name := "<init>", desc := "()V" } : Jvm.MethodName) object_method_1_code (1 : Nat) (Option.none : Option Jvm.ClassFile.FieldType)).before args0 about1 = true := code_word (m := ⟨0, 0⟩) (meth := k0m0) (c := k0c0) (by decide +kernel) rfl rfl rfl (by decide +kernel)
set_option maxRecDepth 65536 in
theorem w_c6 : (Jvm.Cond.code ({ cls := "com/example/slim_mapper/slimmapper/mapping/ClassFile$EnumConstant", name := "<init>", desc := "(Ljava/lang/String;Ljava/lang/String;)V" } : Jvm.MethodName) prog_26_method_1_code (3 : Nat) (Option.none : Option Jvm.ClassFile.FieldType)).before args0 about1 = true := code_word (m := ⟨8, 0⟩) (meth := k8m0) (c := k8c0) (by decide +kernel) rfl rfl rfl (by decide +kernel)
set_option maxRecDepth 65536 in
theorem w_c7 : (Jvm.Cond.code ({ cls := "com/example/slim_mapper/slimmapper/mapping/EnumConstantEqualsPinLaw", name := "sameDrawn", desc := "(II)Z" } : Jvm.MethodName) method_4_code (3 : Nat) (Option.some Jvm.ClassFile.FieldType.boolean)).before args0 about1 = true := code_word (m := ⟨1, 3⟩) (meth := k1m3) (c := k1c3) (by decide +kernel) rfl rfl rfl (by decide +kernel)
set_option maxRecDepth 65536 in
theorem w_c8 : (Jvm.Cond.code ({ cls := "com/example/slim_mapper/slimmapper/mapping/ClassFile$EnumConstant", name := "equals", desc := "(Ljava/lang/Object;)Z" } : Jvm.MethodName) prog_26_method_3_code (3 : Nat) (Option.some Jvm.ClassFile.FieldType.boolean)).before args0 about1 = true := code_word (m := ⟨8, 1⟩) (meth := k8m1) (c := k8c1) (by decide +kernel) rfl rfl rfl (by decide +kernel)
set_option maxRecDepth 65536 in
theorem w_c9 : (Jvm.Cond.code ({ cls := "java/lang/String", name := "equals", desc := "(Ljava/lang/Object;)Z" } : Jvm.MethodName) jdk_42_method_66_code (3 : Nat) (Option.some Jvm.ClassFile.FieldType.boolean)).before args0 about1 = true := code_word (m := ⟨7, 2⟩) (meth := k7m2) (c := k7c2) (by decide +kernel) rfl rfl rfl (by decide +kernel)
set_option maxRecDepth 65536 in
theorem w_c10 : (Jvm.Cond.code ({ cls := "java/lang/StringLatin1", name := "equals", desc := "([B[B)Z" } : Jvm.MethodName) jdk_43_method_13_code (3 : Nat) (Option.some Jvm.ClassFile.FieldType.boolean)).before args0 about1 = true := code_word (m := ⟨9, 1⟩) (meth := k9m1) (c := k9c1) (by decide +kernel) rfl rfl rfl (by decide +kernel)
set_option maxRecDepth 65536 in
theorem w_c11 : (Jvm.Cond.code ({ cls := "java/lang/StringUTF16", name := "compress", desc := "([CII)[B" } : Jvm.MethodName) jdk_52_method_16_code (6 : Nat) (Option.some (Jvm.ClassFile.FieldType.array Jvm.ClassFile.FieldType.byte))).before args0 about1 = true := code_word (m := ⟨10, 2⟩) (meth := k10m2) (c := k10c2) (by decide +kernel) rfl rfl rfl (by decide +kernel)
set_option maxRecDepth 65536 in
theorem w_c12 : (Jvm.Cond.code ({ cls := "java/lang/StringUTF16", name := "compress", desc := "([CI[BII)I" } : Jvm.MethodName) jdk_52_method_21_code (7 : Nat) (Option.some Jvm.ClassFile.FieldType.int)).before args0 about1 = true := code_word (m := ⟨10, 3⟩) (meth := k10m3) (c := k10c3) (by decide +kernel) rfl rfl rfl (by decide +kernel)
set_option maxRecDepth 65536 in
theorem w_c13 : (Jvm.Cond.code ({ cls := "java/lang/StringUTF16", name := "coderFromArrayLen", desc := "([BI)B" } : Jvm.MethodName) jdk_52_method_15_code (2 : Nat) (Option.some Jvm.ClassFile.FieldType.byte)).before args0 about1 = true := code_word (m := ⟨10, 1⟩) (meth := k10m1) (c := k10c1) (by decide +kernel) rfl rfl rfl (by decide +kernel)
set_option maxRecDepth 65536 in
theorem w_c14 : (Jvm.Cond.code ({ cls := "com/example/slim_mapper/slimmapper/mapping/ClassFile$ClassLiteral", name := "<init>", desc := "(Ljava/lang/String;)V" } : Jvm.MethodName) prog_24_method_1_code (2 : Nat) (Option.none : Option Jvm.ClassFile.FieldType)).before args0 about1 = true := code_word (m := ⟨11, 0⟩) (meth := k11m0) (c := k11c0) (by decide +kernel) rfl rfl rfl (by decide +kernel)
def codes1 : List Jvm.Cond := [Jvm.Cond.code x code maxLocals ret, Jvm.Cond.code ({ cls := "com/example/slim_mapper/slimmapper/mapping/EnumConstantEqualsPinLaw", name := "chars", desc := "(I)[C" } : Jvm.MethodName) method_3_code (4 : Nat) (Option.some (Jvm.ClassFile.FieldType.array Jvm.ClassFile.FieldType.char)), Jvm.Cond.code ({ cls := "com/example/slim_mapper/slimmapper/mapping/EnumConstantEqualsPinLaw", name := "len", desc := "(I)I" } : Jvm.MethodName) method_2_code (1 : Nat) (Option.some Jvm.ClassFile.FieldType.int), Jvm.Cond.code ({ cls := "java/lang/String", name := "<init>", desc := "([C)V" } : Jvm.MethodName) jdk_42_method_3_code (2 : Nat) (Option.none : Option Jvm.ClassFile.FieldType), Jvm.Cond.code ({ cls := "java/lang/String", name := "<init>", desc := "([CIILjava/lang/Void;)V" } : Jvm.MethodName) jdk_42_method_149_code (6 : Nat) (Option.none : Option Jvm.ClassFile.FieldType), Jvm.Cond.code ({ cls := "java/lang/Object", name := "<init>", desc := "()V" } : Jvm.MethodName) object_method_1_code (1 : Nat) (Option.none : Option Jvm.ClassFile.FieldType), Jvm.Cond.code ({ cls := "com/example/slim_mapper/slimmapper/mapping/ClassFile$EnumConstant", name := "<init>", desc := "(Ljava/lang/String;Ljava/lang/String;)V" } : Jvm.MethodName) prog_26_method_1_code (3 : Nat) (Option.none : Option Jvm.ClassFile.FieldType), Jvm.Cond.code ({ cls := "com/example/slim_mapper/slimmapper/mapping/EnumConstantEqualsPinLaw", name := "sameDrawn", desc := "(II)Z" } : Jvm.MethodName) method_4_code (3 : Nat) (Option.some Jvm.ClassFile.FieldType.boolean), Jvm.Cond.code ({ cls := "com/example/slim_mapper/slimmapper/mapping/ClassFile$EnumConstant", name := "equals", desc := "(Ljava/lang/Object;)Z" } : Jvm.MethodName) prog_26_method_3_code (3 : Nat) (Option.some Jvm.ClassFile.FieldType.boolean), Jvm.Cond.code ({ cls := "java/lang/String", name := "equals", desc := "(Ljava/lang/Object;)Z" } : Jvm.MethodName) jdk_42_method_66_code (3 : Nat) (Option.some Jvm.ClassFile.FieldType.boolean), Jvm.Cond.code ({ cls := "java/lang/StringLatin1", name := "equals", desc := "([B[B)Z" } : Jvm.MethodName) jdk_43_method_13_code (3 : Nat) (Option.some Jvm.ClassFile.FieldType.boolean), Jvm.Cond.code ({ cls := "java/lang/StringUTF16", name := "compress", desc := "([CII)[B" } : Jvm.MethodName) jdk_52_method_16_code (6 : Nat) (Option.some (Jvm.ClassFile.FieldType.array Jvm.ClassFile.FieldType.byte)), Jvm.Cond.code ({ cls := "java/lang/StringUTF16", name := "compress", desc := "([CI[BII)I" } : Jvm.MethodName) jdk_52_method_21_code (7 : Nat) (Option.some Jvm.ClassFile.FieldType.int), Jvm.Cond.code ({ cls := "java/lang/StringUTF16", name := "coderFromArrayLen", desc := "([BI)B" } : Jvm.MethodName) jdk_52_method_15_code (2 : Nat) (Option.some Jvm.ClassFile.FieldType.byte), Jvm.Cond.code ({ cls := "com/example/slim_mapper/slimmapper/mapping/ClassFile$ClassLiteral", name := "<init>", desc := "(Ljava/lang/String;)V" } : Jvm.MethodName) prog_24_method_1_code (2 : Nat) (Option.none : Option Jvm.ClassFile.FieldType)]
set_option maxRecDepth 65536 in
theorem codes_eq : words1.filter isCode = codes1 := rfl
theorem w_codes : ∀ c ∈ words1.filter isCode, c.before args0 about1 = true := by
  rw [codes_eq]
  intro c hc
  simp only [codes1, List.mem_cons, List.not_mem_nil, or_false] at hc
  rcases hc with rfl | rfl | rfl | rfl | rfl | rfl | rfl | rfl | rfl | rfl | rfl | rfl | rfl | rfl | rfl
  · exact w_c0
  · exact w_c1
  · exact w_c2
  · exact w_c3
  · exact w_c4
  · exact w_c5
  · exact w_c6
  · exact w_c7
  · exact w_c8
  · exact w_c9
  · exact w_c10
  · exact w_c11
  · exact w_c12
  · exact w_c13
  · exact w_c14
set_option maxRecDepth 65536 in
theorem w_t1 : (words1.take 24).all (fun c => isCode c || c.before args0 about1) = true := by decide +kernel
set_option maxRecDepth 65536 in
theorem w_t2 : ((words1.drop 24).take 24).all (fun c => isCode c || c.before args0 about1) = true := by decide +kernel
set_option maxRecDepth 65536 in
theorem w_t3 : (((words1.drop 24).drop 24).take 24).all (fun c => isCode c || c.before args0 about1) = true := by decide +kernel
set_option maxRecDepth 65536 in
theorem w_t4 : (((words1.drop 24).drop 24).drop 24).all (fun c => isCode c || c.before args0 about1) = true := by decide +kernel
theorem w_tables : (allAtoms (Jvm.Cond.code x code maxLocals ret :: tables_1)).before args0 about1 = true := by
  rw [allAtoms_all]
  show words1.all (fun c => c.before args0 about1) = true
  refine all_split ?_ w_codes
  rw [← List.take_append_drop 24 words1, List.all_append, w_t1, ← List.take_append_drop 24 (words1.drop 24), List.all_append, w_t2, ← List.take_append_drop 24 ((words1.drop 24).drop 24), List.all_append, w_t3, w_t4]
  rfl
set_option maxRecDepth 65536 in
theorem w_rest : rest_1_c.before args0 about1 = true := by decide +kernel
set_option maxRecDepth 65536 in
theorem w_case : (Jvm.Cond.and given_1 narrow_1).before args0 about1 = true := by decide +kernel
set_option maxRecDepth 65536 in
theorem w_consts : constsHeld consts_1 about1 := Jvm.Lit.constsHeldB_iff.mp (by decide +kernel)
theorem w_applies : (headSpec (Jvm.Cond.code x code maxLocals ret :: tables_1) room_1).applies x e0.platform about1 = true :=
  (Spec.applies_iff w_frames).mpr ⟨w_running, w_runnable, w_alone, w_named, w_hears, w_ripe, w_room, w_tables⟩
theorem atStart : AtStart classFile x code maxLocals ret World_1 tables_1 room_1 Calls_1 rest_1 Pre_1 launch0 p0 e0 about1 theMethod args0 below0 :=
  ⟨lists_1, trivial, launch0.admits_env _ _ _, launch0.least_env, fairChoices_fair.cas, fairChoices_fair.clock, w_frames, w_args, w_heap, w_applies, ⟨w_consts, trivial⟩, w_rest, w_case⟩
end start1
theorem witness_1 : WitnessClaimed_1 := ⟨start1.p0, start1.e0, start1.about1, start1.theMethod, start1.args0, start1.below0, start1.atStart⟩
end Jvm.Pilot.@@N@@
