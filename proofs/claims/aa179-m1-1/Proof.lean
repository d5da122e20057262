import JvmDerived
import JvmDerived.Pilot.@@N@@Statement
import JvmDerived.Pilot.@@N@@Code
set_option linter.unusedVariables false
set_option linter.unusedSimpArgs false
namespace Jvm.RoadKit
open Sem ClassFile Op Lib Jvm.Stand Jvm.Free Jvm.LawKit
section New
variable {p : Program} {l : Launch} {e : Env} {R : Room} {s : State} {m : MethodId} {args : Array Value} {below : List Frame} {meth : Method} {c : Code} {T : State} {locs : List Loc} {cells slots : Nat}
theorem retI (X : Stand p l e R s m args below meth c T locs cells slots) (hx : p.tables.exec = Jvm.exec) {pc : Nat} {Ls : Array Slot} {z : Int32} {rest : List Value} (hret : meth.sig.returnType = some .int) (hd : decode c.code pc = .ok (.ireturn, 1)) {fs : List Frame}
    (hl : ∀ (f : JFrame) (acts : List Action), f.method = m → f.locked = none → f.entered = [] → (doReturn e (T.setTop f) acts (some (.int z))).1 = T.setFrames fs) : Steps p.tables e below (T.setTop (mkF m pc Ls (.int z :: rest))) (T.setFrames fs) := by
  have hm' : T.vm.method? m = some meth := X.method'
  have hn : narrow .int (.int z) = .int z := rfl
  show Steps p.tables e below (T.setTop { method := m, pc := pc, locals := Ls, stack := _ :: rest, locked := none }) _
  jvm_step X.here [X.here.top, hx, hd, hm', hret, hn]
  first | (intro acts; rw [hl _ acts rfl rfl rfl]) | rw [hl _ _ rfl rfl rfl]
  exact Steps.refl _
end New
end Jvm.RoadKit
namespace Jvm.Pilot.@@N@@
open Jvm Jvm.ClassFile Sem Op Lib Jvm.Free Jvm.Stand Jvm.LawKit Jvm.RoadKit Bundle Jvm.Pilot.@@N@@.Jvm.D
-- OWN CORE: a calculus of runs over the library's Stand (lawnew's family)
abbrev OCtx := Program × Launch × Env × State × MethodId × Array Value × List Frame × Method × Code
def OCtx.p (C : OCtx) : Program := C.1
def OCtx.l (C : OCtx) : Launch := C.2.1
def OCtx.e (C : OCtx) : Env := C.2.2.1
def OCtx.s (C : OCtx) : State := C.2.2.2.1
def OCtx.m (C : OCtx) : MethodId := C.2.2.2.2.1
def OCtx.args (C : OCtx) : Array Value := C.2.2.2.2.2.1
def OCtx.below (C : OCtx) : List Frame := C.2.2.2.2.2.2.1
def OCtx.meth (C : OCtx) : Method := C.2.2.2.2.2.2.2.1
def OCtx.c (C : OCtx) : Code := C.2.2.2.2.2.2.2.2
-- a body: its class, bytes, locals, return type, name, room
abbrev OInfo := String × ByteArray × Nat × Option FieldType × String × Room
abbrev OInfo.own (I : OInfo) : String := I.1
abbrev OInfo.bytes (I : OInfo) : ByteArray := I.2.1
abbrev OInfo.ml (I : OInfo) : Nat := I.2.2.1
abbrev OInfo.ret (I : OInfo) : Option FieldType := I.2.2.2.1
abbrev OInfo.mn (I : OInfo) : String := I.2.2.2.2.1
abbrev OInfo.R (I : OInfo) : Room := I.2.2.2.2.2
-- where a run stands
def oK (C : OCtx) (s0 : State) (Z : State) (n0 : Nat) (I : OInfo) (T : State) (locs : List Loc) (cs sl : Nat) (h : Heap) : Prop :=
  Stand C.p C.l C.e I.R s0 C.m C.args C.below C.meth C.c T locs cs sl ∧ C.p.tables.exec = Jvm.exec ∧ Z.Warmed39 s0.vm ∧ s0.vm.findClass I.own = some C.m.cls ∧ C.c.code = I.bytes ∧ C.c.maxLocals = I.ml ∧
  C.meth.sig.returnType = I.ret ∧ C.meth.name = I.mn ∧ C.meth.locks = false ∧ T.heap = h ∧ Fr n0 locs ∧ Old Z n0 h
theorem o_fresh {a b : Addr} {h : Heap} (q : a < h.size) (g : b = h.size) : a ≠ b := fun e => by subst e; rw [g] at q; exact Nat.lt_irrefl _ q
theorem o_fresh' {a b : Addr} {n : Nat} (q : a < n) (g : n ≤ b) : a ≠ b := fun e => by subst e; exact Nat.lt_irrefl _ (Nat.lt_of_lt_of_le q g)
theorem o_le {Z : State} {n0 : Nat} {h : Heap} (O : Old Z n0 h) : n0 ≤ h.size := O.1 ▸ O.2.1
-- what goes along: the tables' literals say their texts; ws: cells that no literal holds
def wX (C : OCtx) (Z : State) (EL : List (String × Nat)) (ws : List Addr) (vm0 : Vm) (h : Heap) : Prop := (∃ a0, EW Z a0 EL) ∧ (∃ k0, C.s.Since vm0 k0 ∧ k0 ≤ h.size) ∧ CHr Z EL C.s.vm C.s.heap vm0 h ∧ ∀ x ∈ ws, Safe Z EL vm0 h x ∧ x < h.size
def oRun (C : OCtx) (Z : State) (n0 : Nat) (I : OInfo) (EL : List (String × Nat)) (ws : List Addr) (Q : Option Value → Heap → Prop) (h : Heap) (cs sl : Nat) (g : JFrame) : Prop :=
  ∀ vm0 T locs, oK C (C.s.setVm vm0) Z n0 I T locs cs sl h → wX C Z EL ws vm0 h → ∃ t o, Steps C.p.tables C.e C.below (T.setTop g) t ∧ t.status = .running ∧ Ended t C.below o ∧ (∃ v L, o = .returned v ∧ (Fr n0 L ∧ Old Z n0 t.heap ∧ Q v t.heap) ∧ CHr Z EL C.s.vm C.s.heap t.vm t.heap ∧ ReturnedEndW C.s o t L I.R.cells I.R.slots)
def oCon (l : Launch) (Z : State) (n0 : Nat) (EL : List (String × Nat)) (ws : List Addr) (y : MethodName) (I : OInfo) (as' : Array Value) (h0 : Heap) (Q : Option Value → Heap → Prop) : Prop :=
  Old Z n0 h0 → ∀ wc, MetFree l y (head1 (Jvm.Cond.code y I.bytes I.ml I.ret :: wc) I.R) (fun a U => a = as' ∧ Z.Warmed39 U.vm ∧ U.heap = h0 ∧ CHv Z EL U.vm h0 ∧ ∀ x ∈ ws, Safe Z EL U.vm h0 x ∧ x < h0.size) (fun _ _ _ _ _ => True)
    (fun _ U o U' => ∃ v L, o = .returned v ∧ (Fr n0 L ∧ Old Z n0 U'.heap ∧ Q v U'.heap) ∧ CHr Z EL U.vm U.heap U'.vm U'.heap ∧ ReturnedEndW U o U' L I.R.cells I.R.slots)
theorem oCon.mk {l : Launch} {Z : State} {n0 : Nat} {EL : List (String × Nat)} {ws : List Addr} {y : MethodName} {I : OInfo} {as' : Array Value} {h0 : Heap} {Q : Option Value → Heap → Prop} {a0 : Array Value} (hEL : EW Z a0 EL) (hp : plainFor y = true) (hy1 : y.cls = I.own) (hy2 : y.name = I.mn) {Ls : Array Slot} (ef : ∀ m, entryFrame m as' I.ml = mkF m 0 Ls [])
    (body : ∀ C : OCtx, C.l = l → oRun C Z n0 I EL ws Q h0 0 0 (mkF C.m 0 Ls [])) : oCon l Z n0 EL ws y I as' h0 Q := by
  intro hn wc
  refine MetFree.of_bodySF hp hisR ?_
  intro p e s m args below meth c s₁ Bd hml0 hP hK
  obtain ⟨rfl, hZ, hh, hC, hS⟩ := hP
  have hown : s.vm.findClass I.own = some m.cls := by rw [← hy1]; exact findClass_of_methodNamed Bd.named
  have hnm : meth.name = I.mn := by rw [← hy2]; exact (name_of_methodNamed Bd.named Bd.method).1
  have e0 : s₁.heap = h0 := by rw [← hh, Bd.state]; rfl
  have X0 : Stand p l e I.R s m args below meth c s₁ [] 0 0 := Stand.of_body Bd
  subst hh
  have r := body (p, l, e, s, m, args, below, meth, c) rfl s.vm s₁ [] ⟨X0, Bd.exec, hZ, hown, Bd.bytes, hml0, Bd.returns, hnm, Bd.notSynchronized, e0, Fr.nil n0, hn⟩ ⟨⟨a0, hEL⟩, ⟨0, (State.WarmedH.refl s).since 0, Nat.zero_le _⟩, CHr.refl hC, hS⟩
  obtain ⟨t, o, h1, h2, h3, h4⟩ := r
  refine ⟨t, o, castTop (ef m) h1, h2, h3, h4⟩
theorem wX.step {C : OCtx} {Z : State} {EL : List (String × Nat)} {ws : List Addr} {vm0 vm1 : Vm} {h h' : Heap} (V : wX C Z EL ws vm0 h) (R : CHr Z EL vm0 h vm1 h') (S : ∃ k0, C.s.Since vm1 k0 ∧ k0 ≤ h'.size) : wX C Z EL ws vm1 h' :=
  ⟨V.1, S, V.2.2.1.trans R, fun x hx => ⟨R.safe (V.2.2.2 x hx).2 (V.2.2.2 x hx).1, Nat.lt_of_lt_of_le (V.2.2.2 x hx).2 R.2.1⟩⟩
theorem wX.move {C : OCtx} {Z : State} {EL : List (String × Nat)} {ws : List Addr} {vm0 : Vm} {h h' : Heap} (V : wX C Z EL ws vm0 h) (R : CHr Z EL vm0 h vm0 h') : wX C Z EL ws vm0 h' := by
  obtain ⟨k0, q1, q2⟩ := V.2.1
  exact V.step R ⟨k0, q1, Nat.le_trans q2 R.2.1⟩
theorem wX.wr {C : OCtx} {Z : State} {EL : List (String × Nat)} {ws : List Addr} {vm0 : Vm} {h h' : Heap} {a : Addr} {sl : Nat} {v : Value} (V : wX C Z EL ws vm0 h) (W : Wr h h' a sl v) (hs : a ∈ ws) : wX C Z EL ws vm0 h' := V.move (CHr.wr W (V.2.2.2 a hs).1 V.2.2.1.1)
theorem wX.ext {C : OCtx} {Z : State} {EL : List (String × Nat)} {ws : List Addr} {vm0 : Vm} {h h' : Heap} (V : wX C Z EL ws vm0 h) (E : Ext h h') : wX C Z EL ws vm0 h' := V.move (CHr.ext E V.2.2.1.1)
theorem wX.new {C : OCtx} {Z : State} {EL : List (String × Nat)} {ws : List Addr} {vm0 : Vm} {h h' : Heap} {a : Addr} (V : wX C Z EL ws vm0 h) (E : Ext h h') (ha : a = h.size) (hlt : a < h'.size) : wX C Z EL (a :: ws) vm0 h' := by
  have V' := V.ext E
  refine ⟨V'.1, V'.2.1, V'.2.2.1, fun x hx => ?_⟩
  rcases List.mem_cons.mp hx with rfl | hx
  · exact ⟨Safe.ext E V.2.2.1.1 (Safe.new (Nat.le_of_eq ha.symm)), hlt⟩
  · exact V'.2.2.2 x hx
theorem wX.sub {C : OCtx} {Z : State} {EL : List (String × Nat)} {ws ws' : List Addr} {vm0 : Vm} {h : Heap} (V : wX C Z EL ws vm0 h) (q : ∀ x ∈ ws', x ∈ ws) : wX C Z EL ws' vm0 h := ⟨V.1, V.2.1, V.2.2.1, fun x hx => V.2.2.2 x (q x hx)⟩
-- a callee's contract pays a call (over the library's BackS.of_freeW)
theorem o_back {p : Program} {l : Launch} {e : Env} {R : Room} {s : State} {args : Array Value} {below : List Frame} {Z : State} {a0 : Array Value} {EL : List (String × Nat)} {ws : List Addr} {h : Heap} {vm0 : Vm} {n0 : Nat} {y : MethodName} {J : OInfo} {W : Nat} {as' : Array Value} {Q : Option Value → Heap → Prop}
    (hM : oCon l Z n0 EL ws y J as' h Q) (hn : Old Z n0 h) (hZ : Z.Warmed39 vm0) (wc : (Jvm.Cond.code y J.bytes J.ml J.ret).before a0 Z = true) (wz : (Jvm.Cond.initialized y.cls).before a0 Z = true) (hf : J.R.frames + 1 ≤ R.frames) (hl : W + (J.ml + 11) + J.R.locals ≤ R.locals) {a1 : Array Value} (hEL : EW Z a1 EL) (H : CHv Z EL vm0 h) (hS : ∀ x ∈ ws, Safe Z EL vm0 h x ∧ x < h.size) {len : Nat} :
    BackS l R p e below (s.setVm vm0) args y len W (fun A a => a = as' ∧ A.U.heap = h ∧ A.cells + J.R.cells ≤ R.cells ∧ A.slots + J.R.slots ≤ R.slots)
      (fun A _ v B => ∃ L, (Fr n0 L ∧ Old Z n0 B.U.heap ∧ Q v B.U.heap) ∧ B.locs = A.locs ++ L ∧ B.cells = A.cells + J.R.cells ∧ B.slots = A.slots + J.R.slots ∧ CHr Z EL vm0 h B.U.vm B.U.heap) :=
  BackS.of_freeW (bytes := J.bytes) (maxL := J.ml) (ret := J.ret) (E := fun _ first o t L k n => k = J.R.cells ∧ n = J.R.slots ∧ (∃ v, o = .returned v ∧ (Fr n0 L ∧ Old Z n0 t.heap ∧ Q v t.heap)) ∧ CHr Z EL first.vm first.heap t.vm t.heap) (hM hn []) hf hl
    (fun m meth c A a Y hp => by
      have hU : Z.Warmed39 A.U.vm := wtrans (s := s.setVm vm0) hZ Y.warmed
      refine ⟨?_, mv hU wc, mv hU wz, hp.2.2.1, hp.2.2.2⟩
      show (Jvm.Cond.and _ .tt).before a A.U = true
      rw [Cond.before_and, mv hU wc]; rfl)
    (fun m meth c A a g mk Y hp => ⟨hp.1, wtrans (s := s.setVm vm0) hZ Y.warmed, hp.2.1, (CHv.at Y hZ hEL H).1, fun x hx => ⟨(CHv.at Y hZ hEL H).safe (hS x hx).2 (hS x hx).1, (hS x hx).2⟩⟩) (fun _ _ _ _ _ _ _ _ _ => trivial)
    (fun _ _ _ _ q => by obtain ⟨v, L, h1, h2, h3, h4⟩ := q; exact ⟨L, _, _, h4, rfl, rfl, ⟨v, h1, h2⟩, h3⟩)
    (fun m meth c A a g mk v t L k n Y hp _ _ q => by
      obtain ⟨e1, e2, ⟨v', e3, e4⟩, e5⟩ := q
      cases e3; subst e1 e2
      refine ⟨L, e4, rfl, rfl, rfl, (CHv.at Y hZ hEL H).trans ?_⟩
      rw [← hp.2.1]; exact e5)
section OwnCore
variable {C : OCtx} {Z : State} {n0 : Nat} {I : OInfo} {EL : List (String × Nat)} {ws : List Addr} {Q : Option Value → Heap → Prop} {h : Heap} {cs sl pc pc' : Nat} {L : Array Slot} {S : List Value} {x y : Int32}
theorem oStep {g g' : JFrame} (st : ∀ {s0 : State} T locs, oK C s0 Z n0 I T locs cs sl h → ∀ t, Steps C.p.tables C.e C.below (T.setTop g') t → Steps C.p.tables C.e C.below (T.setTop g) t) (r : oRun C Z n0 I EL ws Q h cs sl g') : oRun C Z n0 I EL ws Q h cs sl g := by
  intro vm0 T locs K V
  obtain ⟨t, o, h1, h2⟩ := r vm0 T locs K V
  exact ⟨t, o, st T locs K t h1, h2⟩
theorem oMove {g g' : JFrame} (st : ∀ {s0 : State} T locs, oK C s0 Z n0 I T locs cs sl h → ∃ T' locs', oK C s0 Z n0 I T' locs' cs sl h ∧ ∀ t, Steps C.p.tables C.e C.below (T'.setTop g') t → Steps C.p.tables C.e C.below (T.setTop g) t) (r : oRun C Z n0 I EL ws Q h cs sl g') : oRun C Z n0 I EL ws Q h cs sl g := by
  intro vm0 T locs K V
  obtain ⟨T', locs', K', st'⟩ := st T locs K
  obtain ⟨t, o, h1, h2⟩ := r vm0 T' locs' K' V
  exact ⟨t, o, st' t h1, h2⟩
theorem s_aloadN {k : Fin 4} {v : Value} (hd : decode I.bytes pc = .ok (.aload_n k, 1)) (hq : pc + 1 = pc') (hl : L[k.val]? = some (.val v)) (hv : v.isRef = true) (r : oRun C Z n0 I EL ws Q h cs sl (mkF C.m pc' L (v :: S))) : oRun C Z n0 I EL ws Q h cs sl (mkF C.m pc L S) := by
  subst hq; exact oStep (fun T locs K t kt => XS.aloadN K.1.here K.2.1 rfl (hb K.2.2.2.2.1 hd) hl hv kt) r
theorem s_aload {k : Nat} {v : Value} (hd : decode I.bytes pc = .ok (.aload k, 2)) (hq : pc + 2 = pc') (hl : L[k]? = some (.val v)) (hv : v.isRef = true) (r : oRun C Z n0 I EL ws Q h cs sl (mkF C.m pc' L (v :: S))) : oRun C Z n0 I EL ws Q h cs sl (mkF C.m pc L S) := by
  subst hq; exact oStep (fun T locs K t kt => XS.aload K.1.here K.2.1 rfl (hb K.2.2.2.2.1 hd) hl hv kt) r
theorem s_iloadN {k : Fin 4} (hd : decode I.bytes pc = .ok (.iload_n k, 1)) (hq : pc + 1 = pc') (hl : L[k.val]? = some (.val (.int x))) (r : oRun C Z n0 I EL ws Q h cs sl (mkF C.m pc' L (.int x :: S))) : oRun C Z n0 I EL ws Q h cs sl (mkF C.m pc L S) := by
  subst hq; exact oStep (fun T locs K t kt => XS.iloadN K.1.here K.2.1 rfl (hb K.2.2.2.2.1 hd) hl kt) r
theorem s_iload {k : Nat} (hd : decode I.bytes pc = .ok (.iload k, 2)) (hq : pc + 2 = pc') (hl : L[k]? = some (.val (.int x))) (r : oRun C Z n0 I EL ws Q h cs sl (mkF C.m pc' L (.int x :: S))) : oRun C Z n0 I EL ws Q h cs sl (mkF C.m pc L S) := by
  subst hq; exact oStep (fun T locs K t kt => XS.iload K.1.here K.2.1 rfl (hb K.2.2.2.2.1 hd) hl kt) r
theorem s_iconst {i : Int} (hd : decode I.bytes pc = .ok (.iconst i, 1)) (hq : pc + 1 = pc') (hx : Int32.ofInt i = x) (r : oRun C Z n0 I EL ws Q h cs sl (mkF C.m pc' L (.int x :: S))) : oRun C Z n0 I EL ws Q h cs sl (mkF C.m pc L S) := by
  subst hq hx; exact oStep (fun T locs K t kt => XS.iconst K.1.here K.2.1 rfl (hb K.2.2.2.2.1 hd) kt) r
theorem s_bipush {i : Int} (hd : decode I.bytes pc = .ok (.bipush i, 2)) (hq : pc + 2 = pc') (hx : (Int8.ofInt i).toInt32 = x) (r : oRun C Z n0 I EL ws Q h cs sl (mkF C.m pc' L (.int x :: S))) : oRun C Z n0 I EL ws Q h cs sl (mkF C.m pc L S) := by
  subst hq hx; exact oStep (fun T locs K t kt => XS.bipush K.1.here K.2.1 rfl (hb K.2.2.2.2.1 hd) kt) r
theorem s_sipush {i : Int} (hd : decode I.bytes pc = .ok (.sipush i, 3)) (hq : pc + 3 = pc') (hx : (Int16.ofInt i).toInt32 = x) (r : oRun C Z n0 I EL ws Q h cs sl (mkF C.m pc' L (.int x :: S))) : oRun C Z n0 I EL ws Q h cs sl (mkF C.m pc L S) := by
  subst hq hx; exact oStep (fun T locs K t kt => XS.sipush K.1.here K.2.1 rfl (hb K.2.2.2.2.1 hd) kt) r
theorem s_null (hd : decode I.bytes pc = .ok (.aconst_null, 1)) (hq : pc + 1 = pc') (r : oRun C Z n0 I EL ws Q h cs sl (mkF C.m pc' L (.null :: S))) : oRun C Z n0 I EL ws Q h cs sl (mkF C.m pc L S) := by
  subst hq; exact oStep (fun T locs K t kt => XS.aconstNull K.1.here K.2.1 rfl (hb K.2.2.2.2.1 hd) kt) r
theorem s_iadd (hd : decode I.bytes pc = .ok (.iadd, 1)) (hq : pc + 1 = pc') (r : oRun C Z n0 I EL ws Q h cs sl (mkF C.m pc' L (.int (x + y) :: S))) : oRun C Z n0 I EL ws Q h cs sl (mkF C.m pc L (.int y :: .int x :: S)) := by
  subst hq; exact oStep (fun T locs K t kt => XS.iadd K.1.here K.2.1 rfl (hb K.2.2.2.2.1 hd) rfl kt) r
theorem s_isub (hd : decode I.bytes pc = .ok (.isub, 1)) (hq : pc + 1 = pc') (r : oRun C Z n0 I EL ws Q h cs sl (mkF C.m pc' L (.int (x - y) :: S))) : oRun C Z n0 I EL ws Q h cs sl (mkF C.m pc L (.int y :: .int x :: S)) := by
  subst hq; exact oStep (fun T locs K t kt => XS.isub K.1.here K.2.1 rfl (hb K.2.2.2.2.1 hd) rfl kt) r
theorem s_imul (hd : decode I.bytes pc = .ok (.imul, 1)) (hq : pc + 1 = pc') (r : oRun C Z n0 I EL ws Q h cs sl (mkF C.m pc' L (.int (x * y) :: S))) : oRun C Z n0 I EL ws Q h cs sl (mkF C.m pc L (.int y :: .int x :: S)) := by
  subst hq; exact oStep (fun T locs K t kt => XS.imul K.1.here K.2.1 rfl (hb K.2.2.2.2.1 hd) rfl kt) r
theorem s_idiv (hd : decode I.bytes pc = .ok (.idiv, 1)) (hq : pc + 1 = pc') (hy : y ≠ 0) (r : oRun C Z n0 I EL ws Q h cs sl (mkF C.m pc' L (.int (x / y) :: S))) : oRun C Z n0 I EL ws Q h cs sl (mkF C.m pc L (.int y :: .int x :: S)) := by
  subst hq; exact oStep (fun T locs K t kt => XS.idiv K.1.here K.2.1 rfl (hb K.2.2.2.2.1 hd) rfl hy kt) r
theorem o_rem (x y : Int32) : x - (x / y) * y = x % y := irem_eq_mod x y
theorem s_irem (hd : decode I.bytes pc = .ok (.irem, 1)) (hq : pc + 1 = pc') (hy : y ≠ 0) (r : oRun C Z n0 I EL ws Q h cs sl (mkF C.m pc' L (.int (x % y) :: S))) : oRun C Z n0 I EL ws Q h cs sl (mkF C.m pc L (.int y :: .int x :: S)) := by
  subst hq; rw [← o_rem] at r; exact oStep (fun T locs K t kt => XS.irem K.1.here K.2.1 rfl (hb K.2.2.2.2.1 hd) rfl hy kt) r
theorem s_ineg (hd : decode I.bytes pc = .ok (.ineg, 1)) (hq : pc + 1 = pc') (r : oRun C Z n0 I EL ws Q h cs sl (mkF C.m pc' L (.int (-x) :: S))) : oRun C Z n0 I EL ws Q h cs sl (mkF C.m pc L (.int x :: S)) := by
  subst hq; exact oStep (fun T locs K t kt => XS.ineg K.1.here K.2.1 rfl (hb K.2.2.2.2.1 hd) rfl kt) r
theorem s_iand (hd : decode I.bytes pc = .ok (.iand, 1)) (hq : pc + 1 = pc') (r : oRun C Z n0 I EL ws Q h cs sl (mkF C.m pc' L (.int (x &&& y) :: S))) : oRun C Z n0 I EL ws Q h cs sl (mkF C.m pc L (.int y :: .int x :: S)) := by
  subst hq; exact oStep (fun T locs K t kt => XS.iand K.1.here K.2.1 rfl (hb K.2.2.2.2.1 hd) rfl kt) r
theorem s_ior (hd : decode I.bytes pc = .ok (.ior, 1)) (hq : pc + 1 = pc') (r : oRun C Z n0 I EL ws Q h cs sl (mkF C.m pc' L (.int (x ||| y) :: S))) : oRun C Z n0 I EL ws Q h cs sl (mkF C.m pc L (.int y :: .int x :: S)) := by
  subst hq; exact oStep (fun T locs K t kt => XT.ior K.1.here K.2.1 rfl (hb K.2.2.2.2.1 hd) rfl kt) r
theorem s_ixor (hd : decode I.bytes pc = .ok (.ixor, 1)) (hq : pc + 1 = pc') (r : oRun C Z n0 I EL ws Q h cs sl (mkF C.m pc' L (.int (x ^^^ y) :: S))) : oRun C Z n0 I EL ws Q h cs sl (mkF C.m pc L (.int y :: .int x :: S)) := by
  subst hq; exact oStep (fun T locs K t kt => XT.ixor K.1.here K.2.1 rfl (hb K.2.2.2.2.1 hd) rfl kt) r
theorem s_ishl (hd : decode I.bytes pc = .ok (.ishl, 1)) (hq : pc + 1 = pc') (r : oRun C Z n0 I EL ws Q h cs sl (mkF C.m pc' L (.int (x <<< (y &&& 31)) :: S))) : oRun C Z n0 I EL ws Q h cs sl (mkF C.m pc L (.int y :: .int x :: S)) := by
  subst hq; exact oStep (fun T locs K t kt => XT.ishl K.1.here K.2.1 rfl (hb K.2.2.2.2.1 hd) rfl kt) r
theorem s_ishr (hd : decode I.bytes pc = .ok (.ishr, 1)) (hq : pc + 1 = pc') (r : oRun C Z n0 I EL ws Q h cs sl (mkF C.m pc' L (.int (x >>> (y &&& 31)) :: S))) : oRun C Z n0 I EL ws Q h cs sl (mkF C.m pc L (.int y :: .int x :: S)) := by
  subst hq; exact oStep (fun T locs K t kt => XT.ishr K.1.here K.2.1 rfl (hb K.2.2.2.2.1 hd) rfl kt) r
theorem s_iushr (hd : decode I.bytes pc = .ok (.iushr, 1)) (hq : pc + 1 = pc') (r : oRun C Z n0 I EL ws Q h cs sl (mkF C.m pc' L (.int (XT.ushr x y) :: S))) : oRun C Z n0 I EL ws Q h cs sl (mkF C.m pc L (.int y :: .int x :: S)) := by
  subst hq; exact oStep (fun T locs K t kt => XT.iushr K.1.here K.2.1 rfl (hb K.2.2.2.2.1 hd) rfl kt) r
theorem s_i2c (hd : decode I.bytes pc = .ok (.i2c, 1)) (hq : pc + 1 = pc') (r : oRun C Z n0 I EL ws Q h cs sl (mkF C.m pc' L (.int (x.toUInt32.toUInt16.toUInt32.toInt32) :: S))) : oRun C Z n0 I EL ws Q h cs sl (mkF C.m pc L (.int x :: S)) := by
  subst hq; exact oStep (fun T locs K t kt => XT.i2c K.1.here K.2.1 rfl (hb K.2.2.2.2.1 hd) rfl kt) r
theorem s_i2b (hd : decode I.bytes pc = .ok (.i2b, 1)) (hq : pc + 1 = pc') (r : oRun C Z n0 I EL ws Q h cs sl (mkF C.m pc' L (.int (x.toInt8.toInt32) :: S))) : oRun C Z n0 I EL ws Q h cs sl (mkF C.m pc L (.int x :: S)) := by
  subst hq; exact oStep (fun T locs K t kt => XT.i2b K.1.here K.2.1 rfl (hb K.2.2.2.2.1 hd) rfl kt) r
theorem s_dup {v : Value} (hd : decode I.bytes pc = .ok (.dup, 1)) (hq : pc + 1 = pc') (hc : v.category = 1) (r : oRun C Z n0 I EL ws Q h cs sl (mkF C.m pc' L (v :: v :: S))) : oRun C Z n0 I EL ws Q h cs sl (mkF C.m pc L (v :: S)) := by
  subst hq; exact oStep (fun T locs K t kt => XS.dup K.1.here K.2.1 rfl (hb K.2.2.2.2.1 hd) rfl hc kt) r
theorem s_pop {v : Value} (hd : decode I.bytes pc = .ok (.pop, 1)) (hq : pc + 1 = pc') (hc : v.category = 1) (r : oRun C Z n0 I EL ws Q h cs sl (mkF C.m pc' L S)) : oRun C Z n0 I EL ws Q h cs sl (mkF C.m pc L (v :: S)) := by
  subst hq; exact oStep (fun T locs K t kt => XT.pop K.1.here K.2.1 rfl (hb K.2.2.2.2.1 hd) rfl hc kt) r
theorem s_istoreN {k : Fin 4} {kn : Nat} {L : List Slot} (hk : k.val = kn) (hd : decode I.bytes pc = .ok (.istore_n k, 1)) (hq : pc + 1 = pc') (hl : storeLocals L.toArray kn (.int x) = some (L.set kn (.val (.int x))).toArray) (r : oRun C Z n0 I EL ws Q h cs sl (mkF C.m pc' (L.set kn (.val (.int x))).toArray S)) : oRun C Z n0 I EL ws Q h cs sl (mkF C.m pc L.toArray (.int x :: S)) := by
  subst hq hk; exact oStep (fun T locs K t kt => XS.istoreN K.1.here K.2.1 rfl (hb K.2.2.2.2.1 hd) rfl hl kt) r
theorem s_istore {k : Nat} {L : List Slot} (hd : decode I.bytes pc = .ok (.istore k, 2)) (hq : pc + 2 = pc') (hl : storeLocals L.toArray k (.int x) = some (L.set k (.val (.int x))).toArray) (r : oRun C Z n0 I EL ws Q h cs sl (mkF C.m pc' (L.set k (.val (.int x))).toArray S)) : oRun C Z n0 I EL ws Q h cs sl (mkF C.m pc L.toArray (.int x :: S)) := by
  subst hq; exact oStep (fun T locs K t kt => XS.istore K.1.here K.2.1 rfl (hb K.2.2.2.2.1 hd) rfl hl kt) r
theorem s_astoreN {k : Fin 4} {kn : Nat} {v : Value} {L : List Slot} (hk : k.val = kn) (hd : decode I.bytes pc = .ok (.astore_n k, 1)) (hq : pc + 1 = pc') (hv : v.isRef = true) (hl : storeLocals L.toArray kn v = some (L.set kn (.val v)).toArray) (r : oRun C Z n0 I EL ws Q h cs sl (mkF C.m pc' (L.set kn (.val v)).toArray S)) : oRun C Z n0 I EL ws Q h cs sl (mkF C.m pc L.toArray (v :: S)) := by
  subst hq hk; exact oStep (fun T locs K t kt => XS.astoreN K.1.here K.2.1 rfl (hb K.2.2.2.2.1 hd) rfl hv hl kt) r
theorem s_astore {k : Nat} {v : Value} {L : List Slot} (hd : decode I.bytes pc = .ok (.astore k, 2)) (hq : pc + 2 = pc') (hv : v.isRef = true) (hl : storeLocals L.toArray k v = some (L.set k (.val v)).toArray) (r : oRun C Z n0 I EL ws Q h cs sl (mkF C.m pc' (L.set k (.val v)).toArray S)) : oRun C Z n0 I EL ws Q h cs sl (mkF C.m pc L.toArray (v :: S)) := by
  subst hq; exact oStep (fun T locs K t kt => XS.astore K.1.here K.2.1 rfl (hb K.2.2.2.2.1 hd) rfl hv hl kt) r
theorem s_iinc {k : Nat} {i : Int} {L : List Slot} (hd : decode I.bytes pc = .ok (.iinc k i, 3)) (hq : pc + 3 = pc') (hi : Int32.ofInt i = y) (hl0 : L.toArray[k]? = some (.val (.int x))) (hl : storeLocals L.toArray k (.int (x + y)) = some (L.set k (.val (.int (x + y)))).toArray) (r : oRun C Z n0 I EL ws Q h cs sl (mkF C.m pc' (L.set k (.val (.int (x + y)))).toArray S)) : oRun C Z n0 I EL ws Q h cs sl (mkF C.m pc L.toArray S) := by
  subst hq hi; exact oStep (fun T locs K t kt => XS.iinc K.1.here K.2.1 rfl (hb K.2.2.2.2.1 hd) hl0 hl kt) r
theorem o_st {L : List Slot} {k : Nat} {s : Slot} {v : Value} (hk : L[k]? = some s) (hs : One s) (hv : v.category = 1) : storeLocals L.toArray k v = some (L.set k (.val v)).toArray := by
  have hlt : k < L.length := (List.getElem?_eq_some_iff.mp hk).1
  have hka : L.toArray[k]? = some s := by simpa using hk
  have e : storeSelf L.toArray k v = some (L.set k (.val v)).toArray := by simp [storeSelf, setAt, hv, hlt]
  rcases hs with rfl | ⟨w, rfl, hw⟩
  · simp only [storeLocals, hka, Option.bind_eq_bind, Option.bind_some]; exact e
  · simp only [storeLocals, hka, Option.bind_eq_bind, Option.bind_some, hw]; exact e
theorem s_goto {o : Int} (hd : decode I.bytes pc = .ok (.goto o, 3)) (ho : 0 ≤ (pc : Int) + o) (hq : ((pc : Int) + o).toNat = pc') (r : oRun C Z n0 I EL ws Q h cs sl (mkF C.m pc' L S)) : oRun C Z n0 I EL ws Q h cs sl (mkF C.m pc L S) :=
  oStep (fun T locs K t kt => XS.goto K.1.here K.2.1 rfl (pc0 := pc) rfl (hb K.2.2.2.2.1 hd) ho hq kt) r
theorem s_if {cd : ClassFile.Cond} {o : Int} {pc'' : Nat} (hd : decode I.bytes pc = .ok (.ifCond cd o, 3)) (hq : pc + 3 = pc') (ho : 0 ≤ (pc : Int) + o) (hq' : ((pc : Int) + o).toNat = pc'')
    (rt : if_icmp.holds cd x 0 = true → oRun C Z n0 I EL ws Q h cs sl (mkF C.m pc'' L S)) (rf : if_icmp.holds cd x 0 = false → oRun C Z n0 I EL ws Q h cs sl (mkF C.m pc' L S)) : oRun C Z n0 I EL ws Q h cs sl (mkF C.m pc L (.int x :: S)) := by
  subst hq
  cases hh : if_icmp.holds cd x 0
  · exact oStep (fun T locs K t kt => XS.ifNo K.1.here K.2.1 rfl (hb K.2.2.2.2.1 hd) rfl ((if0 _ _).trans hh) kt) (rf hh)
  · exact oStep (fun T locs K t kt => XS.ifYes K.1.here K.2.1 rfl (pc0 := pc) rfl (hb K.2.2.2.2.1 hd) rfl ((if0 _ _).trans hh) ho hq' kt) (rt hh)
theorem s_icmp {cd : ClassFile.Cond} {o : Int} {pc'' : Nat} (hd : decode I.bytes pc = .ok (.if_icmp cd o, 3)) (hq : pc + 3 = pc') (ho : 0 ≤ (pc : Int) + o) (hq' : ((pc : Int) + o).toNat = pc'')
    (rt : if_icmp.holds cd x y = true → oRun C Z n0 I EL ws Q h cs sl (mkF C.m pc'' L S)) (rf : if_icmp.holds cd x y = false → oRun C Z n0 I EL ws Q h cs sl (mkF C.m pc' L S)) : oRun C Z n0 I EL ws Q h cs sl (mkF C.m pc L (.int y :: .int x :: S)) := by
  subst hq
  cases hh : if_icmp.holds cd x y
  · exact oStep (fun T locs K t kt => XS.icmpNo K.1.here K.2.1 rfl (hb K.2.2.2.2.1 hd) rfl hh kt) (rf hh)
  · exact oStep (fun T locs K t kt => XS.icmpYes K.1.here K.2.1 rfl (pc0 := pc) rfl (hb K.2.2.2.2.1 hd) rfl hh ho hq' kt) (rt hh)
theorem b_eq (h : if_icmp.holds .eq x y = true) : x = y := by simpa [if_icmp.holds] using h
theorem b_eqF (h : if_icmp.holds .eq x y = false) : ¬ x = y := by simpa [if_icmp.holds] using h
theorem b_ne (h : if_icmp.holds .ne x y = true) : ¬ x = y := by simpa [if_icmp.holds] using h
theorem b_neF (h : if_icmp.holds .ne x y = false) : x = y := by simpa [if_icmp.holds] using h
theorem b_lt (h : if_icmp.holds .lt x y = true) : x < y := by simpa [if_icmp.holds] using h
theorem b_ltF (h : if_icmp.holds .lt x y = false) : ¬ x < y := by simpa [if_icmp.holds] using h
theorem b_ge (h : if_icmp.holds .ge x y = true) : ¬ x < y := by simpa [if_icmp.holds, Int32.not_lt] using h
theorem b_geF (h : if_icmp.holds .ge x y = false) : x < y := by simpa [if_icmp.holds, Int32.not_le] using h
theorem b_gt (h : if_icmp.holds .gt x y = true) : y < x := by simpa [if_icmp.holds] using h
theorem b_gtF (h : if_icmp.holds .gt x y = false) : ¬ y < x := by simpa [if_icmp.holds] using h
theorem b_le (h : if_icmp.holds .le x y = true) : ¬ y < x := by simpa [if_icmp.holds, Int32.not_lt] using h
theorem b_leF (h : if_icmp.holds .le x y = false) : y < x := by simpa [if_icmp.holds, Int32.not_le] using h
-- the heap's steps
theorem s_old {g : JFrame} (r : Old Z n0 h → oRun C Z n0 I EL ws Q h cs sl g) : oRun C Z n0 I EL ws Q h cs sl g := fun vm0 T locs K V => r K.2.2.2.2.2.2.2.2.2.2.2 vm0 T locs K V
theorem s_getF {a0 : Array Value} {R0 O n d host : String} {index : Nat} {a : Addr} {v : Value} (F : Fld Z h a O n d v) (w : (Jvm.Cond.fieldLink I.own index R0 n d).before a0 Z = true ∨ (Jvm.Cond.fieldLinkNest I.own index R0 n d host).before a0 Z = true) (via : Via Z R0 O n d) (hd : decode I.bytes pc = .ok (.getfield index, 3)) (hq : pc + 3 = pc')
    (r : oRun C Z n0 I EL ws Q h cs sl (mkF C.m pc' L (v :: S))) : oRun C Z n0 I EL ws Q h cs sl (mkF C.m pc L (.ref a :: S)) := by
  subst hq
  refine oMove (fun T locs K => ?_) r
  obtain ⟨X, k1, k2, k3, k4, k5, k6, k7, k8, k9, k10, k11⟩ := K
  obtain ⟨T', X', e', st⟩ := getF X k1 k2 k3 w via k9 F (g := mkF C.m pc L (.ref a :: S)) rfl rfl (hb k4 hd)
  exact ⟨T', locs, ⟨X', k1, k2, k3, k4, k5, k6, k7, k8, e', k10, k11⟩, st⟩
theorem s_putF {a0 : Array Value} {R0 O n d host C' : String} {index kk : Nat} {ty : FieldType} {a : Addr} {v old : Value} (F : Fld Z h a O n d old) (E : Exa Z h a C') (ha : n0 ≤ a) (hs : a ∈ ws) (w : (Jvm.Cond.fieldLink I.own index R0 n d).before a0 Z = true ∨ (Jvm.Cond.fieldLinkNest I.own index R0 n d host).before a0 Z = true) (via : Via Z R0 O n d)
    (Lw : (Jvm.Cond.lays C' O n d).before a0 Z = true ∨ ((Jvm.Cond.laysFinal C' O n d).before a0 Z = true ∧ I.own = O ∧ I.mn = "<init>")) (wi : (Jvm.Cond.instantiable C' kk).before a0 Z = true)
    (hty : parseFieldDescriptor d = some ty) (hn : narrow ty v = v) (hf : fits ty v = true) (hd : decode I.bytes pc = .ok (.putfield index, 3)) (hq : pc + 3 = pc')
    (r : ∀ h', Wr h h' a (Jvm.RoadKit.slotOf Z O n d) v → oRun C Z n0 I EL ws Q h' cs sl (mkF C.m pc' L S)) : oRun C Z n0 I EL ws Q h cs sl (mkF C.m pc L (v :: .ref a :: S)) := by
  subst hq
  intro vm0 T locs K V
  obtain ⟨X, k1, k2, k3, k4, k5, k6, k7, k8, k9, k10, k11⟩ := K
  obtain ⟨T', h', X', e', W, st⟩ := putF X k1 k2 k3 w via k9 F E (Lw.imp id fun q => ⟨q.1, q.2.1, k7.trans q.2.2⟩) wi hty hn hf (g := mkF C.m pc L (v :: .ref a :: S)) rfl rfl (hb k4 hd)
  obtain ⟨t, o, h1, h2⟩ := r h' W vm0 T' _ ⟨X', k1, k2, k3, k4, k5, k6, k7, k8, e', Fr.snoc X' k10 ha, k11.wr W ha⟩ (V.wr W hs)
  exact ⟨t, o, st t h1, h2⟩
theorem s_getS {a0 : Array Value} {R0 O n d : String} {index : Nat} {v : Value} (F : Sta Z Z.heap O n d v) (w : (Jvm.Cond.fieldLink I.own index R0 n d).before a0 Z = true) (via : Via Z R0 O n d) (hd : decode I.bytes pc = .ok (.getstatic index, 3)) (hq : pc + 3 = pc')
    (r : oRun C Z n0 I EL ws Q h cs sl (mkF C.m pc' L (v :: S))) : oRun C Z n0 I EL ws Q h cs sl (mkF C.m pc L S) := by
  subst hq
  refine oMove (fun T locs K => ?_) r
  obtain ⟨X, k1, k2, k3, k4, k5, k6, k7, k8, k9, k10, k11⟩ := K
  obtain ⟨T', X', e', st⟩ := getS (host := "") X k1 k2 k3 w via k9 (F.ext k11.2) (g := mkF C.m pc L S) rfl (hb k4 hd)
  exact ⟨T', locs, ⟨X', k1, k2, k3, k4, k5, k6, k7, k8, e', k10, k11⟩, st⟩
theorem s_new {a0 : Array Value} {C' : String} {index n : Nat} (w : (Jvm.Cond.classLink I.own index C').before a0 Z = true) (wi : (Jvm.Cond.instantiable C' n).before a0 Z = true) (wz : (Jvm.Cond.initialized C').before a0 Z = true) (hd : decode I.bytes pc = .ok (.new index, 3)) (hq : pc + 3 = pc') (hc : cs + 1 ≤ I.R.cells) (hl : sl + n ≤ I.R.slots)
    (r : ∀ h' a, a = h.size → n0 ≤ a → Ext h h' → Exa Z h' a C' → (∀ {O nm d : String} {ty : FieldType}, Laid Z a0 C' O nm d → parseFieldDescriptor d = some ty → Fld Z h' a O nm d (defaultValue ty)) → oRun C Z n0 I EL (a :: ws) Q h' (cs + 1) (sl + n) (mkF C.m pc' L (.ref a :: S))) : oRun C Z n0 I EL ws Q h cs sl (mkF C.m pc L S) := by
  subst hq
  intro vm0 T locs K V
  obtain ⟨X, k1, k2, k3, k4, k5, k6, k7, k8, k9, k10, k11⟩ := K
  obtain ⟨T', h', X', e', E, A, D, -, st⟩ := newO X k1 k2 k3 w wi wz k9 (g := mkF C.m pc L S) rfl (hb k4 hd) hc hl
  obtain ⟨t, o, h1, h2⟩ := r h' _ rfl (o_le k11) E A D vm0 T' _ ⟨X', k1, k2, k3, k4, k5, k6, k7, k8, e', k10, k11.ext E⟩ (V.new E rfl A.lt)
  exact ⟨t, o, st t h1, h2⟩
theorem s_newA {a0 : Array Value} {aty : ArrayType} {n : Int32} (cap : Nat) (w : (Jvm.Cond.arrayClass (newarray.typeOf aty)).before a0 Z = true) (hd : decode I.bytes pc = .ok (.newarray aty, 2)) (hq : pc + 2 = pc') (hn : ¬ n < 0) (hcap : n.toNatClampNeg ≤ cap) (hb' : cap * 8 ≤ 536870912) (hc : cs + 1 ≤ I.R.cells) (hl : sl + cap ≤ I.R.slots)
    (r : ∀ h' a k, a = h.size → n0 ≤ a → Ext h h' → Arv Z h' a k (newarray.typeOf aty) n [] (defaultValue (newarray.typeOf aty)) → oRun C Z n0 I EL (a :: ws) Q h' (cs + 1) (sl + cap) (mkF C.m pc' L (.ref a :: S))) : oRun C Z n0 I EL ws Q h cs sl (mkF C.m pc L (.int n :: S)) := by
  subst hq
  intro vm0 T locs K V
  obtain ⟨X, k1, k2, k3, k4, k5, k6, k7, k8, k9, k10, k11⟩ := K
  obtain ⟨T', h', kA, X', e', E, A, st⟩ := newP X k1 k2 w k9 (g := mkF C.m pc L (.int n :: S)) rfl (hb k4 hd) rfl hn hcap hb' hc hl
  obtain ⟨t, o, h1, h2⟩ := r h' _ kA rfl (o_le k11) E (Arv.new A hn) vm0 T' _ ⟨X', k1, k2, k3, k4, k5, k6, k7, k8, e', k10, k11.ext E⟩ (V.new E rfl A.lt)
  exact ⟨t, o, st t h1, h2⟩
theorem s_alen {a : Addr} {k : ClassId} {ty : FieldType} {n : Int32} {vs : List Value} {dv : Value} (A : Arv Z h a k ty n vs dv) (hd : decode I.bytes pc = .ok (.arraylength, 1)) (hq : pc + 1 = pc') (r : oRun C Z n0 I EL ws Q h cs sl (mkF C.m pc' L (.int n :: S))) : oRun C Z n0 I EL ws Q h cs sl (mkF C.m pc L (.ref a :: S)) := by
  subst hq
  refine oStep (fun T locs K t kt => ?_) r
  obtain ⟨X, k1, k2, k3, k4, k5, k6, k7, k8, k9, k10, k11⟩ := K
  obtain ⟨c, A1, A2, A3, A4, -⟩ := A
  refine X.arraylength k1 (by rw [k9]; exact A1.1) (State.isArrayOf_alike k2.alike A1.2.1) (g := mkF C.m pc L (.ref a :: S)) rfl rfl (hb k4 hd) _ ?_
  rw [len_of A3 A4]; exact kt
theorem o_at {a : Addr} {k : ClassId} {ty : FieldType} {n j : Int32} {vs : List Value} {dv v : Value} (A : Arv Z h a k ty n vs dv) (j0 : ¬ j < 0) (j1 : j < n) (hv : vs.getD j.toNatClampNeg dv = v) : ∃ c, Arr Z h a c ty ∧ ¬ (j < 0 ∨ c.slots.size ≤ j.toNatClampNeg) ∧ c.slots[j.toNatClampNeg]? = some v := by
  obtain ⟨c, A1, A2, A3, A4, A5, A6⟩ := A
  have q := inb_of A3 ⟨j0, j1⟩
  exact ⟨c, A1, q, A5.at q hv⟩
theorem s_iaload {a : Addr} {k : ClassId} {n j : Int32} {vs : List Value} {dv v : Value} (A : Arv Z h a k .int n vs dv) (j0 : ¬ j < 0) (j1 : j < n) (hv : vs.getD j.toNatClampNeg dv = v) (hd : decode I.bytes pc = .ok (.iaload, 1)) (hq : pc + 1 = pc') (r : oRun C Z n0 I EL ws Q h cs sl (mkF C.m pc' L (v :: S))) : oRun C Z n0 I EL ws Q h cs sl (mkF C.m pc L (.int j :: .ref a :: S)) := by
  subst hq
  refine oStep (fun T locs K t kt => ?_) r
  obtain ⟨X, k1, k2, k3, k4, k5, k6, k7, k8, k9, k10, k11⟩ := K
  obtain ⟨c, A1, q, A2⟩ := o_at A j0 j1 hv
  exact X.iaload k1 (by rw [k9]; exact A1.1) (State.isArrayOf_alike k2.alike A1.2.1) A1.2.2 q A2 (g := mkF C.m pc L (.int j :: .ref a :: S)) rfl rfl (hb k4 hd) _ kt
theorem s_caload {a : Addr} {k : ClassId} {n j : Int32} {vs : List Value} {dv v : Value} (A : Arv Z h a k .char n vs dv) (j0 : ¬ j < 0) (j1 : j < n) (hv : vs.getD j.toNatClampNeg dv = v) (hd : decode I.bytes pc = .ok (.caload, 1)) (hq : pc + 1 = pc') (r : oRun C Z n0 I EL ws Q h cs sl (mkF C.m pc' L (v :: S))) : oRun C Z n0 I EL ws Q h cs sl (mkF C.m pc L (.int j :: .ref a :: S)) := by
  subst hq
  refine oStep (fun T locs K t kt => ?_) r
  obtain ⟨X, k1, k2, k3, k4, k5, k6, k7, k8, k9, k10, k11⟩ := K
  obtain ⟨c, A1, q, A2⟩ := o_at A j0 j1 hv
  exact X.caload k1 (by rw [k9]; exact A1.1) (State.isArrayOf_alike k2.alike A1.2.1) A1.2.2 q A2 (g := mkF C.m pc L (.int j :: .ref a :: S)) rfl rfl (hb k4 hd) _ kt
theorem s_baload {a : Addr} {k : ClassId} {n j : Int32} {vs : List Value} {dv v : Value} (A : Arv Z h a k .byte n vs dv) (j0 : ¬ j < 0) (j1 : j < n) (hv : vs.getD j.toNatClampNeg dv = v) (hd : decode I.bytes pc = .ok (.baload, 1)) (hq : pc + 1 = pc') (r : oRun C Z n0 I EL ws Q h cs sl (mkF C.m pc' L (v :: S))) : oRun C Z n0 I EL ws Q h cs sl (mkF C.m pc L (.int j :: .ref a :: S)) := by
  subst hq
  refine oStep (fun T locs K t kt => ?_) r
  obtain ⟨X, k1, k2, k3, k4, k5, k6, k7, k8, k9, k10, k11⟩ := K
  obtain ⟨c, A1, q, A2⟩ := o_at A j0 j1 hv
  exact X.baloadBytes k1 (by rw [k9]; exact A1.1) (State.isArrayOf_alike k2.alike A1.2.1) A1.2.2 q A2 (g := mkF C.m pc L (.int j :: .ref a :: S)) rfl rfl (hb k4 hd) _ kt
theorem s_aaload {a : Addr} {cl : Cell} {ty : FieldType} {j : Int32} {v : Value} (A : Arr Z h a cl ty) (ht : ty.isReference = true) (q : ¬ (j < 0 ∨ cl.slots.size ≤ j.toNatClampNeg)) (hv : cl.slots[j.toNatClampNeg]? = some v) (hd : decode I.bytes pc = .ok (.aaload, 1)) (hq : pc + 1 = pc') (r : oRun C Z n0 I EL ws Q h cs sl (mkF C.m pc' L (v :: S))) : oRun C Z n0 I EL ws Q h cs sl (mkF C.m pc L (.int j :: .ref a :: S)) := by
  subst hq
  refine oStep (fun T locs K t kt => ?_) r
  obtain ⟨X, k1, k2, k3, k4, k5, k6, k7, k8, k9, k10, k11⟩ := K
  exact X.aaload k1 (by rw [k9]; exact A.1) (State.isArrayOf_alike k2.alike A.2.1) ht A.2.2 q hv (g := mkF C.m pc L (.int j :: .ref a :: S)) rfl rfl (hb k4 hd) _ kt
theorem o_padTo {a : Addr} {k : ClassId} {ty : FieldType} {n : Int32} {vs : List Value} {dv : Value} (A : Arv Z h a k ty n vs dv) (N : Nat) : Arv Z h a k ty n (vs ++ List.replicate N dv) dv := A.pad (pad_rep vs dv N)
theorem s_iastore {a : Addr} {k : ClassId} {n j : Int32} {vs : List Value} {dv : Value} (A : Arv Z h a k .int n vs dv) (ha : n0 ≤ a) (hs : a ∈ ws) (j0 : ¬ j < 0) (j1 : j < n) (i : Nat) (hi : j.toNatClampNeg = i) (hl : i < vs.length) (hd : decode I.bytes pc = .ok (.iastore, 1)) (hq : pc + 1 = pc')
    (r : ∀ h', Wr h h' a i (.int x) → Arv Z h' a k .int n (vs.set i (.int x)) dv → oRun C Z n0 I EL ws Q h' cs sl (mkF C.m pc' L S)) : oRun C Z n0 I EL ws Q h cs sl (mkF C.m pc L (.int x :: .int j :: .ref a :: S)) := by
  subst hq
  intro vm0 T locs K V
  obtain ⟨X, k1, k2, k3, k4, k5, k6, k7, k8, k9, k10, k11⟩ := K
  obtain ⟨c, A1, A2, A3, A4, A5, A6⟩ := A
  obtain ⟨T', h', X', e', W, st⟩ := stI X k1 k2 k9 A1 (inb_of A3 ⟨j0, j1⟩) (g := mkF C.m pc L (.int x :: .int j :: .ref a :: S)) rfl rfl (hb k4 hd)
  obtain ⟨t, o, h1, h2⟩ := r h' (hi ▸ W) (Arv.set A1 A2 A3 A4 A5 A6 rfl W i hi hl) vm0 T' _ ⟨X', k1, k2, k3, k4, k5, k6, k7, k8, e', Fr.snoc X' k10 ha, k11.wr W ha⟩ (V.wr W hs)
  exact ⟨t, o, st t h1, h2⟩
theorem s_castore {a : Addr} {k : ClassId} {n j : Int32} {vs : List Value} {dv : Value} (A : Arv Z h a k .char n vs dv) (ha : n0 ≤ a) (hs : a ∈ ws) (j0 : ¬ j < 0) (j1 : j < n) (i : Nat) (hi : j.toNatClampNeg = i) (hl : i < vs.length) (hd : decode I.bytes pc = .ok (.castore, 1)) (hq : pc + 1 = pc')
    (r : ∀ h', Wr h h' a i (.int (nar .char x)) → Arv Z h' a k .char n (vs.set i (.int (nar .char x))) dv → oRun C Z n0 I EL ws Q h' cs sl (mkF C.m pc' L S)) : oRun C Z n0 I EL ws Q h cs sl (mkF C.m pc L (.int x :: .int j :: .ref a :: S)) := by
  subst hq
  intro vm0 T locs K V
  obtain ⟨X, k1, k2, k3, k4, k5, k6, k7, k8, k9, k10, k11⟩ := K
  obtain ⟨c, A1, A2, A3, A4, A5, A6⟩ := A
  obtain ⟨T', h', X', e', W, st⟩ := stC X k1 k2 k9 A1 (inb_of A3 ⟨j0, j1⟩) (g := mkF C.m pc L (.int x :: .int j :: .ref a :: S)) rfl rfl (hb k4 hd)
  obtain ⟨t, o, h1, h2⟩ := r h' (hi ▸ W) (Arv.set A1 A2 A3 A4 A5 A6 (fits_nar_char _) W i hi hl) vm0 T' _ ⟨X', k1, k2, k3, k4, k5, k6, k7, k8, e', Fr.snoc X' k10 ha, k11.wr W ha⟩ (V.wr W hs)
  exact ⟨t, o, st t h1, h2⟩
theorem s_bastore {a : Addr} {k : ClassId} {n j : Int32} {vs : List Value} {dv : Value} (A : Arv Z h a k .byte n vs dv) (ha : n0 ≤ a) (hs : a ∈ ws) (j0 : ¬ j < 0) (j1 : j < n) (i : Nat) (hi : j.toNatClampNeg = i) (hl : i < vs.length) (hd : decode I.bytes pc = .ok (.bastore, 1)) (hq : pc + 1 = pc')
    (r : ∀ h', Wr h h' a i (.int (nar .byte x)) → Arv Z h' a k .byte n (vs.set i (.int (nar .byte x))) dv → oRun C Z n0 I EL ws Q h' cs sl (mkF C.m pc' L S)) : oRun C Z n0 I EL ws Q h cs sl (mkF C.m pc L (.int x :: .int j :: .ref a :: S)) := by
  subst hq
  intro vm0 T locs K V
  obtain ⟨X, k1, k2, k3, k4, k5, k6, k7, k8, k9, k10, k11⟩ := K
  obtain ⟨c, A1, A2, A3, A4, A5, A6⟩ := A
  obtain ⟨T', h', X', e', W, st⟩ := stB X k1 k2 k9 A1 (inb_of A3 ⟨j0, j1⟩) (g := mkF C.m pc L (.int x :: .int j :: .ref a :: S)) rfl rfl (hb k4 hd)
  obtain ⟨t, o, h1, h2⟩ := r h' (hi ▸ W) (Arv.set A1 A2 A3 A4 A5 A6 (fits_nar_byte _) W i hi hl) vm0 T' _ ⟨X', k1, k2, k3, k4, k5, k6, k7, k8, e', Fr.snoc X' k10 ha, k11.wr W ha⟩ (V.wr W hs)
  exact ⟨t, o, st t h1, h2⟩
theorem s_copy {a0 : Array Value} {index : Nat} {a b : Addr} {k k' : ClassId} {ty : FieldType} {z z' sp dp nn : Int32} {vs vd : List Value} {dv dd : Value} (A : Arv Z h a k ty z vs dv) (B : Arv Z h b k' ty z' vd dd) (hty : refKind ty = false) (hgb : n0 ≤ b) (hs : b ∈ ws)
    (w1 : (Jvm.Cond.methodLink I.own index Jvm.Stand.acN).before a0 Z = true) (w2 : (Jvm.Cond.native Jvm.Stand.acN).before a0 Z = true) (w3 : (Jvm.Cond.static Jvm.Stand.acN).before a0 Z = true) (w4 : (Jvm.Cond.initialized "java/lang/System").before a0 Z = true)
    (h1 : ¬ sp < 0) (h2 : ¬ dp < 0) (h3 : ¬ nn < 0) (h4 : sp.toNatClampNeg + nn.toNatClampNeg ≤ z.toNatClampNeg) (h5 : dp.toNatClampNeg + nn.toNatClampNeg ≤ z'.toNatClampNeg) (hl : dp.toNatClampNeg + nn.toNatClampNeg ≤ vd.length)
    (hsz : L.size = I.ml) (hd : decode I.bytes pc = .ok (.invokestatic index, 3)) (hq : pc + 3 = pc') (hf : 1 ≤ I.R.frames) (hlo : (S.map fun v => v.category).sum + (nativeFrameWords "java/lang/System" "arraycopy" 5 + 11) ≤ I.R.locals)
    (r : ∀ h', Keep h h' [b] → Arv Z h' b k' ty z' (vd.take dp.toNatClampNeg ++ ((List.range nn.toNatClampNeg).map fun i => vs.getD (sp.toNatClampNeg + i) dv) ++ vd.drop (dp.toNatClampNeg + nn.toNatClampNeg)) dd → oRun C Z n0 I EL ws Q h' cs sl (mkF C.m pc' L S)) :
    oRun C Z n0 I EL ws Q h cs sl (mkF C.m pc L (.int nn :: .int dp :: .ref b :: .int sp :: .ref a :: S)) := by
  subst hq
  intro vm0 T locs K V
  obtain ⟨X, k1, k2, k3, k4, k5, k6, k7, k8, k9, k10, k11⟩ := K
  obtain ⟨T', h', L', X', e', N', K', A', st⟩ := cpA X k1 k2 k3 w1 w2 w3 w4 k9 A B (Or.inl ⟨rfl, hty⟩) h1 h2 h3 h4 h5 rfl hl k10 hgb (g := mkF C.m pc L (.int nn :: .int dp :: .ref b :: .int sp :: .ref a :: S)) rfl (hsz.trans k5.symm) rfl (hb k4 hd) hf (W := (S.map fun v => v.category).sum) (by show 2 * 0 + _ ≤ _; simp) hlo
  obtain ⟨t, o, q1, q2⟩ := r h' K' A' vm0 T' _ ⟨X', k1, k2, k3, k4, k5, k6, k7, k8, e', N', k11.keep K' (allS hgb all0)⟩ (V.move (CHr.keep K' (fun x hx => by cases List.mem_singleton.mp hx; exact (V.2.2.2 b hs).1) V.2.2.1.1))
  exact ⟨t, o, st t q1, q2⟩
theorem s_initO {a0 : Array Value} {idx : Nat} {a : Addr} (w1 : (Jvm.Cond.methodLink I.own idx Lib.objectInit).before a0 Z = true) (w2 : (Jvm.Cond.instanceMethod Lib.objectInit).before a0 Z = true) (w3 : (Jvm.Cond.code Lib.objectInit ⟨#[0xb1]⟩ 1 none).before a0 Z = true) (hsz : L.size = I.ml) (hd : decode I.bytes pc = .ok (.invokespecial idx, 3)) (hq : pc + 3 = pc') (hf : 1 ≤ I.R.frames) (hlo : (S.map fun v => v.category).sum + 12 ≤ I.R.locals)
    (r : oRun C Z n0 I EL ws Q h cs sl (mkF C.m pc' L S)) : oRun C Z n0 I EL ws Q h cs sl (mkF C.m pc L (.ref a :: S)) := by
  subst hq
  refine oMove (fun T locs K => ?_) r
  obtain ⟨X, k1, k2, k3, k4, k5, k6, k7, k8, k9, k10, k11⟩ := K
  obtain ⟨T', X', e', st⟩ := initO X k1 k2 k3 w1 w2 w3 k9 (g := mkF C.m pc L (.ref a :: S)) rfl (hsz.trans k5.symm) rfl (hb k4 hd) hf (W := (S.map fun v => v.category).sum) (by show 2 * 0 + _ ≤ _; simp) hlo
  exact ⟨T', locs, ⟨X', k1, k2, k3, k4, k5, k6, k7, k8, e', k10, k11⟩, st⟩
theorem s_ldcI {a0 : Array Value} {idx : Nat} (w : (Jvm.Cond.constant I.own idx x).before a0 Z = true) (hd : decode I.bytes pc = .ok (.ldc idx, 2)) (hq : pc + 2 = pc') (r : oRun C Z n0 I EL ws Q h cs sl (mkF C.m pc' L (.int x :: S))) : oRun C Z n0 I EL ws Q h cs sl (mkF C.m pc L S) := by
  subst hq
  refine oStep (fun T locs K t kt => ?_) r
  obtain ⟨X, k1, k2, k3, k4, k5, k6, k7, k8, k9, k10, k11⟩ := K
  exact X.ldcInt k1 k3 (mvT k2 w) (g := mkF C.m pc L S) rfl (hb k4 hd) _ kt
theorem s_acmpNe {o : Int} {pc'' : Nat} {v w : Value} (hv : v.isRef = true) (hw : w.isRef = true) (hd : decode I.bytes pc = .ok (.if_acmp .ne o, 3)) (hq : pc + 3 = pc') (ho : 0 ≤ (pc : Int) + o) (hq' : ((pc : Int) + o).toNat = pc'')
    (rt : ¬ v = w → oRun C Z n0 I EL ws Q h cs sl (mkF C.m pc'' L S)) (rf : v = w → oRun C Z n0 I EL ws Q h cs sl (mkF C.m pc' L S)) : oRun C Z n0 I EL ws Q h cs sl (mkF C.m pc L (w :: v :: S)) := by
  subst hq
  by_cases hh : v = w
  · exact oStep (fun T locs K t kt => XT.acmpNo K.1.here K.2.1 rfl (hb K.2.2.2.2.1 hd) rfl hv hw (by simp [XT.acmp, hh]) kt) (rf hh)
  · exact oStep (fun T locs K t kt => XT.acmpYes K.1.here K.2.1 rfl (pc0 := pc) rfl (hb K.2.2.2.2.1 hd) rfl hv hw (by simp [XT.acmp, hh]) ho hq' kt) (rt hh)
theorem s_acmpEq {o : Int} {pc'' : Nat} {v w : Value} (hv : v.isRef = true) (hw : w.isRef = true) (hd : decode I.bytes pc = .ok (.if_acmp .eq o, 3)) (hq : pc + 3 = pc') (ho : 0 ≤ (pc : Int) + o) (hq' : ((pc : Int) + o).toNat = pc'')
    (rt : v = w → oRun C Z n0 I EL ws Q h cs sl (mkF C.m pc'' L S)) (rf : ¬ v = w → oRun C Z n0 I EL ws Q h cs sl (mkF C.m pc' L S)) : oRun C Z n0 I EL ws Q h cs sl (mkF C.m pc L (w :: v :: S)) := by
  subst hq
  by_cases hh : v = w
  · exact oStep (fun T locs K t kt => XT.acmpYes K.1.here K.2.1 rfl (pc0 := pc) rfl (hb K.2.2.2.2.1 hd) rfl hv hw (by simp [XT.acmp, hh]) ho hq' kt) (rt hh)
  · exact oStep (fun T locs K t kt => XT.acmpNo K.1.here K.2.1 rfl (hb K.2.2.2.2.1 hd) rfl hv hw (by simp [XT.acmp, hh]) kt) (rf hh)
theorem s_nnY {o : Int} {b : Addr} (hd : decode I.bytes pc = .ok (.ifnonnull o, 3)) (ho : 0 ≤ (pc : Int) + o) (hq' : ((pc : Int) + o).toNat = pc') (r : oRun C Z n0 I EL ws Q h cs sl (mkF C.m pc' L S)) : oRun C Z n0 I EL ws Q h cs sl (mkF C.m pc L (.ref b :: S)) :=
  oStep (fun T locs K t kt => XT.ifnonnullYes K.1.here K.2.1 rfl (pc0 := pc) rfl (hb K.2.2.2.2.1 hd) rfl ho hq' kt) r
theorem s_nnN {o : Int} (hd : decode I.bytes pc = .ok (.ifnonnull o, 3)) (hq : pc + 3 = pc') (r : oRun C Z n0 I EL ws Q h cs sl (mkF C.m pc' L S)) : oRun C Z n0 I EL ws Q h cs sl (mkF C.m pc L (.null :: S)) := by
  subst hq; exact oStep (fun T locs K t kt => XT.ifnonnullNo K.1.here K.2.1 rfl (hb K.2.2.2.2.1 hd) rfl kt) r
theorem s_nuY {o : Int} (hd : decode I.bytes pc = .ok (.ifnull o, 3)) (ho : 0 ≤ (pc : Int) + o) (hq' : ((pc : Int) + o).toNat = pc') (r : oRun C Z n0 I EL ws Q h cs sl (mkF C.m pc' L S)) : oRun C Z n0 I EL ws Q h cs sl (mkF C.m pc L (.null :: S)) :=
  oStep (fun T locs K t kt => XS.ifnullYes K.1.here K.2.1 rfl (pc0 := pc) rfl (hb K.2.2.2.2.1 hd) rfl ho hq' kt) r
theorem s_nuN {o : Int} {b : Addr} (hd : decode I.bytes pc = .ok (.ifnull o, 3)) (hq : pc + 3 = pc') (r : oRun C Z n0 I EL ws Q h cs sl (mkF C.m pc' L S)) : oRun C Z n0 I EL ws Q h cs sl (mkF C.m pc L (.ref b :: S)) := by
  subst hq; exact oStep (fun T locs K t kt => XS.ifnullNo K.1.here K.2.1 rfl (hb K.2.2.2.2.1 hd) rfl kt) r
theorem s_castY {a0 : Array Value} {Kn : String} {index : Nat} {a : Addr} (F : Ins Z h a Kn true) (w : (Jvm.Cond.classLink I.own index Kn).before a0 Z = true) (hd : decode I.bytes pc = .ok (.checkcast index, 3)) (hq : pc + 3 = pc')
    (r : oRun C Z n0 I EL ws Q h cs sl (mkF C.m pc' L (.ref a :: S))) : oRun C Z n0 I EL ws Q h cs sl (mkF C.m pc L (.ref a :: S)) := by
  subst hq
  refine oMove (fun T locs K => ?_) r
  obtain ⟨X, k1, k2, k3, k4, k5, k6, k7, k8, k9, k10, k11⟩ := K
  obtain ⟨T', X', e', st⟩ := castY X k1 k2 k3 w k9 F (g := mkF C.m pc L (.ref a :: S)) rfl rfl (hb k4 hd)
  exact ⟨T', locs, ⟨X', k1, k2, k3, k4, k5, k6, k7, k8, e', k10, k11⟩, st⟩
theorem s_instY {a0 : Array Value} {Kn : String} {index : Nat} {a : Addr} (F : Ins Z h a Kn true) (w : (Jvm.Cond.classLink I.own index Kn).before a0 Z = true) (hd : decode I.bytes pc = .ok (.instanceof index, 3)) (hq : pc + 3 = pc')
    (r : oRun C Z n0 I EL ws Q h cs sl (mkF C.m pc' L (.int 1 :: S))) : oRun C Z n0 I EL ws Q h cs sl (mkF C.m pc L (.ref a :: S)) := by
  subst hq
  refine oMove (fun T locs K => ?_) r
  obtain ⟨X, k1, k2, k3, k4, k5, k6, k7, k8, k9, k10, k11⟩ := K
  obtain ⟨T', X', e', st⟩ := instY X k1 k2 k3 w k9 F (g := mkF C.m pc L (.ref a :: S)) rfl rfl (hb k4 hd)
  exact ⟨T', locs, ⟨X', k1, k2, k3, k4, k5, k6, k7, k8, e', k10, k11⟩, st⟩
theorem s_instNo {a0 : Array Value} {Kn Cn : String} {index : Nat} {a : Addr} (E : Exa Z h a Cn) (F : ∃ c t, Z.vm.findClass Cn = some c ∧ Z.vm.findClass Kn = some t ∧ Z.vm.assignable c t = false) (w : (Jvm.Cond.classLink I.own index Kn).before a0 Z = true) (hd : decode I.bytes pc = .ok (.instanceof index, 3)) (hq : pc + 3 = pc')
    (r : oRun C Z n0 I EL ws Q h cs sl (mkF C.m pc' L (.int 0 :: S))) : oRun C Z n0 I EL ws Q h cs sl (mkF C.m pc L (.ref a :: S)) := by
  subst hq
  refine oMove (fun T locs K => ?_) r
  obtain ⟨X, k1, k2, k3, k4, k5, k6, k7, k8, k9, k10, k11⟩ := K
  obtain ⟨T', X', e', st⟩ := instNo X k1 k2 k3 w k9 E F (g := mkF C.m pc L (.ref a :: S)) rfl rfl (hb k4 hd)
  exact ⟨T', locs, ⟨X', k1, k2, k3, k4, k5, k6, k7, k8, e', k10, k11⟩, st⟩
theorem s_instNull {index : Nat} (hd : decode I.bytes pc = .ok (.instanceof index, 3)) (hq : pc + 3 = pc')
    (r : oRun C Z n0 I EL ws Q h cs sl (mkF C.m pc' L (.int 0 :: S))) : oRun C Z n0 I EL ws Q h cs sl (mkF C.m pc L (.null :: S)) := by
  subst hq
  refine oStep (fun T locs K t kt => ?_) r
  exact K.1.instanceofNull K.2.1 (g := mkF C.m pc L (.null :: S)) rfl rfl (hb K.2.2.2.2.1 hd) _ kt
-- a value left by a callee
def oPush : Option Value → List Value → List Value
  | none, S => S
  | some v, S => v :: S
theorem o_push (v : Option Value) (S : List Value) : v.toList ++ S = oPush v S := by cases v <;> rfl
theorem o_zero (S : List Value) (W : Nat) (q : (S.map fun v => v.category).sum ≤ W) (m : MethodId) (pc : Nat) (L : Array Slot) (S' : List Value) : 2 * (mkF m pc L S').monitorRoom + (S.map fun v => v.category).sum ≤ W := by show 2 * 0 + _ ≤ _; simpa using q
theorem s_callS {a0 : Array Value} {index : Nat} {yn : MethodName} {J : OInfo} {as' : Array Value} {Q' : Option Value → Heap → Prop} {argsL : List Value} {ws' : List Addr} (M : oCon C.l Z n0 EL ws' yn J as' h Q') (ha : argsL.toArray = as') (hsub : ∀ x ∈ ws', x ∈ ws)
    (w1 : (Jvm.Cond.methodLink I.own index yn).before a0 Z = true) (w2 : (Jvm.Cond.static yn).before a0 Z = true) (w3 : (Jvm.Cond.initialized yn.cls).before a0 Z = true) (w4 : (Jvm.Cond.code yn J.bytes J.ml J.ret).before a0 Z = true) (hy : yn.cls ≠ "java/lang/invoke/MethodHandle" ∧ yn.cls ≠ "java/lang/invoke/VarHandle")
    (hlen : ∀ sig, parseMethodDescriptor yn.desc = some sig → argsL.length = sig.parameters.length) (hsz : L.size = I.ml) (hd : decode I.bytes pc = .ok (.invokestatic index, 3)) (hq : pc + 3 = pc') (hf : J.R.frames + 1 ≤ I.R.frames) (hlo : (S.map fun v => v.category).sum + (J.ml + 11) + J.R.locals ≤ I.R.locals) (hc : cs + J.R.cells ≤ I.R.cells) (hs : sl + J.R.slots ≤ I.R.slots)
    (r : ∀ v h', Q' v h' → oRun C Z n0 I EL ws Q h' (cs + J.R.cells) (sl + J.R.slots) (mkF C.m pc' L (oPush v S))) : oRun C Z n0 I EL ws Q h cs sl (mkF C.m pc L (argsL.reverse ++ S)) := by
  subst hq ha
  intro vm0 T locs K V
  obtain ⟨X, k1, k2, k3, k4, k5, k6, k7, k8, k9, k10, k11⟩ := K
  obtain ⟨v, _, ⟨T', L', c', s'⟩, -, X', hS, hg2, ⟨Lc, ⟨q1, q2, q3⟩, l', y', z', hC⟩, st⟩ := callSS X k1 (y := yn) k3 (mvT k2 w1) (mvT k2 w2) (mvT k2 w3) (mvT k2 w4) hy (o_back (W := (S.map fun v => v.category).sum) M k11 k2 w4 w3 hf hlo V.1.choose_spec V.2.2.1.1 (fun x hx => V.2.2.2 x (hsub x hx))) (g := mkF C.m pc L (argsL.reverse ++ S)) rfl (hsz.trans k5.symm) (argsL := argsL) (rest := S) hlen rfl (o_zero _ _ (Nat.le_refl _) _ _ _ _) (hb k4 hd) (fun _ _ => ⟨rfl, k9, hc, hs⟩)
  dsimp only [Pt.U, Pt.locs, Pt.cells, Pt.slots] at X' l' y' z' st q2 q3 hS hg2 hC
  subst l' y' z'
  obtain ⟨kk, hk1, hk2⟩ := V.2.1
  have hS2 : C.s.Since T'.vm T'.heap.size := hk1.trans hS (Nat.le_trans hk2 (by rw [← k9]; exact hg2))
  have hZ2 : Z.Warmed39 T'.vm := State.Warmed39.trans (t := C.s.setVm vm0) k2 hS.1
  obtain ⟨t, o, h1, h2⟩ := r v _ q3 T'.vm T' _ ⟨X', k1, hZ2, (hS.1.alike.findClass _ _).trans k3, k4, k5, k6, k7, k8, rfl, Fr.app k10 q1, q2⟩ (V.step hC ⟨_, hS2, Nat.le_refl _⟩)
  rw [← o_push] at h1
  exact ⟨t, o, st.trans h1, h2⟩
theorem s_callI {a0 : Array Value} {index : Nat} {yn : MethodName} {J : OInfo} {as' : Array Value} {Q' : Option Value → Heap → Prop} {argsL : List Value} {a : Addr} {ws' : List Addr} (M : oCon C.l Z n0 EL ws' yn J as' h Q') (ha : (.ref a :: argsL).toArray = as') (hsub : ∀ x ∈ ws', x ∈ ws) (hr : J.ret = none) (hn : yn.name = "<init>")
    (w1 : (Jvm.Cond.methodLink I.own index yn).before a0 Z = true) (w2 : (Jvm.Cond.instanceMethod yn).before a0 Z = true) (w3 : (Jvm.Cond.initialized yn.cls).before a0 Z = true) (w4 : (Jvm.Cond.code yn J.bytes J.ml J.ret).before a0 Z = true) (hy : yn.cls ≠ "java/lang/invoke/MethodHandle" ∧ yn.cls ≠ "java/lang/invoke/VarHandle")
    (hlen : ∀ sig, parseMethodDescriptor yn.desc = some sig → argsL.length = sig.parameters.length) (hsz : L.size = I.ml) (hd : decode I.bytes pc = .ok (.invokespecial index, 3)) (hq : pc + 3 = pc') (hf : J.R.frames + 1 ≤ I.R.frames) (hlo : (S.map fun v => v.category).sum + (J.ml + 11) + J.R.locals ≤ I.R.locals) (hc : cs + J.R.cells ≤ I.R.cells) (hs : sl + J.R.slots ≤ I.R.slots)
    (r : ∀ v h', Q' v h' → oRun C Z n0 I EL ws Q h' (cs + J.R.cells) (sl + J.R.slots) (mkF C.m pc' L (oPush v S))) : oRun C Z n0 I EL ws Q h cs sl (mkF C.m pc L (argsL.reverse ++ .ref a :: S)) := by
  subst hq ha
  intro vm0 T locs K V
  obtain ⟨X, k1, k2, k3, k4, k5, k6, k7, k8, k9, k10, k11⟩ := K
  obtain ⟨v, _, ⟨T', L', c', s'⟩, -, X', hS, hg2, ⟨Lc, ⟨q1, q2, q3⟩, l', y', z', hC⟩, st⟩ := X.specialBackS k1 (y := yn) hn k3 (mvT k2 w1) (mvT k2 w2) (bytes := J.bytes) (maxL := J.ml) (by rw [hr] at w4; exact mvT k2 w4) hy (o_back (W := (S.map fun v => v.category).sum) M k11 k2 w4 w3 hf hlo V.1.choose_spec V.2.2.1.1 (fun x hx => V.2.2.2 x (hsub x hx))) (g := mkF C.m pc L (argsL.reverse ++ .ref a :: S)) rfl (hsz.trans k5.symm) (Steps.refl _) (argsL := argsL) (rest := S) hlen rfl (o_zero _ _ (Nat.le_refl _) _ _ _ _) (hb k4 hd) (fun _ _ => ⟨rfl, k9, hc, hs⟩)
  dsimp only [Pt.U, Pt.locs, Pt.cells, Pt.slots] at X' l' y' z' st q2 q3 hS hg2 hC
  subst l' y' z'
  obtain ⟨kk, hk1, hk2⟩ := V.2.1
  have hS2 : C.s.Since T'.vm T'.heap.size := hk1.trans hS (Nat.le_trans hk2 (by rw [← k9]; exact hg2))
  have hZ2 : Z.Warmed39 T'.vm := State.Warmed39.trans (t := C.s.setVm vm0) k2 hS.1
  obtain ⟨t, o, h1, h2⟩ := r v _ q3 T'.vm T' _ ⟨X', k1, hZ2, (hS.1.alike.findClass _ _).trans k3, k4, k5, k6, k7, k8, rfl, Fr.app k10 q1, q2⟩ (V.step hC ⟨_, hS2, Nat.le_refl _⟩)
  rw [← o_push] at h1
  exact ⟨t, o, st.trans h1, h2⟩
theorem s_callV {a0 : Array Value} {index : Nat} {Cn : String} {yn zn : MethodName} {J : OInfo} {as' : Array Value} {Q' : Option Value → Heap → Prop} {argsL : List Value} {a : Addr} {ws' : List Addr} (M : oCon C.l Z n0 EL ws' zn J as' h Q') (ha : (.ref a :: argsL).toArray = as') (hsub : ∀ x ∈ ws', x ∈ ws) (E : Exa Z h a Cn)
    (w1 : (Jvm.Cond.methodLink I.own index yn).before a0 Z = true) (w2 : (Jvm.Cond.declares yn).before a0 Z = true) (w5 : (Jvm.Cond.selects Cn yn zn).before a0 Z = true) (w6 : (Jvm.Cond.instanceMethod zn).before a0 Z = true) (nf : ∀ s' : State, Z.Warmed39 s'.vm → NotFace s' yn) (w3 : (Jvm.Cond.initialized zn.cls).before a0 Z = true) (w4 : (Jvm.Cond.code zn J.bytes J.ml J.ret).before a0 Z = true) (hy : yn.cls ≠ "java/lang/invoke/MethodHandle" ∧ yn.cls ≠ "java/lang/invoke/VarHandle")
    (hlen : ∀ sig, parseMethodDescriptor yn.desc = some sig → argsL.length = sig.parameters.length) (hsz : L.size = I.ml) (hd : decode I.bytes pc = .ok (.invokevirtual index, 3)) (hq : pc + 3 = pc') (hf : J.R.frames + 1 ≤ I.R.frames) (hlo : (S.map fun v => v.category).sum + (J.ml + 11) + J.R.locals ≤ I.R.locals) (hc : cs + J.R.cells ≤ I.R.cells) (hs : sl + J.R.slots ≤ I.R.slots)
    (r : ∀ v h', Q' v h' → oRun C Z n0 I EL ws Q h' (cs + J.R.cells) (sl + J.R.slots) (mkF C.m pc' L (oPush v S))) : oRun C Z n0 I EL ws Q h cs sl (mkF C.m pc L (argsL.reverse ++ .ref a :: S)) := by
  subst hq ha
  intro vm0 T locs K V
  obtain ⟨X, k1, k2, k3, k4, k5, k6, k7, k8, k9, k10, k11⟩ := K
  obtain ⟨cq, kq, qa, qb, qc⟩ := isOf (T := T) k2 k9 E
  obtain ⟨v, _, ⟨T', L', c', s'⟩, -, X', hS, hg2, ⟨Lc, ⟨q1, q2, q3⟩, l', y', z', hC⟩, st⟩ := X.virtualBackS k1 (y := yn) (z := zn) k3 (mvT k2 w1) (mvT k2 w2) (nf _ k2) (mvT k2 w5) (mvT k2 w6) hy (o_back (W := (S.map fun v => v.category).sum) M k11 k2 w4 w3 hf hlo V.1.choose_spec V.2.2.1.1 (fun x hx => V.2.2.2 x (hsub x hx))) qa qc (g := mkF C.m pc L (argsL.reverse ++ .ref a :: S)) rfl (hsz.trans k5.symm) (Steps.refl _) (argsL := argsL) (rest := S) hlen rfl (o_zero _ _ (Nat.le_refl _) _ _ _ _) (hb k4 hd) (fun _ _ => ⟨rfl, k9, hc, hs⟩)
  dsimp only [Pt.U, Pt.locs, Pt.cells, Pt.slots] at X' l' y' z' st q2 q3 hS hg2 hC
  subst l' y' z'
  obtain ⟨kk, hk1, hk2⟩ := V.2.1
  have hS2 : C.s.Since T'.vm T'.heap.size := hk1.trans hS (Nat.le_trans hk2 (by rw [← k9]; exact hg2))
  have hZ2 : Z.Warmed39 T'.vm := State.Warmed39.trans (t := C.s.setVm vm0) k2 hS.1
  obtain ⟨t, o, h1, h2⟩ := r v _ q3 T'.vm T' _ ⟨X', k1, hZ2, (hS.1.alike.findClass _ _).trans k3, k4, k5, k6, k7, k8, rfl, Fr.app k10 q1, q2⟩ (V.step hC ⟨_, hS2, Nat.le_refl _⟩)
  rw [← o_push] at h1
  exact ⟨t, o, st.trans h1, h2⟩
theorem o_nf {a0 : Array Value} {Cn : String} {yn zn : MethodName} (w5 : (Jvm.Cond.selects Cn yn zn).before a0 Z = true) (q : yn = zn) : ∀ s' : State, Z.Warmed39 s'.vm → NotFace s' yn := by
  subst q; exact fun s' hz => notFace_of_selects (args := #[]) (mvT hz w5)
theorem o_len {d : String} {ps : List FieldType} {r : Option FieldType} (hd : parseMethodDescriptor d = some ⟨ps, r⟩) {n : Nat} (hl : n = ps.length) : ∀ sig, parseMethodDescriptor d = some sig → n = sig.parameters.length := fun sig h => by
  cases hd.symm.trans h; exact hl
theorem s_callS0 {a0 : Array Value} {index : Nat} {yn : MethodName} {J : OInfo} {Q' : Option Value → Heap → Prop} {ws' : List Addr} (M : oCon C.l Z n0 EL ws' yn J #[] h Q') (hsub : ∀ x ∈ ws', x ∈ ws) (w1 : (Jvm.Cond.methodLink I.own index yn).before a0 Z = true) (w2 : (Jvm.Cond.static yn).before a0 Z = true) (w3 : (Jvm.Cond.initialized yn.cls).before a0 Z = true) (w4 : (Jvm.Cond.code yn J.bytes J.ml J.ret).before a0 Z = true) (hy : yn.cls ≠ "java/lang/invoke/MethodHandle" ∧ yn.cls ≠ "java/lang/invoke/VarHandle")
    (hlen : ∀ sig, parseMethodDescriptor yn.desc = some sig → 0 = sig.parameters.length) (hsz : L.size = I.ml) (hd : decode I.bytes pc = .ok (.invokestatic index, 3)) (hq : pc + 3 = pc') (hf : J.R.frames + 1 ≤ I.R.frames) (hlo : (S.map fun v => v.category).sum + (J.ml + 11) + J.R.locals ≤ I.R.locals) (hc : cs + J.R.cells ≤ I.R.cells) (hs : sl + J.R.slots ≤ I.R.slots)
    (r : ∀ v h', Q' v h' → oRun C Z n0 I EL ws Q h' (cs + J.R.cells) (sl + J.R.slots) (mkF C.m pc' L (oPush v S))) : oRun C Z n0 I EL ws Q h cs sl (mkF C.m pc L (S)) := s_callS (argsL := []) M rfl hsub w1 w2 w3 w4 hy hlen hsz hd hq hf hlo hc hs r
theorem s_callI0 {a0 : Array Value} {index : Nat} {yn : MethodName} {J : OInfo} {Q' : Option Value → Heap → Prop} {a : Addr} {ws' : List Addr} (M : oCon C.l Z n0 EL ws' yn J #[.ref a] h Q') (hsub : ∀ x ∈ ws', x ∈ ws) (hr : J.ret = none) (hn : yn.name = "<init>") (w1 : (Jvm.Cond.methodLink I.own index yn).before a0 Z = true) (w2 : (Jvm.Cond.instanceMethod yn).before a0 Z = true) (w3 : (Jvm.Cond.initialized yn.cls).before a0 Z = true) (w4 : (Jvm.Cond.code yn J.bytes J.ml J.ret).before a0 Z = true) (hy : yn.cls ≠ "java/lang/invoke/MethodHandle" ∧ yn.cls ≠ "java/lang/invoke/VarHandle")
    (hlen : ∀ sig, parseMethodDescriptor yn.desc = some sig → 0 = sig.parameters.length) (hsz : L.size = I.ml) (hd : decode I.bytes pc = .ok (.invokespecial index, 3)) (hq : pc + 3 = pc') (hf : J.R.frames + 1 ≤ I.R.frames) (hlo : (S.map fun v => v.category).sum + (J.ml + 11) + J.R.locals ≤ I.R.locals) (hc : cs + J.R.cells ≤ I.R.cells) (hs : sl + J.R.slots ≤ I.R.slots)
    (r : ∀ v h', Q' v h' → oRun C Z n0 I EL ws Q h' (cs + J.R.cells) (sl + J.R.slots) (mkF C.m pc' L (oPush v S))) : oRun C Z n0 I EL ws Q h cs sl (mkF C.m pc L (.ref a :: S)) := s_callI (argsL := []) M rfl hsub hr hn w1 w2 w3 w4 hy hlen hsz hd hq hf hlo hc hs r
theorem s_callV0 {a0 : Array Value} {index : Nat} {Cn : String} {yn zn : MethodName} {J : OInfo} {Q' : Option Value → Heap → Prop} {a : Addr} {ws' : List Addr} (M : oCon C.l Z n0 EL ws' zn J #[.ref a] h Q') (hsub : ∀ x ∈ ws', x ∈ ws) (E : Exa Z h a Cn) (w1 : (Jvm.Cond.methodLink I.own index yn).before a0 Z = true) (w2 : (Jvm.Cond.declares yn).before a0 Z = true) (w5 : (Jvm.Cond.selects Cn yn zn).before a0 Z = true) (w6 : (Jvm.Cond.instanceMethod zn).before a0 Z = true) (nf : ∀ s' : State, Z.Warmed39 s'.vm → NotFace s' yn) (w3 : (Jvm.Cond.initialized zn.cls).before a0 Z = true) (w4 : (Jvm.Cond.code zn J.bytes J.ml J.ret).before a0 Z = true) (hy : yn.cls ≠ "java/lang/invoke/MethodHandle" ∧ yn.cls ≠ "java/lang/invoke/VarHandle")
    (hlen : ∀ sig, parseMethodDescriptor yn.desc = some sig → 0 = sig.parameters.length) (hsz : L.size = I.ml) (hd : decode I.bytes pc = .ok (.invokevirtual index, 3)) (hq : pc + 3 = pc') (hf : J.R.frames + 1 ≤ I.R.frames) (hlo : (S.map fun v => v.category).sum + (J.ml + 11) + J.R.locals ≤ I.R.locals) (hc : cs + J.R.cells ≤ I.R.cells) (hs : sl + J.R.slots ≤ I.R.slots)
    (r : ∀ v h', Q' v h' → oRun C Z n0 I EL ws Q h' (cs + J.R.cells) (sl + J.R.slots) (mkF C.m pc' L (oPush v S))) : oRun C Z n0 I EL ws Q h cs sl (mkF C.m pc L (.ref a :: S)) := s_callV (argsL := []) M rfl hsub E w1 w2 w5 w6 nf w3 w4 hy hlen hsz hd hq hf hlo hc hs r
theorem s_callS1 {a0 : Array Value} {index : Nat} {yn : MethodName} {J : OInfo} {Q' : Option Value → Heap → Prop} {ws' : List Addr} {v0 : Value} (M : oCon C.l Z n0 EL ws' yn J #[v0] h Q') (hsub : ∀ x ∈ ws', x ∈ ws) (w1 : (Jvm.Cond.methodLink I.own index yn).before a0 Z = true) (w2 : (Jvm.Cond.static yn).before a0 Z = true) (w3 : (Jvm.Cond.initialized yn.cls).before a0 Z = true) (w4 : (Jvm.Cond.code yn J.bytes J.ml J.ret).before a0 Z = true) (hy : yn.cls ≠ "java/lang/invoke/MethodHandle" ∧ yn.cls ≠ "java/lang/invoke/VarHandle")
    (hlen : ∀ sig, parseMethodDescriptor yn.desc = some sig → 1 = sig.parameters.length) (hsz : L.size = I.ml) (hd : decode I.bytes pc = .ok (.invokestatic index, 3)) (hq : pc + 3 = pc') (hf : J.R.frames + 1 ≤ I.R.frames) (hlo : (S.map fun v => v.category).sum + (J.ml + 11) + J.R.locals ≤ I.R.locals) (hc : cs + J.R.cells ≤ I.R.cells) (hs : sl + J.R.slots ≤ I.R.slots)
    (r : ∀ v h', Q' v h' → oRun C Z n0 I EL ws Q h' (cs + J.R.cells) (sl + J.R.slots) (mkF C.m pc' L (oPush v S))) : oRun C Z n0 I EL ws Q h cs sl (mkF C.m pc L (v0 :: S)) := s_callS (argsL := [v0]) M rfl hsub w1 w2 w3 w4 hy hlen hsz hd hq hf hlo hc hs r
theorem s_callI1 {a0 : Array Value} {index : Nat} {yn : MethodName} {J : OInfo} {Q' : Option Value → Heap → Prop} {a : Addr} {ws' : List Addr} {v0 : Value} (M : oCon C.l Z n0 EL ws' yn J #[.ref a, v0] h Q') (hsub : ∀ x ∈ ws', x ∈ ws) (hr : J.ret = none) (hn : yn.name = "<init>") (w1 : (Jvm.Cond.methodLink I.own index yn).before a0 Z = true) (w2 : (Jvm.Cond.instanceMethod yn).before a0 Z = true) (w3 : (Jvm.Cond.initialized yn.cls).before a0 Z = true) (w4 : (Jvm.Cond.code yn J.bytes J.ml J.ret).before a0 Z = true) (hy : yn.cls ≠ "java/lang/invoke/MethodHandle" ∧ yn.cls ≠ "java/lang/invoke/VarHandle")
    (hlen : ∀ sig, parseMethodDescriptor yn.desc = some sig → 1 = sig.parameters.length) (hsz : L.size = I.ml) (hd : decode I.bytes pc = .ok (.invokespecial index, 3)) (hq : pc + 3 = pc') (hf : J.R.frames + 1 ≤ I.R.frames) (hlo : (S.map fun v => v.category).sum + (J.ml + 11) + J.R.locals ≤ I.R.locals) (hc : cs + J.R.cells ≤ I.R.cells) (hs : sl + J.R.slots ≤ I.R.slots)
    (r : ∀ v h', Q' v h' → oRun C Z n0 I EL ws Q h' (cs + J.R.cells) (sl + J.R.slots) (mkF C.m pc' L (oPush v S))) : oRun C Z n0 I EL ws Q h cs sl (mkF C.m pc L (v0 :: .ref a :: S)) := s_callI (argsL := [v0]) M rfl hsub hr hn w1 w2 w3 w4 hy hlen hsz hd hq hf hlo hc hs r
theorem s_callV1 {a0 : Array Value} {index : Nat} {Cn : String} {yn zn : MethodName} {J : OInfo} {Q' : Option Value → Heap → Prop} {a : Addr} {ws' : List Addr} {v0 : Value} (M : oCon C.l Z n0 EL ws' zn J #[.ref a, v0] h Q') (hsub : ∀ x ∈ ws', x ∈ ws) (E : Exa Z h a Cn) (w1 : (Jvm.Cond.methodLink I.own index yn).before a0 Z = true) (w2 : (Jvm.Cond.declares yn).before a0 Z = true) (w5 : (Jvm.Cond.selects Cn yn zn).before a0 Z = true) (w6 : (Jvm.Cond.instanceMethod zn).before a0 Z = true) (nf : ∀ s' : State, Z.Warmed39 s'.vm → NotFace s' yn) (w3 : (Jvm.Cond.initialized zn.cls).before a0 Z = true) (w4 : (Jvm.Cond.code zn J.bytes J.ml J.ret).before a0 Z = true) (hy : yn.cls ≠ "java/lang/invoke/MethodHandle" ∧ yn.cls ≠ "java/lang/invoke/VarHandle")
    (hlen : ∀ sig, parseMethodDescriptor yn.desc = some sig → 1 = sig.parameters.length) (hsz : L.size = I.ml) (hd : decode I.bytes pc = .ok (.invokevirtual index, 3)) (hq : pc + 3 = pc') (hf : J.R.frames + 1 ≤ I.R.frames) (hlo : (S.map fun v => v.category).sum + (J.ml + 11) + J.R.locals ≤ I.R.locals) (hc : cs + J.R.cells ≤ I.R.cells) (hs : sl + J.R.slots ≤ I.R.slots)
    (r : ∀ v h', Q' v h' → oRun C Z n0 I EL ws Q h' (cs + J.R.cells) (sl + J.R.slots) (mkF C.m pc' L (oPush v S))) : oRun C Z n0 I EL ws Q h cs sl (mkF C.m pc L (v0 :: .ref a :: S)) := s_callV (argsL := [v0]) M rfl hsub E w1 w2 w5 w6 nf w3 w4 hy hlen hsz hd hq hf hlo hc hs r
theorem s_callS2 {a0 : Array Value} {index : Nat} {yn : MethodName} {J : OInfo} {Q' : Option Value → Heap → Prop} {ws' : List Addr} {v0 v1 : Value} (M : oCon C.l Z n0 EL ws' yn J #[v0, v1] h Q') (hsub : ∀ x ∈ ws', x ∈ ws) (w1 : (Jvm.Cond.methodLink I.own index yn).before a0 Z = true) (w2 : (Jvm.Cond.static yn).before a0 Z = true) (w3 : (Jvm.Cond.initialized yn.cls).before a0 Z = true) (w4 : (Jvm.Cond.code yn J.bytes J.ml J.ret).before a0 Z = true) (hy : yn.cls ≠ "java/lang/invoke/MethodHandle" ∧ yn.cls ≠ "java/lang/invoke/VarHandle")
    (hlen : ∀ sig, parseMethodDescriptor yn.desc = some sig → 2 = sig.parameters.length) (hsz : L.size = I.ml) (hd : decode I.bytes pc = .ok (.invokestatic index, 3)) (hq : pc + 3 = pc') (hf : J.R.frames + 1 ≤ I.R.frames) (hlo : (S.map fun v => v.category).sum + (J.ml + 11) + J.R.locals ≤ I.R.locals) (hc : cs + J.R.cells ≤ I.R.cells) (hs : sl + J.R.slots ≤ I.R.slots)
    (r : ∀ v h', Q' v h' → oRun C Z n0 I EL ws Q h' (cs + J.R.cells) (sl + J.R.slots) (mkF C.m pc' L (oPush v S))) : oRun C Z n0 I EL ws Q h cs sl (mkF C.m pc L (v1 :: v0 :: S)) := s_callS (argsL := [v0, v1]) M rfl hsub w1 w2 w3 w4 hy hlen hsz hd hq hf hlo hc hs r
theorem s_callI2 {a0 : Array Value} {index : Nat} {yn : MethodName} {J : OInfo} {Q' : Option Value → Heap → Prop} {a : Addr} {ws' : List Addr} {v0 v1 : Value} (M : oCon C.l Z n0 EL ws' yn J #[.ref a, v0, v1] h Q') (hsub : ∀ x ∈ ws', x ∈ ws) (hr : J.ret = none) (hn : yn.name = "<init>") (w1 : (Jvm.Cond.methodLink I.own index yn).before a0 Z = true) (w2 : (Jvm.Cond.instanceMethod yn).before a0 Z = true) (w3 : (Jvm.Cond.initialized yn.cls).before a0 Z = true) (w4 : (Jvm.Cond.code yn J.bytes J.ml J.ret).before a0 Z = true) (hy : yn.cls ≠ "java/lang/invoke/MethodHandle" ∧ yn.cls ≠ "java/lang/invoke/VarHandle")
    (hlen : ∀ sig, parseMethodDescriptor yn.desc = some sig → 2 = sig.parameters.length) (hsz : L.size = I.ml) (hd : decode I.bytes pc = .ok (.invokespecial index, 3)) (hq : pc + 3 = pc') (hf : J.R.frames + 1 ≤ I.R.frames) (hlo : (S.map fun v => v.category).sum + (J.ml + 11) + J.R.locals ≤ I.R.locals) (hc : cs + J.R.cells ≤ I.R.cells) (hs : sl + J.R.slots ≤ I.R.slots)
    (r : ∀ v h', Q' v h' → oRun C Z n0 I EL ws Q h' (cs + J.R.cells) (sl + J.R.slots) (mkF C.m pc' L (oPush v S))) : oRun C Z n0 I EL ws Q h cs sl (mkF C.m pc L (v1 :: v0 :: .ref a :: S)) := s_callI (argsL := [v0, v1]) M rfl hsub hr hn w1 w2 w3 w4 hy hlen hsz hd hq hf hlo hc hs r
theorem s_callV2 {a0 : Array Value} {index : Nat} {Cn : String} {yn zn : MethodName} {J : OInfo} {Q' : Option Value → Heap → Prop} {a : Addr} {ws' : List Addr} {v0 v1 : Value} (M : oCon C.l Z n0 EL ws' zn J #[.ref a, v0, v1] h Q') (hsub : ∀ x ∈ ws', x ∈ ws) (E : Exa Z h a Cn) (w1 : (Jvm.Cond.methodLink I.own index yn).before a0 Z = true) (w2 : (Jvm.Cond.declares yn).before a0 Z = true) (w5 : (Jvm.Cond.selects Cn yn zn).before a0 Z = true) (w6 : (Jvm.Cond.instanceMethod zn).before a0 Z = true) (nf : ∀ s' : State, Z.Warmed39 s'.vm → NotFace s' yn) (w3 : (Jvm.Cond.initialized zn.cls).before a0 Z = true) (w4 : (Jvm.Cond.code zn J.bytes J.ml J.ret).before a0 Z = true) (hy : yn.cls ≠ "java/lang/invoke/MethodHandle" ∧ yn.cls ≠ "java/lang/invoke/VarHandle")
    (hlen : ∀ sig, parseMethodDescriptor yn.desc = some sig → 2 = sig.parameters.length) (hsz : L.size = I.ml) (hd : decode I.bytes pc = .ok (.invokevirtual index, 3)) (hq : pc + 3 = pc') (hf : J.R.frames + 1 ≤ I.R.frames) (hlo : (S.map fun v => v.category).sum + (J.ml + 11) + J.R.locals ≤ I.R.locals) (hc : cs + J.R.cells ≤ I.R.cells) (hs : sl + J.R.slots ≤ I.R.slots)
    (r : ∀ v h', Q' v h' → oRun C Z n0 I EL ws Q h' (cs + J.R.cells) (sl + J.R.slots) (mkF C.m pc' L (oPush v S))) : oRun C Z n0 I EL ws Q h cs sl (mkF C.m pc L (v1 :: v0 :: .ref a :: S)) := s_callV (argsL := [v0, v1]) M rfl hsub E w1 w2 w5 w6 nf w3 w4 hy hlen hsz hd hq hf hlo hc hs r
theorem s_callS3 {a0 : Array Value} {index : Nat} {yn : MethodName} {J : OInfo} {Q' : Option Value → Heap → Prop} {ws' : List Addr} {v0 v1 v2 : Value} (M : oCon C.l Z n0 EL ws' yn J #[v0, v1, v2] h Q') (hsub : ∀ x ∈ ws', x ∈ ws) (w1 : (Jvm.Cond.methodLink I.own index yn).before a0 Z = true) (w2 : (Jvm.Cond.static yn).before a0 Z = true) (w3 : (Jvm.Cond.initialized yn.cls).before a0 Z = true) (w4 : (Jvm.Cond.code yn J.bytes J.ml J.ret).before a0 Z = true) (hy : yn.cls ≠ "java/lang/invoke/MethodHandle" ∧ yn.cls ≠ "java/lang/invoke/VarHandle")
    (hlen : ∀ sig, parseMethodDescriptor yn.desc = some sig → 3 = sig.parameters.length) (hsz : L.size = I.ml) (hd : decode I.bytes pc = .ok (.invokestatic index, 3)) (hq : pc + 3 = pc') (hf : J.R.frames + 1 ≤ I.R.frames) (hlo : (S.map fun v => v.category).sum + (J.ml + 11) + J.R.locals ≤ I.R.locals) (hc : cs + J.R.cells ≤ I.R.cells) (hs : sl + J.R.slots ≤ I.R.slots)
    (r : ∀ v h', Q' v h' → oRun C Z n0 I EL ws Q h' (cs + J.R.cells) (sl + J.R.slots) (mkF C.m pc' L (oPush v S))) : oRun C Z n0 I EL ws Q h cs sl (mkF C.m pc L (v2 :: v1 :: v0 :: S)) := s_callS (argsL := [v0, v1, v2]) M rfl hsub w1 w2 w3 w4 hy hlen hsz hd hq hf hlo hc hs r
theorem s_callI3 {a0 : Array Value} {index : Nat} {yn : MethodName} {J : OInfo} {Q' : Option Value → Heap → Prop} {a : Addr} {ws' : List Addr} {v0 v1 v2 : Value} (M : oCon C.l Z n0 EL ws' yn J #[.ref a, v0, v1, v2] h Q') (hsub : ∀ x ∈ ws', x ∈ ws) (hr : J.ret = none) (hn : yn.name = "<init>") (w1 : (Jvm.Cond.methodLink I.own index yn).before a0 Z = true) (w2 : (Jvm.Cond.instanceMethod yn).before a0 Z = true) (w3 : (Jvm.Cond.initialized yn.cls).before a0 Z = true) (w4 : (Jvm.Cond.code yn J.bytes J.ml J.ret).before a0 Z = true) (hy : yn.cls ≠ "java/lang/invoke/MethodHandle" ∧ yn.cls ≠ "java/lang/invoke/VarHandle")
    (hlen : ∀ sig, parseMethodDescriptor yn.desc = some sig → 3 = sig.parameters.length) (hsz : L.size = I.ml) (hd : decode I.bytes pc = .ok (.invokespecial index, 3)) (hq : pc + 3 = pc') (hf : J.R.frames + 1 ≤ I.R.frames) (hlo : (S.map fun v => v.category).sum + (J.ml + 11) + J.R.locals ≤ I.R.locals) (hc : cs + J.R.cells ≤ I.R.cells) (hs : sl + J.R.slots ≤ I.R.slots)
    (r : ∀ v h', Q' v h' → oRun C Z n0 I EL ws Q h' (cs + J.R.cells) (sl + J.R.slots) (mkF C.m pc' L (oPush v S))) : oRun C Z n0 I EL ws Q h cs sl (mkF C.m pc L (v2 :: v1 :: v0 :: .ref a :: S)) := s_callI (argsL := [v0, v1, v2]) M rfl hsub hr hn w1 w2 w3 w4 hy hlen hsz hd hq hf hlo hc hs r
theorem s_callV3 {a0 : Array Value} {index : Nat} {Cn : String} {yn zn : MethodName} {J : OInfo} {Q' : Option Value → Heap → Prop} {a : Addr} {ws' : List Addr} {v0 v1 v2 : Value} (M : oCon C.l Z n0 EL ws' zn J #[.ref a, v0, v1, v2] h Q') (hsub : ∀ x ∈ ws', x ∈ ws) (E : Exa Z h a Cn) (w1 : (Jvm.Cond.methodLink I.own index yn).before a0 Z = true) (w2 : (Jvm.Cond.declares yn).before a0 Z = true) (w5 : (Jvm.Cond.selects Cn yn zn).before a0 Z = true) (w6 : (Jvm.Cond.instanceMethod zn).before a0 Z = true) (nf : ∀ s' : State, Z.Warmed39 s'.vm → NotFace s' yn) (w3 : (Jvm.Cond.initialized zn.cls).before a0 Z = true) (w4 : (Jvm.Cond.code zn J.bytes J.ml J.ret).before a0 Z = true) (hy : yn.cls ≠ "java/lang/invoke/MethodHandle" ∧ yn.cls ≠ "java/lang/invoke/VarHandle")
    (hlen : ∀ sig, parseMethodDescriptor yn.desc = some sig → 3 = sig.parameters.length) (hsz : L.size = I.ml) (hd : decode I.bytes pc = .ok (.invokevirtual index, 3)) (hq : pc + 3 = pc') (hf : J.R.frames + 1 ≤ I.R.frames) (hlo : (S.map fun v => v.category).sum + (J.ml + 11) + J.R.locals ≤ I.R.locals) (hc : cs + J.R.cells ≤ I.R.cells) (hs : sl + J.R.slots ≤ I.R.slots)
    (r : ∀ v h', Q' v h' → oRun C Z n0 I EL ws Q h' (cs + J.R.cells) (sl + J.R.slots) (mkF C.m pc' L (oPush v S))) : oRun C Z n0 I EL ws Q h cs sl (mkF C.m pc L (v2 :: v1 :: v0 :: .ref a :: S)) := s_callV (argsL := [v0, v1, v2]) M rfl hsub E w1 w2 w5 w6 nf w3 w4 hy hlen hsz hd hq hf hlo hc hs r
theorem s_callS4 {a0 : Array Value} {index : Nat} {yn : MethodName} {J : OInfo} {Q' : Option Value → Heap → Prop} {ws' : List Addr} {v0 v1 v2 v3 : Value} (M : oCon C.l Z n0 EL ws' yn J #[v0, v1, v2, v3] h Q') (hsub : ∀ x ∈ ws', x ∈ ws) (w1 : (Jvm.Cond.methodLink I.own index yn).before a0 Z = true) (w2 : (Jvm.Cond.static yn).before a0 Z = true) (w3 : (Jvm.Cond.initialized yn.cls).before a0 Z = true) (w4 : (Jvm.Cond.code yn J.bytes J.ml J.ret).before a0 Z = true) (hy : yn.cls ≠ "java/lang/invoke/MethodHandle" ∧ yn.cls ≠ "java/lang/invoke/VarHandle")
    (hlen : ∀ sig, parseMethodDescriptor yn.desc = some sig → 4 = sig.parameters.length) (hsz : L.size = I.ml) (hd : decode I.bytes pc = .ok (.invokestatic index, 3)) (hq : pc + 3 = pc') (hf : J.R.frames + 1 ≤ I.R.frames) (hlo : (S.map fun v => v.category).sum + (J.ml + 11) + J.R.locals ≤ I.R.locals) (hc : cs + J.R.cells ≤ I.R.cells) (hs : sl + J.R.slots ≤ I.R.slots)
    (r : ∀ v h', Q' v h' → oRun C Z n0 I EL ws Q h' (cs + J.R.cells) (sl + J.R.slots) (mkF C.m pc' L (oPush v S))) : oRun C Z n0 I EL ws Q h cs sl (mkF C.m pc L (v3 :: v2 :: v1 :: v0 :: S)) := s_callS (argsL := [v0, v1, v2, v3]) M rfl hsub w1 w2 w3 w4 hy hlen hsz hd hq hf hlo hc hs r
theorem s_callI4 {a0 : Array Value} {index : Nat} {yn : MethodName} {J : OInfo} {Q' : Option Value → Heap → Prop} {a : Addr} {ws' : List Addr} {v0 v1 v2 v3 : Value} (M : oCon C.l Z n0 EL ws' yn J #[.ref a, v0, v1, v2, v3] h Q') (hsub : ∀ x ∈ ws', x ∈ ws) (hr : J.ret = none) (hn : yn.name = "<init>") (w1 : (Jvm.Cond.methodLink I.own index yn).before a0 Z = true) (w2 : (Jvm.Cond.instanceMethod yn).before a0 Z = true) (w3 : (Jvm.Cond.initialized yn.cls).before a0 Z = true) (w4 : (Jvm.Cond.code yn J.bytes J.ml J.ret).before a0 Z = true) (hy : yn.cls ≠ "java/lang/invoke/MethodHandle" ∧ yn.cls ≠ "java/lang/invoke/VarHandle")
    (hlen : ∀ sig, parseMethodDescriptor yn.desc = some sig → 4 = sig.parameters.length) (hsz : L.size = I.ml) (hd : decode I.bytes pc = .ok (.invokespecial index, 3)) (hq : pc + 3 = pc') (hf : J.R.frames + 1 ≤ I.R.frames) (hlo : (S.map fun v => v.category).sum + (J.ml + 11) + J.R.locals ≤ I.R.locals) (hc : cs + J.R.cells ≤ I.R.cells) (hs : sl + J.R.slots ≤ I.R.slots)
    (r : ∀ v h', Q' v h' → oRun C Z n0 I EL ws Q h' (cs + J.R.cells) (sl + J.R.slots) (mkF C.m pc' L (oPush v S))) : oRun C Z n0 I EL ws Q h cs sl (mkF C.m pc L (v3 :: v2 :: v1 :: v0 :: .ref a :: S)) := s_callI (argsL := [v0, v1, v2, v3]) M rfl hsub hr hn w1 w2 w3 w4 hy hlen hsz hd hq hf hlo hc hs r
theorem s_callV4 {a0 : Array Value} {index : Nat} {Cn : String} {yn zn : MethodName} {J : OInfo} {Q' : Option Value → Heap → Prop} {a : Addr} {ws' : List Addr} {v0 v1 v2 v3 : Value} (M : oCon C.l Z n0 EL ws' zn J #[.ref a, v0, v1, v2, v3] h Q') (hsub : ∀ x ∈ ws', x ∈ ws) (E : Exa Z h a Cn) (w1 : (Jvm.Cond.methodLink I.own index yn).before a0 Z = true) (w2 : (Jvm.Cond.declares yn).before a0 Z = true) (w5 : (Jvm.Cond.selects Cn yn zn).before a0 Z = true) (w6 : (Jvm.Cond.instanceMethod zn).before a0 Z = true) (nf : ∀ s' : State, Z.Warmed39 s'.vm → NotFace s' yn) (w3 : (Jvm.Cond.initialized zn.cls).before a0 Z = true) (w4 : (Jvm.Cond.code zn J.bytes J.ml J.ret).before a0 Z = true) (hy : yn.cls ≠ "java/lang/invoke/MethodHandle" ∧ yn.cls ≠ "java/lang/invoke/VarHandle")
    (hlen : ∀ sig, parseMethodDescriptor yn.desc = some sig → 4 = sig.parameters.length) (hsz : L.size = I.ml) (hd : decode I.bytes pc = .ok (.invokevirtual index, 3)) (hq : pc + 3 = pc') (hf : J.R.frames + 1 ≤ I.R.frames) (hlo : (S.map fun v => v.category).sum + (J.ml + 11) + J.R.locals ≤ I.R.locals) (hc : cs + J.R.cells ≤ I.R.cells) (hs : sl + J.R.slots ≤ I.R.slots)
    (r : ∀ v h', Q' v h' → oRun C Z n0 I EL ws Q h' (cs + J.R.cells) (sl + J.R.slots) (mkF C.m pc' L (oPush v S))) : oRun C Z n0 I EL ws Q h cs sl (mkF C.m pc L (v3 :: v2 :: v1 :: v0 :: .ref a :: S)) := s_callV (argsL := [v0, v1, v2, v3]) M rfl hsub E w1 w2 w5 w6 nf w3 w4 hy hlen hsz hd hq hf hlo hc hs r
theorem s_callS5 {a0 : Array Value} {index : Nat} {yn : MethodName} {J : OInfo} {Q' : Option Value → Heap → Prop} {ws' : List Addr} {v0 v1 v2 v3 v4 : Value} (M : oCon C.l Z n0 EL ws' yn J #[v0, v1, v2, v3, v4] h Q') (hsub : ∀ x ∈ ws', x ∈ ws) (w1 : (Jvm.Cond.methodLink I.own index yn).before a0 Z = true) (w2 : (Jvm.Cond.static yn).before a0 Z = true) (w3 : (Jvm.Cond.initialized yn.cls).before a0 Z = true) (w4 : (Jvm.Cond.code yn J.bytes J.ml J.ret).before a0 Z = true) (hy : yn.cls ≠ "java/lang/invoke/MethodHandle" ∧ yn.cls ≠ "java/lang/invoke/VarHandle")
    (hlen : ∀ sig, parseMethodDescriptor yn.desc = some sig → 5 = sig.parameters.length) (hsz : L.size = I.ml) (hd : decode I.bytes pc = .ok (.invokestatic index, 3)) (hq : pc + 3 = pc') (hf : J.R.frames + 1 ≤ I.R.frames) (hlo : (S.map fun v => v.category).sum + (J.ml + 11) + J.R.locals ≤ I.R.locals) (hc : cs + J.R.cells ≤ I.R.cells) (hs : sl + J.R.slots ≤ I.R.slots)
    (r : ∀ v h', Q' v h' → oRun C Z n0 I EL ws Q h' (cs + J.R.cells) (sl + J.R.slots) (mkF C.m pc' L (oPush v S))) : oRun C Z n0 I EL ws Q h cs sl (mkF C.m pc L (v4 :: v3 :: v2 :: v1 :: v0 :: S)) := s_callS (argsL := [v0, v1, v2, v3, v4]) M rfl hsub w1 w2 w3 w4 hy hlen hsz hd hq hf hlo hc hs r
theorem s_callI5 {a0 : Array Value} {index : Nat} {yn : MethodName} {J : OInfo} {Q' : Option Value → Heap → Prop} {a : Addr} {ws' : List Addr} {v0 v1 v2 v3 v4 : Value} (M : oCon C.l Z n0 EL ws' yn J #[.ref a, v0, v1, v2, v3, v4] h Q') (hsub : ∀ x ∈ ws', x ∈ ws) (hr : J.ret = none) (hn : yn.name = "<init>") (w1 : (Jvm.Cond.methodLink I.own index yn).before a0 Z = true) (w2 : (Jvm.Cond.instanceMethod yn).before a0 Z = true) (w3 : (Jvm.Cond.initialized yn.cls).before a0 Z = true) (w4 : (Jvm.Cond.code yn J.bytes J.ml J.ret).before a0 Z = true) (hy : yn.cls ≠ "java/lang/invoke/MethodHandle" ∧ yn.cls ≠ "java/lang/invoke/VarHandle")
    (hlen : ∀ sig, parseMethodDescriptor yn.desc = some sig → 5 = sig.parameters.length) (hsz : L.size = I.ml) (hd : decode I.bytes pc = .ok (.invokespecial index, 3)) (hq : pc + 3 = pc') (hf : J.R.frames + 1 ≤ I.R.frames) (hlo : (S.map fun v => v.category).sum + (J.ml + 11) + J.R.locals ≤ I.R.locals) (hc : cs + J.R.cells ≤ I.R.cells) (hs : sl + J.R.slots ≤ I.R.slots)
    (r : ∀ v h', Q' v h' → oRun C Z n0 I EL ws Q h' (cs + J.R.cells) (sl + J.R.slots) (mkF C.m pc' L (oPush v S))) : oRun C Z n0 I EL ws Q h cs sl (mkF C.m pc L (v4 :: v3 :: v2 :: v1 :: v0 :: .ref a :: S)) := s_callI (argsL := [v0, v1, v2, v3, v4]) M rfl hsub hr hn w1 w2 w3 w4 hy hlen hsz hd hq hf hlo hc hs r
theorem s_callV5 {a0 : Array Value} {index : Nat} {Cn : String} {yn zn : MethodName} {J : OInfo} {Q' : Option Value → Heap → Prop} {a : Addr} {ws' : List Addr} {v0 v1 v2 v3 v4 : Value} (M : oCon C.l Z n0 EL ws' zn J #[.ref a, v0, v1, v2, v3, v4] h Q') (hsub : ∀ x ∈ ws', x ∈ ws) (E : Exa Z h a Cn) (w1 : (Jvm.Cond.methodLink I.own index yn).before a0 Z = true) (w2 : (Jvm.Cond.declares yn).before a0 Z = true) (w5 : (Jvm.Cond.selects Cn yn zn).before a0 Z = true) (w6 : (Jvm.Cond.instanceMethod zn).before a0 Z = true) (nf : ∀ s' : State, Z.Warmed39 s'.vm → NotFace s' yn) (w3 : (Jvm.Cond.initialized zn.cls).before a0 Z = true) (w4 : (Jvm.Cond.code zn J.bytes J.ml J.ret).before a0 Z = true) (hy : yn.cls ≠ "java/lang/invoke/MethodHandle" ∧ yn.cls ≠ "java/lang/invoke/VarHandle")
    (hlen : ∀ sig, parseMethodDescriptor yn.desc = some sig → 5 = sig.parameters.length) (hsz : L.size = I.ml) (hd : decode I.bytes pc = .ok (.invokevirtual index, 3)) (hq : pc + 3 = pc') (hf : J.R.frames + 1 ≤ I.R.frames) (hlo : (S.map fun v => v.category).sum + (J.ml + 11) + J.R.locals ≤ I.R.locals) (hc : cs + J.R.cells ≤ I.R.cells) (hs : sl + J.R.slots ≤ I.R.slots)
    (r : ∀ v h', Q' v h' → oRun C Z n0 I EL ws Q h' (cs + J.R.cells) (sl + J.R.slots) (mkF C.m pc' L (oPush v S))) : oRun C Z n0 I EL ws Q h cs sl (mkF C.m pc L (v4 :: v3 :: v2 :: v1 :: v0 :: .ref a :: S)) := s_callV (argsL := [v0, v1, v2, v3, v4]) M rfl hsub E w1 w2 w5 w6 nf w3 w4 hy hlen hsz hd hq hf hlo hc hs r
theorem s_callS6 {a0 : Array Value} {index : Nat} {yn : MethodName} {J : OInfo} {Q' : Option Value → Heap → Prop} {ws' : List Addr} {v0 v1 v2 v3 v4 v5 : Value} (M : oCon C.l Z n0 EL ws' yn J #[v0, v1, v2, v3, v4, v5] h Q') (hsub : ∀ x ∈ ws', x ∈ ws) (w1 : (Jvm.Cond.methodLink I.own index yn).before a0 Z = true) (w2 : (Jvm.Cond.static yn).before a0 Z = true) (w3 : (Jvm.Cond.initialized yn.cls).before a0 Z = true) (w4 : (Jvm.Cond.code yn J.bytes J.ml J.ret).before a0 Z = true) (hy : yn.cls ≠ "java/lang/invoke/MethodHandle" ∧ yn.cls ≠ "java/lang/invoke/VarHandle")
    (hlen : ∀ sig, parseMethodDescriptor yn.desc = some sig → 6 = sig.parameters.length) (hsz : L.size = I.ml) (hd : decode I.bytes pc = .ok (.invokestatic index, 3)) (hq : pc + 3 = pc') (hf : J.R.frames + 1 ≤ I.R.frames) (hlo : (S.map fun v => v.category).sum + (J.ml + 11) + J.R.locals ≤ I.R.locals) (hc : cs + J.R.cells ≤ I.R.cells) (hs : sl + J.R.slots ≤ I.R.slots)
    (r : ∀ v h', Q' v h' → oRun C Z n0 I EL ws Q h' (cs + J.R.cells) (sl + J.R.slots) (mkF C.m pc' L (oPush v S))) : oRun C Z n0 I EL ws Q h cs sl (mkF C.m pc L (v5 :: v4 :: v3 :: v2 :: v1 :: v0 :: S)) := s_callS (argsL := [v0, v1, v2, v3, v4, v5]) M rfl hsub w1 w2 w3 w4 hy hlen hsz hd hq hf hlo hc hs r
theorem s_callI6 {a0 : Array Value} {index : Nat} {yn : MethodName} {J : OInfo} {Q' : Option Value → Heap → Prop} {a : Addr} {ws' : List Addr} {v0 v1 v2 v3 v4 v5 : Value} (M : oCon C.l Z n0 EL ws' yn J #[.ref a, v0, v1, v2, v3, v4, v5] h Q') (hsub : ∀ x ∈ ws', x ∈ ws) (hr : J.ret = none) (hn : yn.name = "<init>") (w1 : (Jvm.Cond.methodLink I.own index yn).before a0 Z = true) (w2 : (Jvm.Cond.instanceMethod yn).before a0 Z = true) (w3 : (Jvm.Cond.initialized yn.cls).before a0 Z = true) (w4 : (Jvm.Cond.code yn J.bytes J.ml J.ret).before a0 Z = true) (hy : yn.cls ≠ "java/lang/invoke/MethodHandle" ∧ yn.cls ≠ "java/lang/invoke/VarHandle")
    (hlen : ∀ sig, parseMethodDescriptor yn.desc = some sig → 6 = sig.parameters.length) (hsz : L.size = I.ml) (hd : decode I.bytes pc = .ok (.invokespecial index, 3)) (hq : pc + 3 = pc') (hf : J.R.frames + 1 ≤ I.R.frames) (hlo : (S.map fun v => v.category).sum + (J.ml + 11) + J.R.locals ≤ I.R.locals) (hc : cs + J.R.cells ≤ I.R.cells) (hs : sl + J.R.slots ≤ I.R.slots)
    (r : ∀ v h', Q' v h' → oRun C Z n0 I EL ws Q h' (cs + J.R.cells) (sl + J.R.slots) (mkF C.m pc' L (oPush v S))) : oRun C Z n0 I EL ws Q h cs sl (mkF C.m pc L (v5 :: v4 :: v3 :: v2 :: v1 :: v0 :: .ref a :: S)) := s_callI (argsL := [v0, v1, v2, v3, v4, v5]) M rfl hsub hr hn w1 w2 w3 w4 hy hlen hsz hd hq hf hlo hc hs r
theorem s_callV6 {a0 : Array Value} {index : Nat} {Cn : String} {yn zn : MethodName} {J : OInfo} {Q' : Option Value → Heap → Prop} {a : Addr} {ws' : List Addr} {v0 v1 v2 v3 v4 v5 : Value} (M : oCon C.l Z n0 EL ws' zn J #[.ref a, v0, v1, v2, v3, v4, v5] h Q') (hsub : ∀ x ∈ ws', x ∈ ws) (E : Exa Z h a Cn) (w1 : (Jvm.Cond.methodLink I.own index yn).before a0 Z = true) (w2 : (Jvm.Cond.declares yn).before a0 Z = true) (w5 : (Jvm.Cond.selects Cn yn zn).before a0 Z = true) (w6 : (Jvm.Cond.instanceMethod zn).before a0 Z = true) (nf : ∀ s' : State, Z.Warmed39 s'.vm → NotFace s' yn) (w3 : (Jvm.Cond.initialized zn.cls).before a0 Z = true) (w4 : (Jvm.Cond.code zn J.bytes J.ml J.ret).before a0 Z = true) (hy : yn.cls ≠ "java/lang/invoke/MethodHandle" ∧ yn.cls ≠ "java/lang/invoke/VarHandle")
    (hlen : ∀ sig, parseMethodDescriptor yn.desc = some sig → 6 = sig.parameters.length) (hsz : L.size = I.ml) (hd : decode I.bytes pc = .ok (.invokevirtual index, 3)) (hq : pc + 3 = pc') (hf : J.R.frames + 1 ≤ I.R.frames) (hlo : (S.map fun v => v.category).sum + (J.ml + 11) + J.R.locals ≤ I.R.locals) (hc : cs + J.R.cells ≤ I.R.cells) (hs : sl + J.R.slots ≤ I.R.slots)
    (r : ∀ v h', Q' v h' → oRun C Z n0 I EL ws Q h' (cs + J.R.cells) (sl + J.R.slots) (mkF C.m pc' L (oPush v S))) : oRun C Z n0 I EL ws Q h cs sl (mkF C.m pc L (v5 :: v4 :: v3 :: v2 :: v1 :: v0 :: .ref a :: S)) := s_callV (argsL := [v0, v1, v2, v3, v4, v5]) M rfl hsub E w1 w2 w5 w6 nf w3 w4 hy hlen hsz hd hq hf hlo hc hs r
-- the ends
theorem s_end {v : Option Value} {g : JFrame} (hc : cs ≤ I.R.cells) (hs : sl ≤ I.R.slots) (hv : I.ret = none → v = none) (hQ : Q v h)
    (st : ∀ {s0 : State} T locs fs, oK C s0 Z n0 I T locs cs sl h → (∀ (f : JFrame) (acts : List Action), f.method = C.m → f.locked = none → f.entered = [] → (doReturn C.e (T.setTop f) acts v).1 = T.setFrames fs) → Steps C.p.tables C.e C.below (T.setTop g) (T.setFrames fs)) : oRun C Z n0 I EL ws Q h cs sl g := by
  intro vm0 T locs K V
  have K0 := K
  obtain ⟨X, k1, k2, k3, k4, k5, k6, k7, k8, k9, k10, k11⟩ := K
  obtain ⟨kk, hk1, hk2⟩ := V.2.1
  obtain ⟨fs, hr, hrun, hended, hE⟩ := X.leaveW hk1 (by rw [k9]; exact hk2) (v := v) (fun q => hv (k6.symm.trans q)) k8
  refine ⟨_, _, st T locs fs K0 hr, hrun, hended, v, locs, rfl, ⟨k10, ?_, ?_⟩, ?_, hE.1, hE.2.1, hE.2.2.1, hE.2.2.2.mono hc hs⟩
  · show Old Z n0 T.heap; rw [k9]; exact k11
  · show Q v T.heap; rw [k9]; exact hQ
  · obtain ⟨a1, hEL⟩ := V.1
    show CHr Z EL C.s.vm C.s.heap T.vm T.heap
    rw [k9]
    exact V.2.2.1.trans (CHv.at X k2 hEL V.2.2.1.1)
-- a String constant, loaded and read
theorem s_ldcS {a0 : Array Value} {idx : Nat} {text : String} {vs : List Value} {z : Int32} (n : Nat) (w : (Jvm.Cond.stringLink I.own idx text).before a0 Z = true) (wS : ∀ d ∈ Bundle.stringAtoms, d.before a0 Z = true) (hEL : EW Z a0 EL) (hmem : (I.own, idx) ∈ EL)
    (ht : (∀ c ∈ text.toList, c.toNat < 256) ∧ text.toList.map (fun c => Value.int (Jvm.Lit.byteI c.toNat.toUInt16)) = vs) (hz : ¬ z < 0) (hl : z.toNatClampNeg = vs.length) (hd : decode I.bytes pc = .ok (.ldc idx, 2)) (hq : pc + 2 = pc') (hn : 4 * text.toList.length ≤ n) (hbig : n ≤ 536870912) (hc : cs + 2 ≤ I.R.cells) (hl' : sl + (n + 4) ≤ I.R.slots)
    (r : ∀ h' a b k, Ext h h' → Exa Z h' a "java/lang/String" → Fld Z h' a "java/lang/String" "coder" "B" (.int 0) → Fld Z h' a "java/lang/String" "value" "[B" (.ref b) → Arv Z h' b k .byte z vs (.int 0) → (∀ x ∈ ws, x ≠ a ∧ x ≠ b) → oRun C Z n0 I EL ws Q h' (cs + 2) (sl + (n + 4)) (mkF C.m pc' L (.ref a :: S))) : oRun C Z n0 I EL ws Q h cs sl (mkF C.m pc L S) := by
  subst hq
  intro vm0 T locs K V
  obtain ⟨X, k1, k2, k3, k4, k5, k6, k7, k8, k9, k10, k11⟩ := K
  obtain ⟨kk, hk1, hk2⟩ := V.2.1
  obtain ⟨a, T', h', kn, b, k, X', e', E, hS, hk', hZ', ho', A1, A2, A3, A4, -, -, hC, -, hsafe, st⟩ := ldcCH X k1 k2 k3 w wS k9 hk1 hk2 hEL hmem V.2.2.1.1 ht hz hl (g := mkF C.m pc L S) rfl (hb k4 hd) hn hbig hc hl'
  have V' := V.step hC ⟨kn, hS, hk'⟩
  obtain ⟨t, o, h1, h2⟩ := r h' a b k E A1 A2 A3 A4 (fun x hx => hsafe x (V'.2.2.2 x hx).1) T'.vm T' _ ⟨X', k1, hZ', ho', k4, k5, k6, k7, k8, e', k10, k11.ext E⟩ V'
  exact ⟨t, o, st t h1, h2⟩
theorem s_ldcO {a0 : Array Value} {idx : Nat} {text : String} (n : Nat) (w : (Jvm.Cond.stringLink I.own idx text).before a0 Z = true) (wS : ∀ d ∈ Bundle.stringAtoms, d.before a0 Z = true) (hEL : EW Z a0 EL)
    (hd : decode I.bytes pc = .ok (.ldc idx, 2)) (hq : pc + 2 = pc') (hn : 4 * text.toList.length ≤ n) (hbig : n ≤ 536870912) (hc : cs + 2 ≤ I.R.cells) (hl' : sl + (n + 4) ≤ I.R.slots)
    (r : ∀ h' a, Ext h h' → oRun C Z n0 I EL ws Q h' (cs + 2) (sl + (n + 4)) (mkF C.m pc' L (.ref a :: S))) : oRun C Z n0 I EL ws Q h cs sl (mkF C.m pc L S) := by
  subst hq
  intro vm0 T locs K V
  obtain ⟨X, k1, k2, k3, k4, k5, k6, k7, k8, k9, k10, k11⟩ := K
  obtain ⟨kk, hk1, hk2⟩ := V.2.1
  obtain ⟨a, T', h', kn, X', e', E, hS, hk', hZ', ho', hC, -, st⟩ := ldcOH X k1 k2 k3 w wS k9 hk1 hk2 hEL V.2.2.1.1 (g := mkF C.m pc L S) rfl (hb k4 hd) hn hbig hc hl'
  have V' := V.step hC ⟨kn, hS, hk'⟩
  obtain ⟨t, o, h1, h2⟩ := r h' a E T'.vm T' _ ⟨X', k1, hZ', ho', k4, k5, k6, k7, k8, e', k10, k11.ext E⟩ V'
  exact ⟨t, o, st t h1, h2⟩
theorem s_weak {ws' : List Addr} {g : JFrame} (q : ∀ x ∈ ws', x ∈ ws) (r : oRun C Z n0 I EL ws' Q h cs sl g) : oRun C Z n0 I EL ws Q h cs sl g := fun vm0 T locs K V => r vm0 T locs K (V.sub q)
theorem s_ret (hr : I.ret = none) (hd : decode I.bytes pc = .ok (.return_, 1)) (hc : cs ≤ I.R.cells) (hs : sl ≤ I.R.slots) (hQ : Q none h) : oRun C Z n0 I EL ws Q h cs sl (mkF C.m pc L []) :=
  s_end hc hs (fun _ => rfl) hQ fun T locs fs K hl => K.1.returnOut K.2.1 (K.2.2.2.2.2.2.1.trans hr) (hb K.2.2.2.2.1 hd) hl
theorem s_iret (hr : I.ret = some .int) (hd : decode I.bytes pc = .ok (.ireturn, 1)) (hc : cs ≤ I.R.cells) (hs : sl ≤ I.R.slots) (hQ : Q (some (.int x)) h) : oRun C Z n0 I EL ws Q h cs sl (mkF C.m pc L (.int x :: S)) :=
  s_end hc hs (fun q => by rw [hr] at q; cases q) hQ fun T locs fs K hl => retI K.1 K.2.1 (K.2.2.2.2.2.2.1.trans hr) (hb K.2.2.2.2.1 hd) hl
theorem s_nret {t : FieldType} (hr : I.ret = some t) (ht : t = .boolean ∨ t = .byte ∨ t = .char ∨ t = .short) (hd : decode I.bytes pc = .ok (.ireturn, 1)) (hc : cs ≤ I.R.cells) (hs : sl ≤ I.R.slots) (hQ : Q (some (.int (nar t x))) h) : oRun C Z n0 I EL ws Q h cs sl (mkF C.m pc L (.int x :: S)) :=
  s_end hc hs (fun q => by rw [hr] at q; cases q) hQ fun T locs fs K hl => retN K.1 K.2.1 (K.2.2.2.2.2.2.1.trans hr) ht (hb K.2.2.2.2.1 hd) hl
theorem s_aret {t : FieldType} {v : Value} (hr : I.ret = some t) (ht : t.isReference = true) (hv : v.isRef = true) (hd : decode I.bytes pc = .ok (.areturn, 1)) (hc : cs ≤ I.R.cells) (hs : sl ≤ I.R.slots) (hQ : Q (some v) h) : oRun C Z n0 I EL ws Q h cs sl (mkF C.m pc L (v :: S)) :=
  s_end hc hs (fun q => by rw [hr] at q; cases q) hQ fun T locs fs K hl => by
    have X := K.1
    have hx := K.2.1
    have hd' := hb K.2.2.2.2.1 hd
    have hret := K.2.2.2.2.2.2.1.trans hr
    have hm' : T.vm.method? C.m = some C.meth := X.method'
    show Steps C.p.tables C.e C.below (T.setTop { method := C.m, pc := pc, locals := L, stack := v :: S, locked := none }) _
    jvm_step X.here [X.here.top, hx, hd', hm', hret, hv, ht]
    first | (intro acts; rw [hl _ acts rfl rfl rfl]) | rw [hl _ _ rfl rfl rfl]
    exact Steps.refl _
end OwnCore
-- OWN: Strings of Latin-1 chars
abbrev byt (c : Int32) : Int32 := c.toInt8.toInt32
def Ch (cs : List Int32) : Prop := ∀ c ∈ cs, ¬ c < 0 ∧ ¬ (255 : Int32) < c
theorem o_lt {x y : Int32} : x < y ↔ x.toInt < y.toInt := Int32.lt_iff_toInt_lt
theorem o_eq {x y : Int32} : x = y ↔ x.toInt = y.toInt := ⟨fun h => by rw [h], Int32.toInt_inj.mp⟩
theorem byt_byt (c : Int32) : nar .byte (byt c) = byt c := by show (c.toInt8.toInt32).toInt8.toInt32 = _; rw [Int8.toInt8_toInt32]
theorem c_byt {c : Int32} (h : ¬ c < 0 ∧ ¬ (255 : Int32) < c) : (byt c).toInt = if c.toInt < 128 then c.toInt else c.toInt - 256 := by
  have q := c_i2b c
  have h1 : ¬ c.toInt < (0 : Int32).toInt := fun z => h.1 (o_lt.mpr z)
  have h2 : ¬ (255 : Int32).toInt < c.toInt := fun z => h.2 (o_lt.mpr z)
  have e1 : (0 : Int32).toInt = 0 := rfl
  have e2 : (255 : Int32).toInt = 255 := rfl
  rw [e1] at h1; rw [e2] at h2
  show c.toInt8.toInt32.toInt = _
  split <;> omega
theorem byt_inj {c d : Int32} (hc : ¬ c < 0 ∧ ¬ (255 : Int32) < c) (hd : ¬ d < 0 ∧ ¬ (255 : Int32) < d) (h : byt c = byt d) : c = d := by
  have h' : (byt c).toInt = (byt d).toInt := by rw [h]
  rw [c_byt hc, c_byt hd] at h'
  have h1 : ¬ c.toInt < (0 : Int32).toInt := fun z => hc.1 (o_lt.mpr z)
  have h2 : ¬ (255 : Int32).toInt < c.toInt := fun z => hc.2 (o_lt.mpr z)
  have h3 : ¬ d.toInt < (0 : Int32).toInt := fun z => hd.1 (o_lt.mpr z)
  have h4 : ¬ (255 : Int32).toInt < d.toInt := fun z => hd.2 (o_lt.mpr z)
  have e1 : (0 : Int32).toInt = 0 := rfl
  have e2 : (255 : Int32).toInt = 255 := rfl
  rw [e1] at h1 h3; rw [e2] at h2 h4
  rw [o_eq]
  split at h' <;> split at h' <;> omega
theorem byt_and {c : Int32} (h : ¬ c < 0 ∧ ¬ (255 : Int32) < c) : (byt c) &&& (255 : Int32) = c := by
  rw [o_eq]
  have q := c_mask (byt c) 255 8 (by decide) (by decide)
  rw [q, c_byt h]
  have h1 : ¬ c.toInt < (0 : Int32).toInt := fun z => h.1 (o_lt.mpr z)
  have h2 : ¬ (255 : Int32).toInt < c.toInt := fun z => h.2 (o_lt.mpr z)
  have e1 : (0 : Int32).toInt = 0 := rfl
  have e2 : (255 : Int32).toInt = 255 := rfl
  rw [e1] at h1; rw [e2] at h2
  split <;> omega
theorem nn {i : Nat} (hi : i < 2147483648) : ¬ Int32.ofNat i < 0 := Int32.ofNat_not_neg (by omega)
theorem cl {i : Nat} (hi : i < 2147483648) : (Int32.ofNat i).toNatClampNeg = i := Jvm.Free.XT.n32 (by omega)
theorem lt' {a b : Nat} (hb : b < 2147483648) (h : a < b) : Int32.ofNat a < Int32.ofNat b := Jvm.Free.XT.lt32 (by omega) h
theorem nlt' {a b : Nat} (ha : a < 2147483648) (h : b ≤ a) : ¬ Int32.ofNat a < Int32.ofNat b := Jvm.Free.XT.nlt32 (by omega) h
theorem n_succ (i : Nat) : Int32.ofNat i + 1 = Int32.ofNat (i + 1) := Jvm.Free.XT.succ32 i
theorem n_inj {a b : Nat} (ha : a < 2147483648) (hb : b < 2147483648) (h : Int32.ofNat a = Int32.ofNat b) : a = b := by
  have := congrArg Int32.toNatClampNeg h; rwa [cl ha, cl hb] at this
def SV (Z : State) (h : Heap) (N : Nat) (a : Addr) (cs : List Int32) : Prop := ∃ b k, a < N ∧ b < N ∧ Exa Z h a "java/lang/String" ∧ Fld Z h a "java/lang/String" "coder" "B" (.int 0) ∧ Fld Z h a "java/lang/String" "value" "[B" (.ref b) ∧ Arv Z h b k .byte (Int32.ofNat cs.length) (cs.map fun c => Value.int (byt c)) (.int 0)
theorem SV.ext {Z : State} {h h' : Heap} {N : Nat} {a : Addr} {cs : List Int32} (F : SV Z h N a cs) (E : Ext h h') : SV Z h' N a cs := by
  obtain ⟨b, k, h1, h2, h3, h4, h5, h6⟩ := F; exact ⟨b, k, h1, h2, h3.ext E, h4.ext E, h5.ext E, h6.ext E⟩
theorem SV.keep {Z : State} {h h' : Heap} {N : Nat} {a : Addr} {cs : List Int32} {ws : List Addr} (F : SV Z h N a cs) (K : Keep h h' ws) (q : ∀ x ∈ ws, N ≤ x) : SV Z h' N a cs := by
  obtain ⟨b, k, h1, h2, h3, h4, h5, h6⟩ := F
  have na : a ∉ ws := fun z => absurd (q a z) (Nat.not_le.mpr h1)
  have nb : b ∉ ws := fun z => absurd (q b z) (Nat.not_le.mpr h2)
  exact ⟨b, k, h1, h2, h3.keep K, h4.keep K na, h5.keep K na, h6.keep K nb⟩
theorem SV.wr {Z : State} {h h' : Heap} {N : Nat} {a x : Addr} {cs : List Int32} {sl : Nat} {v : Value} (F : SV Z h N a cs) (W : Wr h h' x sl v) (q : N ≤ x) : SV Z h' N a cs := F.keep (Keep.of_wr W) (allS q all0)
theorem SV.mono {Z : State} {h : Heap} {N M : Nat} {a : Addr} {cs : List Int32} (F : SV Z h N a cs) (q : N ≤ M) : SV Z h M a cs := by
  obtain ⟨b, k, h1, h2, r⟩ := F; exact ⟨b, k, Nat.lt_of_lt_of_le h1 q, Nat.lt_of_lt_of_le h2 q, r⟩
theorem SV.exa {Z : State} {h : Heap} {N : Nat} {a : Addr} {cs : List Int32} (F : SV Z h N a cs) : Exa Z h a "java/lang/String" := by obtain ⟨b, k, h1, h2, h3, -⟩ := F; exact h3
theorem SV.lt {Z : State} {h : Heap} {N : Nat} {a : Addr} {cs : List Int32} (F : SV Z h N a cs) : a < N := by obtain ⟨b, k, h1, -⟩ := F; exact h1
theorem o_extKeep {h0 h1 h : Heap} {ws : List Addr} (E : Ext h0 h1) (K : Keep h1 h ws) (q : ∀ x ∈ ws, h0.size ≤ x) : Ext h0 h :=
  ⟨Nat.le_trans E.1 K.1, fun a c hc => K.2.1 a c (E.2 a c hc) fun z => absurd (Array.getElem?_eq_some_iff.mp hc).1 (Nat.not_lt.mpr (q a z))⟩
theorem o_ext {h0 h1 h2 : Heap} (E : Ext h0 h1) (E' : Ext h1 h2) : Ext h0 h2 := ⟨Nat.le_trans E.1 E'.1, fun a c hc => E'.2 a c (E.2 a c hc)⟩
theorem o_kext {h0 h1 h : Heap} {ws : List Addr} (E : Ext h0 h1) (K : Keep h1 h ws) : Keep h0 h ws := (((Keep.refl h0 ws).ext E).trans K fun x hx => Or.inl hx)
def bv (cs : List Int32) (j : Nat) : List Value := (cs.take j).map (fun c => Value.int (byt c)) ++ List.replicate (cs.length - j) (.int 0)
theorem bv_len (cs : List Int32) {j : Nat} (hj : j ≤ cs.length) : (bv cs j).length = cs.length := by simp [bv]; omega
theorem bv_set {cs : List Int32} {j : Nat} {c : Int32} (hc : cs[j]? = some c) : (bv cs j).set j (.int (byt c)) = bv cs (j + 1) := by
  obtain ⟨hj, -⟩ := List.getElem?_eq_some_iff.mp hc
  have e : List.replicate (cs.length - j) (Value.int 0) = .int 0 :: List.replicate (cs.length - (j + 1)) (.int 0) := by
    rw [show cs.length - j = (cs.length - (j + 1)) + 1 by omega, List.replicate_succ]
  have el : ((cs.take j).map fun c => Value.int (byt c)).length = j := by simp; omega
  unfold bv
  rw [e, List.set_append_right _ _ (by omega), el, Nat.sub_self, List.set_cons_zero, List.take_add_one, hc]
  simp
theorem bv_end (cs : List Int32) : bv cs cs.length = cs.map fun c => Value.int (byt c) := by simp [bv]
theorem cs_get {cs : List Int32} {j : Nat} {c : Int32} (hc : cs[j]? = some c) (d : Value) : (cs.map Value.int).getD j d = .int c := by
  rw [List.getD_eq_getElem?_getD, List.getElem?_map, hc]; rfl
theorem bs_get {cs : List Int32} {j : Nat} {c : Int32} (hc : cs[j]? = some c) (d : Value) : (cs.map fun c => Value.int (byt c)).getD j d = .int (byt c) := by
  rw [List.getD_eq_getElem?_getD, List.getElem?_map, hc]; rfl
theorem nar_ch {c : Int32} (h : ¬ c < 0 ∧ ¬ (255 : Int32) < c) : nar .char c = c := by
  rw [o_eq]; have q := c_i2c c
  have h1 : ¬ c.toInt < (0 : Int32).toInt := fun z => h.1 (o_lt.mpr z)
  have h2 : ¬ (255 : Int32).toInt < c.toInt := fun z => h.2 (o_lt.mpr z)
  have e1 : (0 : Int32).toInt = 0 := rfl
  have e2 : (255 : Int32).toInt = 255 := rfl
  rw [e1] at h1; rw [e2] at h2
  show c.toUInt32.toUInt16.toUInt32.toInt32.toInt = _; omega
theorem r_and (x : Int32) : ¬ (x &&& 255) < 0 ∧ ¬ (255 : Int32) < (x &&& 255) := by
  have h1 := c_and x 255 (by decide)
  have e2 : (255 : Int32).toInt = 255 := rfl
  have e1 : (0 : Int32).toInt = 0 := rfl
  rw [o_lt, o_lt, e1, e2]; rw [e2] at h1; omega
theorem r_nat {c : Int32} : (¬ c < 0 ∧ ¬ (255 : Int32) < c) ↔ c.toBitVec.toNat < 256 := by
  have e2 : (255 : Int32).toInt = 255 := rfl
  have e1 : (0 : Int32).toInt = 0 := rfl
  rw [o_lt, o_lt, e1, e2]
  have q : c.toInt = c.toBitVec.toInt := rfl
  rw [q, BitVec.toInt_eq_toNat_cond]
  have := c.toBitVec.isLt
  split <;> omega
theorem r_xor {x y : Int32} (hx : ¬ x < 0 ∧ ¬ (255 : Int32) < x) (hy : ¬ y < 0 ∧ ¬ (255 : Int32) < y) : ¬ (x ^^^ y) < 0 ∧ ¬ (255 : Int32) < (x ^^^ y) := by
  rw [r_nat] at *
  rw [Int32.toBitVec_xor, BitVec.toNat_xor]
  exact Nat.xor_lt_two_pow (n := 8) hx hy
theorem i2c_ch {c : Int32} (h : ¬ c < 0 ∧ ¬ (255 : Int32) < c) : c.toUInt32.toUInt16.toUInt32.toInt32 = c := nar_ch h
def EL1 : List (String × Nat) := []
def OG (Z : State) (a0 : Array Value) : Prop := (∀ d ∈ tables_1, d.before a0 Z = true) ∧ EW Z a0 EL1 ∧ (∃ cmp : Int32, Sta Z Z.heap "java/lang/String" "COMPACT_STRINGS" "Z" (.int cmp) ∧ ¬ cmp = 0) ∧ (∃ fm : Value, fm.isRef = true ∧ Sta Z Z.heap "jdk/internal/util/Preconditions" "SIOOBE_FORMATTER" "Ljava/util/function/BiFunction;" fm)
theorem o_wS {Z : State} {a0 : Array Value} (hw : ∀ d ∈ tables_1, d.before a0 Z = true) : ∀ d ∈ Bundle.stringAtoms, d.before a0 Z = true := by
  intro d hd
  simp only [Bundle.stringAtoms, List.mem_cons, List.not_mem_nil, or_false] at hd
  rcases hd with rfl | rfl | rfl | rfl | rfl | rfl | rfl
  · exact (hw _ (List.mem_of_getElem? (i := 7) rfl))
  · exact (hw _ (List.mem_of_getElem? (i := 6) rfl))
  · exact (hw _ (List.mem_of_getElem? (i := 24) rfl))
  · exact (hw _ (List.mem_of_getElem? (i := 34) rfl))
  · exact (hw _ (List.mem_of_getElem? (i := 32) rfl))
  · exact (hw _ (List.mem_of_getElem? (i := 52) rfl))
  · exact (hw _ (List.mem_of_getElem? (i := 53) rfl))
def icB : OInfo := ("java/lang/StringUTF16", jdk_52_method_21_code, 7, (some .int), "compress", ({ frames := 0, cells := 0, slots := 0, locals := 0 } : Room))
theorem efcB (x0 : Addr) (x1 : Int32) (x2 : Addr) (x3 : Int32) (x4 : Int32) (m : MethodId) : entryFrame m #[(.ref x0), (.int x1), (.ref x2), (.int x3), (.int x4)] 7 = mkF m 0 #[.val (.ref x0), .val (.int x1), .val (.ref x2), .val (.int x3), .val (.int x4), .unset, .unset] [] := by first | (simp [entryFrame, mkF, argsToLocals, Value.category]; done) | rfl
theorem pdcB : parseMethodDescriptor "([CI[BII)I" = some ⟨[(.array .char), .int, (.array .byte), .int, .int], some .int⟩ := by decide +kernel
theorem pncB : plainFor (⟨"java/lang/StringUTF16", "compress", "([CI[BII)I"⟩ : MethodName) = true := by decide +kernel
theorem dcB_0 : decode jdk_52_method_21_code 0 = .ok (.iconst 0, 1) := by decide +kernel
theorem dcB_1 : decode jdk_52_method_21_code 1 = .ok (.istore 5, 2) := by decide +kernel
theorem dcB_3 : decode jdk_52_method_21_code 3 = .ok (.iload 5, 2) := by decide +kernel
theorem dcB_5 : decode jdk_52_method_21_code 5 = .ok (.iload 4, 2) := by decide +kernel
theorem dcB_7 : decode jdk_52_method_21_code 7 = .ok (.if_icmp .ge 37, 3) := by decide +kernel
theorem dcB_10 : decode jdk_52_method_21_code 10 = .ok (.aload_n 0, 1) := by decide +kernel
theorem dcB_11 : decode jdk_52_method_21_code 11 = .ok (.iload_n 1, 1) := by decide +kernel
theorem dcB_12 : decode jdk_52_method_21_code 12 = .ok (.caload, 1) := by decide +kernel
theorem dcB_13 : decode jdk_52_method_21_code 13 = .ok (.istore 6, 2) := by decide +kernel
theorem dcB_15 : decode jdk_52_method_21_code 15 = .ok (.iload 6, 2) := by decide +kernel
theorem dcB_17 : decode jdk_52_method_21_code 17 = .ok (.sipush 255, 3) := by decide +kernel
theorem dcB_20 : decode jdk_52_method_21_code 20 = .ok (.if_icmp .le 6, 3) := by decide +kernel
theorem dcB_26 : decode jdk_52_method_21_code 26 = .ok (.aload_n 2, 1) := by decide +kernel
theorem dcB_27 : decode jdk_52_method_21_code 27 = .ok (.iload_n 3, 1) := by decide +kernel
theorem dcB_28 : decode jdk_52_method_21_code 28 = .ok (.iload 6, 2) := by decide +kernel
theorem dcB_30 : decode jdk_52_method_21_code 30 = .ok (.i2b, 1) := by decide +kernel
theorem dcB_31 : decode jdk_52_method_21_code 31 = .ok (.bastore, 1) := by decide +kernel
theorem dcB_32 : decode jdk_52_method_21_code 32 = .ok (.iinc 1 1, 3) := by decide +kernel
theorem dcB_35 : decode jdk_52_method_21_code 35 = .ok (.iinc 3 1, 3) := by decide +kernel
theorem dcB_38 : decode jdk_52_method_21_code 38 = .ok (.iinc 5 1, 3) := by decide +kernel
theorem dcB_41 : decode jdk_52_method_21_code 41 = .ok (.goto (-38), 3) := by decide +kernel
theorem dcB_44 : decode jdk_52_method_21_code 44 = .ok (.iload 4, 2) := by decide +kernel
theorem dcB_46 : decode jdk_52_method_21_code 46 = .ok (.ireturn, 1) := by decide +kernel
set_option maxRecDepth 65536 in
set_option maxHeartbeats 4000000 in
theorem cBloop {C : OCtx} {Z : State} {n0 : Nat} {ws : List Addr} {Q : Option Value → Heap → Prop} {h0 : Heap} {c d : Addr} {kc kd : ClassId} {cs : List Int32} {dv : Value} (hb : cs.length < 2147483648) (hch : Ch cs) (gd : n0 ≤ d) (hd : d ∈ ws) (hcd : c ≠ d)
    (fin : ∀ h, Keep h0 h [d] → Arv Z h d kd .byte (Int32.ofNat cs.length) (cs.map fun c => Value.int (byt c)) (.int 0) → Q (some (.int (Int32.ofNat cs.length))) h) (k : Nat) :
    ∀ (h : Heap) (j : Nat) (s6 : Slot), j ≤ cs.length → cs.length - j = k → Keep h0 h [d] → Arv Z h c kc .char (Int32.ofNat cs.length) (cs.map .int) dv → Arv Z h d kd .byte (Int32.ofNat cs.length) (bv cs j) (.int 0) → One s6 →
    oRun C Z n0 icB EL1 ws Q h 0 0 (mkF C.m 3 #[.val (.ref c), .val (.int (Int32.ofNat j)), .val (.ref d), .val (.int (Int32.ofNat j)), .val (.int (Int32.ofNat cs.length)), .val (.int (Int32.ofNat j)), s6] []) := by
  induction k using Nat.strongRecOn with
  | _ k ih =>
  intro h j s6 hj hk K A D hs6
  subst hk
  refine s_iload (pc' := 5) dcB_3 rfl rfl ?_
  refine s_iload (pc' := 7) dcB_5 rfl rfl ?_
  refine s_icmp (pc' := 10) (pc'' := 44) dcB_7 rfl (by decide) rfl (fun hc7 => ?_) (fun hc7 => ?_)
  · replace hc7 := b_ge hc7
    obtain rfl : j = cs.length := by
      by_cases q : j < cs.length
      · exact absurd (lt' hb q) hc7
      · omega
    rw [bv_end] at D
    refine s_iload (pc' := 46) dcB_44 rfl rfl ?_
    exact s_iret rfl dcB_46 (by decide) (by decide) (fin _ K D)
  · replace hc7 := b_geF hc7
    have hj2 : j < cs.length := by
      by_cases q : j < cs.length
      · exact q
      · exact absurd hc7 (nlt' (by omega) (by omega))
    obtain ⟨z, hz⟩ : ∃ z, cs[j]? = some z := ⟨cs[j], List.getElem?_eq_getElem hj2⟩
    have hzr := hch z (List.mem_of_getElem? hz)
    refine s_aloadN (pc' := 11) dcB_10 rfl rfl rfl ?_
    refine s_iloadN (pc' := 12) dcB_11 rfl rfl ?_
    refine s_caload A (nn (by omega)) (lt' hb hj2) (v := .int z) (by rw [cl (by omega)]; exact cs_get hz _) (pc' := 13) dcB_12 rfl ?_
    refine s_istore (pc' := 15) dcB_13 rfl (o_st rfl (by first | exact One.u | exact One.val rfl | assumption) rfl) ?_
    dsimp only [List.set_cons_succ, List.set_cons_zero]
    refine s_iload (pc' := 17) dcB_15 rfl rfl ?_
    refine s_sipush (x := (255 : Int32)) (pc' := 20) dcB_17 rfl rfl ?_
    refine s_icmp (pc' := 23) (pc'' := 26) dcB_20 rfl (by decide) rfl (fun hc20 => ?_) (fun hc20 => ?_)
    · replace hc20 := b_le hc20
      refine s_aloadN (pc' := 27) dcB_26 rfl rfl rfl ?_
      refine s_iloadN (pc' := 28) dcB_27 rfl rfl ?_
      refine s_iload (pc' := 30) dcB_28 rfl rfl ?_
      refine s_i2b (pc' := 31) dcB_30 rfl ?_
      refine s_bastore D gd hd (nn (by omega)) (lt' hb hj2) j (cl (by omega)) (by rw [bv_len _ hj]; omega) (pc' := 32) dcB_31 rfl (fun h31 W31 D31 => ?_)
      rw [byt_byt, bv_set hz] at D31
      refine s_iinc (y := (1 : Int32)) (pc' := 35) dcB_32 rfl rfl rfl (o_st rfl (by first | exact One.u | exact One.val rfl | assumption) rfl) ?_
      dsimp only [List.set_cons_succ, List.set_cons_zero]
      rw [n_succ]
      refine s_iinc (y := (1 : Int32)) (pc' := 38) dcB_35 rfl rfl rfl (o_st rfl (by first | exact One.u | exact One.val rfl | assumption) rfl) ?_
      dsimp only [List.set_cons_succ, List.set_cons_zero]
      rw [n_succ]
      refine s_iinc (y := (1 : Int32)) (pc' := 41) dcB_38 rfl rfl rfl (o_st rfl (by first | exact One.u | exact One.val rfl | assumption) rfl) ?_
      dsimp only [List.set_cons_succ, List.set_cons_zero]
      rw [n_succ]
      refine s_goto (pc' := 3) dcB_41 (by decide) rfl ?_
      exact ih (cs.length - (j + 1)) (by omega) h31 (j + 1) _ (by omega) rfl (K.wr W31 (Or.inl (List.mem_cons_self ..))) (A.other W31 hcd) D31 (One.val rfl)
    · replace hc20 := b_leF hc20
      exact absurd hc20 hzr.2
set_option maxRecDepth 65536 in
set_option maxHeartbeats 4000000 in
theorem rmcB (l : Launch) {Z : State} {a0 : Array Value} (G : OG Z a0) (n0 : Nat) (c d : Addr) (kc kd : ClassId) (cs : List Int32) (dv : Value) (h0 : Heap) (hb : cs.length < 2147483648) (hch : Ch cs) (gd : n0 ≤ d) (hcd : c ≠ d) (A : Arv Z h0 c kc .char (Int32.ofNat cs.length) (cs.map .int) dv) (D : Arv Z h0 d kd .byte (Int32.ofNat cs.length) (List.replicate cs.length (.int 0)) (.int 0)) : oCon l Z n0 EL1 [d] (⟨"java/lang/StringUTF16", "compress", "([CI[BII)I"⟩ : MethodName) icB #[.ref c, .int 0, .ref d, .int 0, .int (Int32.ofNat cs.length)] h0 (fun v h => v = some (.int (Int32.ofNat cs.length)) ∧ Keep h0 h [d] ∧ Arv Z h d kd .byte (Int32.ofNat cs.length) (cs.map fun c => Value.int (byt c)) (.int 0)) := by
  obtain ⟨hw, hEL, ⟨cmp, hC, hc0⟩, ⟨fm, hfm, hF⟩⟩ := id G
  refine oCon.mk hEL pncB rfl rfl (efcB c 0 d 0 _) fun C hCl => ?_
  refine s_iconst (x := (0 : Int32)) (pc' := 1) dcB_0 rfl rfl ?_
  refine s_istore (pc' := 3) dcB_1 rfl (o_st rfl (by first | exact One.u | exact One.val rfl | assumption) rfl) ?_
  dsimp only [List.set_cons_succ, List.set_cons_zero]
  exact cBloop hb hch gd (List.mem_cons_self ..) hcd (fun h K D => ⟨rfl, K, D⟩) cs.length h0 0 _ (Nat.zero_le _) rfl (Keep.refl _ _) A (by simpa [bv] using D) One.u
def icA : OInfo := ("java/lang/StringUTF16", jdk_52_method_16_code, 6, (some (.array .byte)), "compress", ({ frames := 1, cells := 1, slots := 4, locals := 18 } : Room))
theorem efcA (x0 : Addr) (x1 : Int32) (x2 : Int32) (m : MethodId) : entryFrame m #[(.ref x0), (.int x1), (.int x2)] 6 = mkF m 0 #[.val (.ref x0), .val (.int x1), .val (.int x2), .unset, .unset, .unset] [] := by first | (simp [entryFrame, mkF, argsToLocals, Value.category]; done) | rfl
theorem pdcA : parseMethodDescriptor "([CII)[B" = some ⟨[(.array .char), .int, .int], some (.array .byte)⟩ := by decide +kernel
theorem pncA : plainFor (⟨"java/lang/StringUTF16", "compress", "([CII)[B"⟩ : MethodName) = true := by decide +kernel
theorem dcA_0 : decode jdk_52_method_16_code 0 = .ok (.iload_n 2, 1) := by decide +kernel
theorem dcA_1 : decode jdk_52_method_16_code 1 = .ok (.newarray .byte, 2) := by decide +kernel
theorem dcA_3 : decode jdk_52_method_16_code 3 = .ok (.astore_n 3, 1) := by decide +kernel
theorem dcA_4 : decode jdk_52_method_16_code 4 = .ok (.aload_n 0, 1) := by decide +kernel
theorem dcA_5 : decode jdk_52_method_16_code 5 = .ok (.iload_n 1, 1) := by decide +kernel
theorem dcA_6 : decode jdk_52_method_16_code 6 = .ok (.aload_n 3, 1) := by decide +kernel
theorem dcA_7 : decode jdk_52_method_16_code 7 = .ok (.iconst 0, 1) := by decide +kernel
theorem dcA_8 : decode jdk_52_method_16_code 8 = .ok (.iload_n 2, 1) := by decide +kernel
theorem dcA_9 : decode jdk_52_method_16_code 9 = .ok (.invokestatic 115, 3) := by decide +kernel
theorem dcA_12 : decode jdk_52_method_16_code 12 = .ok (.istore 4, 2) := by decide +kernel
theorem dcA_14 : decode jdk_52_method_16_code 14 = .ok (.iload 4, 2) := by decide +kernel
theorem dcA_16 : decode jdk_52_method_16_code 16 = .ok (.iload_n 2, 1) := by decide +kernel
theorem dcA_17 : decode jdk_52_method_16_code 17 = .ok (.if_icmp .eq 40, 3) := by decide +kernel
theorem dcA_57 : decode jdk_52_method_16_code 57 = .ok (.aload_n 3, 1) := by decide +kernel
theorem dcA_58 : decode jdk_52_method_16_code 58 = .ok (.areturn, 1) := by decide +kernel
set_option maxRecDepth 65536 in
set_option maxHeartbeats 4000000 in
theorem rmcA (l : Launch) {Z : State} {a0 : Array Value} (G : OG Z a0) (n0 : Nat) (c : Addr) (kc : ClassId) (cs : List Int32) (dv : Value) (h0 : Heap) (hcap : cs.length ≤ 4) (hch : Ch cs) (A : Arv Z h0 c kc .char (Int32.ofNat cs.length) (cs.map .int) dv) : oCon l Z n0 EL1 [] (⟨"java/lang/StringUTF16", "compress", "([CII)[B"⟩ : MethodName) icA #[.ref c, .int 0, .int (Int32.ofNat cs.length)] h0 (fun v h => ∃ d k, v = some (.ref d) ∧ h0.size ≤ d ∧ Ext h0 h ∧ Arv Z h d k .byte (Int32.ofNat cs.length) (cs.map fun c => Value.int (byt c)) (.int 0)) := by
  obtain ⟨hw, hEL, ⟨cmp, hC, hc0⟩, ⟨fm, hfm, hF⟩⟩ := id G
  refine oCon.mk hEL pncA rfl rfl (efcA c 0 _) fun C hCl => ?_
  refine s_iloadN (pc' := 1) dcA_0 rfl rfl ?_
  refine s_newA 4 (hw _ (List.mem_of_getElem? (i := 24) rfl)) (pc' := 3) dcA_1 rfl (nn (by omega)) (by rw [cl (by omega)]; exact hcap) (by decide) (Nat.le_of_ble_eq_true rfl) (Nat.le_of_ble_eq_true rfl) (fun h1 b1 k1 g1 nb1 E1 A1 => ?_)
  have hcd : c ≠ b1 := o_fresh A.lt g1
  refine s_astoreN (kn := 3) rfl (pc' := 4) dcA_3 rfl rfl (o_st rfl (by first | exact One.u | exact One.val rfl | assumption) rfl) ?_
  dsimp only [List.set_cons_succ, List.set_cons_zero]
  refine s_aloadN (pc' := 5) dcA_4 rfl rfl rfl ?_
  refine s_iloadN (pc' := 6) dcA_5 rfl rfl ?_
  refine s_aloadN (pc' := 7) dcA_6 rfl rfl rfl ?_
  refine s_iconst (x := (0 : Int32)) (pc' := 8) dcA_7 rfl rfl ?_
  refine s_iloadN (pc' := 9) dcA_8 rfl rfl ?_
  refine s_callS5 (rmcB C.l G n0 c b1 kc k1 cs dv h1 (by omega) hch nb1 hcd (A.ext E1) (by have q := o_padTo A1 cs.length; rw [List.nil_append] at q; exact q)) (by simp) (hw _ (List.mem_of_getElem? (i := 25) rfl)) (hw _ (List.mem_of_getElem? (i := 26) rfl)) (hw _ (List.mem_of_getElem? (i := 22) rfl)) (hw _ (List.mem_of_getElem? (i := 27) rfl)) (by decide) (o_len pdcB rfl) rfl (pc' := 12) dcA_9 rfl (Nat.le_of_ble_eq_true rfl) (Nat.le_of_ble_eq_true rfl) (Nat.le_of_ble_eq_true rfl) (Nat.le_of_ble_eq_true rfl) (fun v9 h9 hQ9 => ?_)
  obtain ⟨rfl, K9, D9⟩ := hQ9
  dsimp only [oPush]
  refine s_istore (pc' := 14) dcA_12 rfl (o_st rfl (by first | exact One.u | exact One.val rfl | assumption) rfl) ?_
  dsimp only [List.set_cons_succ, List.set_cons_zero]
  refine s_iload (pc' := 16) dcA_14 rfl rfl ?_
  refine s_iloadN (pc' := 17) dcA_16 rfl rfl ?_
  refine s_icmp (pc' := 20) (pc'' := 57) dcA_17 rfl (by decide) rfl (fun hc17 => ?_) (fun hc17 => ?_)
  · replace hc17 := b_eq hc17
    refine s_aloadN (pc' := 58) dcA_57 rfl rfl rfl ?_
    exact s_aret rfl rfl rfl dcA_58 (by decide) (by decide) ⟨b1, k1, rfl, Nat.le_of_eq g1.symm, o_extKeep E1 K9 (allS (Nat.le_of_eq g1.symm) all0), D9⟩
  · replace hc17 := b_eqF hc17
    exact absurd rfl hc17
def icF : OInfo := ("java/lang/StringUTF16", jdk_52_method_15_code, 2, (some .byte), "coderFromArrayLen", ({ frames := 0, cells := 0, slots := 0, locals := 0 } : Room))
theorem efcF (x0 : Addr) (x1 : Int32) (m : MethodId) : entryFrame m #[(.ref x0), (.int x1)] 2 = mkF m 0 #[.val (.ref x0), .val (.int x1)] [] := by first | (simp [entryFrame, mkF, argsToLocals, Value.category]; done) | rfl
theorem pdcF : parseMethodDescriptor "([BI)B" = some ⟨[(.array .byte), .int], some .byte⟩ := by decide +kernel
theorem pncF : plainFor (⟨"java/lang/StringUTF16", "coderFromArrayLen", "([BI)B"⟩ : MethodName) = true := by decide +kernel
theorem dcF_0 : decode jdk_52_method_15_code 0 = .ok (.iload_n 1, 1) := by decide +kernel
theorem dcF_1 : decode jdk_52_method_15_code 1 = .ok (.aload_n 0, 1) := by decide +kernel
theorem dcF_2 : decode jdk_52_method_15_code 2 = .ok (.arraylength, 1) := by decide +kernel
theorem dcF_3 : decode jdk_52_method_15_code 3 = .ok (.isub, 1) := by decide +kernel
theorem dcF_4 : decode jdk_52_method_15_code 4 = .ok (.bipush 31, 2) := by decide +kernel
theorem dcF_6 : decode jdk_52_method_15_code 6 = .ok (.iushr, 1) := by decide +kernel
theorem dcF_7 : decode jdk_52_method_15_code 7 = .ok (.i2b, 1) := by decide +kernel
theorem dcF_8 : decode jdk_52_method_15_code 8 = .ok (.ireturn, 1) := by decide +kernel
set_option maxRecDepth 65536 in
set_option maxHeartbeats 4000000 in
theorem rmcF (l : Launch) {Z : State} {a0 : Array Value} (G : OG Z a0) (n0 : Nat) (d : Addr) (k : ClassId) (n : Int32) (vs : List Value) (dv : Value) (h0 : Heap) (A : Arv Z h0 d k .byte n vs dv) : oCon l Z n0 EL1 [] (⟨"java/lang/StringUTF16", "coderFromArrayLen", "([BI)B"⟩ : MethodName) icF #[.ref d, .int n] h0 (fun v h => v = some (.int 0) ∧ h = h0) := by
  obtain ⟨hw, hEL, ⟨cmp, hC, hc0⟩, ⟨fm, hfm, hF⟩⟩ := id G
  refine oCon.mk hEL pncF rfl rfl (efcF d n) fun C hCl => ?_
  refine s_iloadN (pc' := 1) dcF_0 rfl rfl ?_
  refine s_aloadN (pc' := 2) dcF_1 rfl rfl rfl ?_
  refine s_alen A (pc' := 3) dcF_2 rfl ?_
  refine s_isub (pc' := 4) dcF_3 rfl ?_
  refine s_bipush (x := (31 : Int32)) (pc' := 6) dcF_4 rfl rfl ?_
  refine s_iushr (pc' := 7) dcF_6 rfl ?_
  refine s_i2b (pc' := 8) dcF_7 rfl ?_
  exact s_nret (t := .byte) rfl (by simp) dcF_8 (by decide) (by decide) ⟨by rw [Int32.sub_self]; rfl, rfl⟩
def isV : OInfo := ("java/lang/String", jdk_42_method_149_code, 6, none, "<init>", ({ frames := 2, cells := 1, slots := 8, locals := 47 } : Room))
theorem pdsV : parseMethodDescriptor "([CIILjava/lang/Void;)V" = some ⟨[(.array .char), .int, .int, (.object "java/lang/Void")], none⟩ := by decide +kernel
theorem pnsV : plainFor (⟨"java/lang/String", "<init>", "([CIILjava/lang/Void;)V"⟩ : MethodName) = true := by decide +kernel
theorem efsV (x0 x1 : Addr) (x2 x3 : Int32) (m : MethodId) : entryFrame m #[(.ref x0), (.ref x1), (.int x2), (.int x3), .null] 6 = mkF m 0 #[.val (.ref x0), .val (.ref x1), .val (.int x2), .val (.int x3), .val .null, .unset] [] := by first | (simp [entryFrame, mkF, argsToLocals, Value.category]; done) | rfl
theorem dsV_0 : decode jdk_42_method_149_code 0 = .ok (.aload_n 0, 1) := by decide +kernel
theorem dsV_1 : decode jdk_42_method_149_code 1 = .ok (.invokespecial 1, 3) := by decide +kernel
theorem dsV_4 : decode jdk_42_method_149_code 4 = .ok (.iload_n 3, 1) := by decide +kernel
theorem dsV_5 : decode jdk_42_method_149_code 5 = .ok (.ifCond .ne 22, 3) := by decide +kernel
theorem dsV_27 : decode jdk_42_method_149_code 27 = .ok (.getstatic 38, 3) := by decide +kernel
theorem dsV_30 : decode jdk_42_method_149_code 30 = .ok (.ifCond .eq 28, 3) := by decide +kernel
theorem dsV_33 : decode jdk_42_method_149_code 33 = .ok (.aload_n 1, 1) := by decide +kernel
theorem dsV_34 : decode jdk_42_method_149_code 34 = .ok (.iload_n 2, 1) := by decide +kernel
theorem dsV_35 : decode jdk_42_method_149_code 35 = .ok (.iload_n 3, 1) := by decide +kernel
theorem dsV_36 : decode jdk_42_method_149_code 36 = .ok (.invokestatic 177, 3) := by decide +kernel
theorem dsV_39 : decode jdk_42_method_149_code 39 = .ok (.astore 5, 2) := by decide +kernel
theorem dsV_41 : decode jdk_42_method_149_code 41 = .ok (.aload_n 0, 1) := by decide +kernel
theorem dsV_42 : decode jdk_42_method_149_code 42 = .ok (.aload 5, 2) := by decide +kernel
theorem dsV_44 : decode jdk_42_method_149_code 44 = .ok (.iload_n 3, 1) := by decide +kernel
theorem dsV_45 : decode jdk_42_method_149_code 45 = .ok (.invokestatic 47, 3) := by decide +kernel
theorem dsV_48 : decode jdk_42_method_149_code 48 = .ok (.putfield 15, 3) := by decide +kernel
theorem dsV_51 : decode jdk_42_method_149_code 51 = .ok (.aload_n 0, 1) := by decide +kernel
theorem dsV_52 : decode jdk_42_method_149_code 52 = .ok (.aload 5, 2) := by decide +kernel
theorem dsV_54 : decode jdk_42_method_149_code 54 = .ok (.putfield 9, 3) := by decide +kernel
theorem dsV_57 : decode jdk_42_method_149_code 57 = .ok (.return_, 1) := by decide +kernel
set_option maxRecDepth 65536 in
set_option maxHeartbeats 4000000 in
theorem rmsV (l : Launch) {Z : State} {a0 : Array Value} (G : OG Z a0) (n0 : Nat) (a c : Addr) (kc : ClassId) (cs : List Int32) (dv : Value) (h0 : Heap) (hcap : cs.length ≤ 4) (hne : 0 < cs.length) (hch : Ch cs) (A : Arv Z h0 c kc .char (Int32.ofNat cs.length) (cs.map .int) dv) (E : Exa Z h0 a "java/lang/String") (F1 : Fld Z h0 a "java/lang/String" "value" "[B" .null) (F2 : Fld Z h0 a "java/lang/String" "coder" "B" (.int 0)) (ga : n0 ≤ a) : oCon l Z n0 EL1 [a] (⟨"java/lang/String", "<init>", "([CIILjava/lang/Void;)V"⟩ : MethodName) isV #[.ref a, .ref c, .int 0, .int (Int32.ofNat cs.length), .null] h0 (fun v h => v = none ∧ Keep h0 h [a] ∧ SV Z h h.size a cs) := by
  obtain ⟨hw, hEL, ⟨cmp, hC, hc0⟩, ⟨fm, hfm, hF⟩⟩ := id G
  have ha : a ∈ [a] := List.mem_cons_self ..
  refine oCon.mk hEL pnsV rfl rfl (efsV a c 0 _) fun C hCl => ?_
  refine s_aloadN (pc' := 1) dsV_0 rfl rfl rfl ?_
  refine s_initO (hw _ (List.mem_of_getElem? (i := 16) rfl)) (hw _ (List.mem_of_getElem? (i := 17) rfl)) (hw _ (List.mem_of_getElem? (i := 18) rfl)) rfl (pc' := 4) dsV_1 rfl (Nat.le_of_ble_eq_true rfl) (Nat.le_of_ble_eq_true rfl) ?_
  refine s_iloadN (pc' := 5) dsV_4 rfl rfl ?_
  refine s_if (pc' := 8) (pc'' := 27) dsV_5 rfl (by decide) rfl (fun hc5 => ?_) (fun hc5 => ?_)
  · replace hc5 := b_ne hc5
    refine s_getS hC (hw _ (List.mem_of_getElem? (i := 19) rfl)) Via.refl (pc' := 30) dsV_27 rfl ?_
    refine s_if (pc' := 33) (pc'' := 58) dsV_30 rfl (by decide) rfl (fun hc30 => ?_) (fun hc30 => ?_)
    · replace hc30 := b_eq hc30
      exact absurd hc30 hc0
    · replace hc30 := b_eqF hc30
      refine s_aloadN (pc' := 34) dsV_33 rfl rfl rfl ?_
      refine s_iloadN (pc' := 35) dsV_34 rfl rfl ?_
      refine s_iloadN (pc' := 36) dsV_35 rfl rfl ?_
      refine s_callS3 (rmcA C.l G n0 c kc cs dv h0 hcap hch A) (by simp) (hw _ (List.mem_of_getElem? (i := 20) rfl)) (hw _ (List.mem_of_getElem? (i := 21) rfl)) (hw _ (List.mem_of_getElem? (i := 22) rfl)) (hw _ (List.mem_of_getElem? (i := 23) rfl)) (by decide) (o_len pdcA rfl) rfl (pc' := 39) dsV_36 rfl (Nat.le_of_ble_eq_true rfl) (Nat.le_of_ble_eq_true rfl) (Nat.le_of_ble_eq_true rfl) (Nat.le_of_ble_eq_true rfl) (fun v36 h36 hQ36 => ?_)
      obtain ⟨d, kd, rfl, gd, E36, D36⟩ := hQ36
      dsimp only [oPush]
      have had : a ≠ d := o_fresh' E.lt gd
      refine s_astore (pc' := 41) dsV_39 rfl rfl (o_st rfl (by first | exact One.u | exact One.val rfl | assumption) rfl) ?_
      dsimp only [List.set_cons_succ, List.set_cons_zero]
      refine s_aloadN (pc' := 42) dsV_41 rfl rfl rfl ?_
      refine s_aload (pc' := 44) dsV_42 rfl rfl rfl ?_
      refine s_iloadN (pc' := 45) dsV_44 rfl rfl ?_
      refine s_callS2 (rmcF C.l G n0 d kd _ _ _ h36 D36) (by simp) (hw _ (List.mem_of_getElem? (i := 28) rfl)) (hw _ (List.mem_of_getElem? (i := 29) rfl)) (hw _ (List.mem_of_getElem? (i := 22) rfl)) (hw _ (List.mem_of_getElem? (i := 30) rfl)) (by decide) (o_len pdcF rfl) rfl (pc' := 48) dsV_45 rfl (Nat.le_of_ble_eq_true rfl) (Nat.le_of_ble_eq_true rfl) (Nat.le_of_ble_eq_true rfl) (Nat.le_of_ble_eq_true rfl) (fun v45 h45 hQ45 => ?_)
      obtain ⟨rfl, rfl⟩ := hQ45
      dsimp only [oPush]
      refine s_putF (F2.ext E36) (E.ext E36) ga (by simp) (host := "") (Or.inl (hw _ (List.mem_of_getElem? (i := 31) rfl))) Via.refl (Or.inr ⟨(hw _ (List.mem_of_getElem? (i := 32) rfl)), rfl, rfl⟩) (hw _ (List.mem_of_getElem? (i := 6) rfl)) (ty := .byte) (by decide) rfl rfl (pc' := 51) dsV_48 rfl (fun h48 W48 => ?_)
      refine s_aloadN (pc' := 52) dsV_51 rfl rfl rfl ?_
      refine s_aload (pc' := 54) dsV_52 rfl rfl rfl ?_
      refine s_putF ((F1.ext E36).other W48 (Or.inr (slot_ne (Or.inr (hw _ (List.mem_of_getElem? (i := 34) rfl))) (Or.inr (hw _ (List.mem_of_getElem? (i := 32) rfl))) (by decide) (t := .array .byte) (t' := .byte) (by decide) (by decide)))) ((E.ext E36).wr W48) ga (by simp) (host := "") (Or.inl (hw _ (List.mem_of_getElem? (i := 33) rfl))) Via.refl (Or.inr ⟨(hw _ (List.mem_of_getElem? (i := 34) rfl)), rfl, rfl⟩) (hw _ (List.mem_of_getElem? (i := 6) rfl)) (ty := (.array .byte)) (by decide) rfl rfl (pc' := 57) dsV_54 rfl (fun h54 W54 => ?_)
      refine s_ret rfl dsV_57 (by decide) (by decide) ⟨rfl, ?_, d, kd, ?_, ?_, ?_, ?_, ?_, ?_⟩
      · exact o_kext E36 ((Keep.of_wr W48).wr W54 (Or.inl (List.mem_cons_self ..)))
      · exact (((E.ext E36).wr W48).wr W54).lt
      · exact ((D36.other W48 had.symm).other W54 had.symm).lt
      · exact ((E.ext E36).wr W48).wr W54
      · exact ((F2.ext E36).same W48).other W54 (Or.inr (slot_ne (Or.inr (hw _ (List.mem_of_getElem? (i := 32) rfl))) (Or.inr (hw _ (List.mem_of_getElem? (i := 34) rfl))) (by decide) (t := .byte) (t' := .array .byte) (by decide) (by decide)))
      · exact ((F1.ext E36).other W48 (Or.inr (slot_ne (Or.inr (hw _ (List.mem_of_getElem? (i := 34) rfl))) (Or.inr (hw _ (List.mem_of_getElem? (i := 32) rfl))) (by decide) (t := .array .byte) (t' := .byte) (by decide) (by decide)))).same W54
      · exact (D36.other W48 had.symm).other W54 had.symm
  · replace hc5 := b_neF hc5
    exact absurd (n_inj (b := 0) (by omega) (by omega) hc5) (by omega)
def isC : OInfo := ("java/lang/String", jdk_42_method_3_code, 2, none, "<init>", ({ frames := 3, cells := 1, slots := 8, locals := 64 } : Room))
theorem efsC (x0 : Addr) (x1 : Addr) (m : MethodId) : entryFrame m #[(.ref x0), (.ref x1)] 2 = mkF m 0 #[.val (.ref x0), .val (.ref x1)] [] := by first | (simp [entryFrame, mkF, argsToLocals, Value.category]; done) | rfl
theorem pdsC : parseMethodDescriptor "([C)V" = some ⟨[(.array .char)], none⟩ := by decide +kernel
theorem pnsC : plainFor (⟨"java/lang/String", "<init>", "([C)V"⟩ : MethodName) = true := by decide +kernel
theorem dsC_0 : decode jdk_42_method_3_code 0 = .ok (.aload_n 0, 1) := by decide +kernel
theorem dsC_1 : decode jdk_42_method_3_code 1 = .ok (.aload_n 1, 1) := by decide +kernel
theorem dsC_2 : decode jdk_42_method_3_code 2 = .ok (.iconst 0, 1) := by decide +kernel
theorem dsC_3 : decode jdk_42_method_3_code 3 = .ok (.aload_n 1, 1) := by decide +kernel
theorem dsC_4 : decode jdk_42_method_3_code 4 = .ok (.arraylength, 1) := by decide +kernel
theorem dsC_5 : decode jdk_42_method_3_code 5 = .ok (.aconst_null, 1) := by decide +kernel
theorem dsC_6 : decode jdk_42_method_3_code 6 = .ok (.invokespecial 27, 3) := by decide +kernel
theorem dsC_9 : decode jdk_42_method_3_code 9 = .ok (.return_, 1) := by decide +kernel
set_option maxRecDepth 65536 in
set_option maxHeartbeats 4000000 in
theorem rmsC (l : Launch) {Z : State} {a0 : Array Value} (G : OG Z a0) (n0 : Nat) (a c : Addr) (kc : ClassId) (cs : List Int32) (dv : Value) (h0 : Heap) (hcap : cs.length ≤ 4) (hne : 0 < cs.length) (hch : Ch cs) (A : Arv Z h0 c kc .char (Int32.ofNat cs.length) (cs.map .int) dv) (E : Exa Z h0 a "java/lang/String") (F1 : Fld Z h0 a "java/lang/String" "value" "[B" .null) (F2 : Fld Z h0 a "java/lang/String" "coder" "B" (.int 0)) (ga : n0 ≤ a) : oCon l Z n0 EL1 [a] (⟨"java/lang/String", "<init>", "([C)V"⟩ : MethodName) isC #[.ref a, .ref c] h0 (fun v h => v = none ∧ Keep h0 h [a] ∧ SV Z h h.size a cs) := by
  obtain ⟨hw, hEL, ⟨cmp, hC, hc0⟩, ⟨fm, hfm, hF⟩⟩ := id G
  refine oCon.mk hEL pnsC rfl rfl (efsC a c) fun C hCl => ?_
  refine s_aloadN (pc' := 1) dsC_0 rfl rfl rfl ?_
  refine s_aloadN (pc' := 2) dsC_1 rfl rfl rfl ?_
  refine s_iconst (x := (0 : Int32)) (pc' := 3) dsC_2 rfl rfl ?_
  refine s_aloadN (pc' := 4) dsC_3 rfl rfl rfl ?_
  refine s_alen A (pc' := 5) dsC_4 rfl ?_
  refine s_null (pc' := 6) dsC_5 rfl ?_
  refine s_callI4 (rmsV C.l G n0 a c kc cs dv h0 hcap hne hch A E F1 F2 ga) (by simp) rfl rfl (hw _ (List.mem_of_getElem? (i := 12) rfl)) (hw _ (List.mem_of_getElem? (i := 13) rfl)) (hw _ (List.mem_of_getElem? (i := 7) rfl)) (hw _ (List.mem_of_getElem? (i := 15) rfl)) (by decide) (o_len pdsV rfl) rfl (pc' := 9) dsC_6 rfl (Nat.le_of_ble_eq_true rfl) (Nat.le_of_ble_eq_true rfl) (Nat.le_of_ble_eq_true rfl) (Nat.le_of_ble_eq_true rfl) (fun v6 h6 hQ6 => ?_)
  obtain ⟨rfl, q1, q2⟩ := hQ6
  dsimp only [oPush]
  exact s_ret rfl dsC_9 (by decide) (by decide) ⟨rfl, q1, q2⟩
def isM : OInfo := ("java/lang/String", jdk_42_method_55_code, 1, (some .boolean), "isEmpty", ({ frames := 0, cells := 0, slots := 0, locals := 0 } : Room))
theorem efsM (x0 : Addr) (m : MethodId) : entryFrame m #[(.ref x0)] 1 = mkF m 0 #[.val (.ref x0)] [] := by first | (simp [entryFrame, mkF, argsToLocals, Value.category]; done) | rfl
theorem pdsM : parseMethodDescriptor "()Z" = some ⟨[], some .boolean⟩ := by decide +kernel
theorem pnsM : plainFor (⟨"java/lang/String", "isEmpty", "()Z"⟩ : MethodName) = true := by decide +kernel
theorem dsM_0 : decode jdk_42_method_55_code 0 = .ok (.aload_n 0, 1) := by decide +kernel
theorem dsM_1 : decode jdk_42_method_55_code 1 = .ok (.getfield 9, 3) := by decide +kernel
theorem dsM_4 : decode jdk_42_method_55_code 4 = .ok (.arraylength, 1) := by decide +kernel
theorem dsM_5 : decode jdk_42_method_55_code 5 = .ok (.ifCond .ne 7, 3) := by decide +kernel
theorem dsM_8 : decode jdk_42_method_55_code 8 = .ok (.iconst 1, 1) := by decide +kernel
theorem dsM_9 : decode jdk_42_method_55_code 9 = .ok (.goto 4, 3) := by decide +kernel
theorem dsM_12 : decode jdk_42_method_55_code 12 = .ok (.iconst 0, 1) := by decide +kernel
theorem dsM_13 : decode jdk_42_method_55_code 13 = .ok (.ireturn, 1) := by decide +kernel
set_option maxRecDepth 65536 in
set_option maxHeartbeats 4000000 in
theorem rmsM (l : Launch) {Z : State} {a0 : Array Value} (G : OG Z a0) (n0 : Nat) (a : Addr) (N : Nat) (cs : List Int32) (h0 : Heap) (hb : cs.length < 2147483648) (H : SV Z h0 N a cs) : oCon l Z n0 EL1 [] (⟨"java/lang/String", "isEmpty", "()Z"⟩ : MethodName) isM #[.ref a] h0 (fun v h => ∃ r : Int32, v = some (.int r) ∧ h = h0 ∧ ((r = 1 ∧ cs = []) ∨ (r = 0 ∧ ¬ cs = []))) := by
  obtain ⟨hw, hEL, ⟨cmp, hC, hc0⟩, ⟨fm, hfm, hF⟩⟩ := id G
  obtain ⟨d1, k1, -, -, E1, C1, V1, A1⟩ := H
  refine oCon.mk hEL pnsM rfl rfl (efsM a) fun C hCl => ?_
  refine s_aloadN (pc' := 1) dsM_0 rfl rfl rfl ?_
  refine s_getF V1 (host := "") (Or.inl (hw _ (List.mem_of_getElem? (i := 33) rfl))) Via.refl (pc' := 4) dsM_1 rfl ?_
  refine s_alen A1 (pc' := 5) dsM_4 rfl ?_
  refine s_if (pc' := 8) (pc'' := 12) dsM_5 rfl (by decide) rfl (fun hc5 => ?_) (fun hc5 => ?_)
  · replace hc5 := b_ne hc5
    refine s_iconst (x := (0 : Int32)) (pc' := 13) dsM_12 rfl rfl ?_
    exact s_nret (t := .boolean) rfl (by simp) dsM_13 (by decide) (by decide) ⟨_, rfl, rfl, by first | exact Or.inl ⟨rfl, List.eq_nil_of_length_eq_zero (n_inj hb (by omega) hc5)⟩ | exact Or.inr ⟨rfl, fun q => hc5 (by rw [q]; rfl)⟩⟩
  · replace hc5 := b_neF hc5
    refine s_iconst (x := (1 : Int32)) (pc' := 9) dsM_8 rfl rfl ?_
    refine s_goto (pc' := 13) dsM_9 (by decide) rfl ?_
    exact s_nret (t := .boolean) rfl (by simp) dsM_13 (by decide) (by decide) ⟨_, rfl, rfl, by first | exact Or.inl ⟨rfl, List.eq_nil_of_length_eq_zero (n_inj hb (by omega) hc5)⟩ | exact Or.inr ⟨rfl, fun q => hc5 (by rw [q]; rfl)⟩⟩
def isK : OInfo := ("java/lang/String", jdk_42_method_152_code, 1, (some .byte), "coder", ({ frames := 0, cells := 0, slots := 0, locals := 0 } : Room))
theorem efsK (x0 : Addr) (m : MethodId) : entryFrame m #[(.ref x0)] 1 = mkF m 0 #[.val (.ref x0)] [] := by first | (simp [entryFrame, mkF, argsToLocals, Value.category]; done) | rfl
theorem pdsK : parseMethodDescriptor "()B" = some ⟨[], some .byte⟩ := by decide +kernel
theorem pnsK : plainFor (⟨"java/lang/String", "coder", "()B"⟩ : MethodName) = true := by decide +kernel
theorem dsK_0 : decode jdk_42_method_152_code 0 = .ok (.getstatic 38, 3) := by decide +kernel
theorem dsK_3 : decode jdk_42_method_152_code 3 = .ok (.ifCond .eq 10, 3) := by decide +kernel
theorem dsK_6 : decode jdk_42_method_152_code 6 = .ok (.aload_n 0, 1) := by decide +kernel
theorem dsK_7 : decode jdk_42_method_152_code 7 = .ok (.getfield 15, 3) := by decide +kernel
theorem dsK_10 : decode jdk_42_method_152_code 10 = .ok (.goto 4, 3) := by decide +kernel
theorem dsK_14 : decode jdk_42_method_152_code 14 = .ok (.ireturn, 1) := by decide +kernel
set_option maxRecDepth 65536 in
set_option maxHeartbeats 4000000 in
theorem rmsK (l : Launch) {Z : State} {a0 : Array Value} (G : OG Z a0) (n0 : Nat) (a : Addr) (h0 : Heap) (C1 : Fld Z h0 a "java/lang/String" "coder" "B" (.int 0)) : oCon l Z n0 EL1 [] (⟨"java/lang/String", "coder", "()B"⟩ : MethodName) isK #[.ref a] h0 (fun v h => v = some (.int 0) ∧ h = h0) := by
  obtain ⟨hw, hEL, ⟨cmp, hC, hc0⟩, ⟨fm, hfm, hF⟩⟩ := id G
  refine oCon.mk hEL pnsK rfl rfl (efsK a) fun C hCl => ?_
  refine s_getS hC (hw _ (List.mem_of_getElem? (i := 19) rfl)) Via.refl (pc' := 3) dsK_0 rfl ?_
  refine s_if (pc' := 6) (pc'' := 13) dsK_3 rfl (by decide) rfl (fun hc3 => ?_) (fun hc3 => ?_)
  · replace hc3 := b_eq hc3
    exact absurd hc3 hc0
  · replace hc3 := b_eqF hc3
    refine s_aloadN (pc' := 7) dsK_6 rfl rfl rfl ?_
    refine s_getF C1 (host := "") (Or.inl (hw _ (List.mem_of_getElem? (i := 31) rfl))) Via.refl (pc' := 10) dsK_7 rfl ?_
    refine s_goto (pc' := 14) dsK_10 (by decide) rfl ?_
    exact s_nret (t := .byte) rfl (by simp) dsK_14 (by decide) (by decide) ⟨rfl, rfl⟩
def isL : OInfo := ("java/lang/String", jdk_42_method_54_code, 1, (some .int), "length", ({ frames := 1, cells := 0, slots := 0, locals := 13 } : Room))
theorem efsL (x0 : Addr) (m : MethodId) : entryFrame m #[(.ref x0)] 1 = mkF m 0 #[.val (.ref x0)] [] := by first | (simp [entryFrame, mkF, argsToLocals, Value.category]; done) | rfl
theorem pdsL : parseMethodDescriptor "()I" = some ⟨[], some .int⟩ := by decide +kernel
theorem pnsL : plainFor (⟨"java/lang/String", "length", "()I"⟩ : MethodName) = true := by decide +kernel
theorem shr_zero (x : Int32) : x >>> ((0 : Int32) &&& 31) = x := by
  rw [o_eq]; have q := c_ishr x 0 0 (by decide); rw [q]; simp
theorem dsL_0 : decode jdk_42_method_54_code 0 = .ok (.aload_n 0, 1) := by decide +kernel
theorem dsL_1 : decode jdk_42_method_54_code 1 = .ok (.getfield 9, 3) := by decide +kernel
theorem dsL_4 : decode jdk_42_method_54_code 4 = .ok (.arraylength, 1) := by decide +kernel
theorem dsL_5 : decode jdk_42_method_54_code 5 = .ok (.aload_n 0, 1) := by decide +kernel
theorem dsL_6 : decode jdk_42_method_54_code 6 = .ok (.invokevirtual 335, 3) := by decide +kernel
theorem dsL_9 : decode jdk_42_method_54_code 9 = .ok (.ishr, 1) := by decide +kernel
theorem dsL_10 : decode jdk_42_method_54_code 10 = .ok (.ireturn, 1) := by decide +kernel
set_option maxRecDepth 65536 in
set_option maxHeartbeats 4000000 in
theorem rmsL (l : Launch) {Z : State} {a0 : Array Value} (G : OG Z a0) (n0 : Nat) (a : Addr) (N : Nat) (cs : List Int32) (h0 : Heap) (H : SV Z h0 N a cs) : oCon l Z n0 EL1 [] (⟨"java/lang/String", "length", "()I"⟩ : MethodName) isL #[.ref a] h0 (fun v h => v = some (.int (Int32.ofNat cs.length)) ∧ h = h0) := by
  obtain ⟨hw, hEL, ⟨cmp, hC, hc0⟩, ⟨fm, hfm, hF⟩⟩ := id G
  obtain ⟨d1, k1, -, -, E1, C1, V1, A1⟩ := H
  refine oCon.mk hEL pnsL rfl rfl (efsL a) fun C hCl => ?_
  refine s_aloadN (pc' := 1) dsL_0 rfl rfl rfl ?_
  refine s_getF V1 (host := "") (Or.inl (hw _ (List.mem_of_getElem? (i := 33) rfl))) Via.refl (pc' := 4) dsL_1 rfl ?_
  refine s_alen A1 (pc' := 5) dsL_4 rfl ?_
  refine s_aloadN (pc' := 6) dsL_5 rfl rfl rfl ?_
  refine s_callV0 (rmsK C.l G n0 a h0 C1) (by simp) E1 (hw _ (List.mem_of_getElem? (i := 68) rfl)) (hw _ (List.mem_of_getElem? (i := 69) rfl)) (hw _ (List.mem_of_getElem? (i := 71) rfl)) (hw _ (List.mem_of_getElem? (i := 70) rfl)) (o_nf (hw _ (List.mem_of_getElem? (i := 71) rfl)) rfl) (hw _ (List.mem_of_getElem? (i := 7) rfl)) (hw _ (List.mem_of_getElem? (i := 72) rfl)) (by decide) (o_len pdsK rfl) rfl (pc' := 9) dsL_6 rfl (Nat.le_of_ble_eq_true rfl) (Nat.le_of_ble_eq_true rfl) (Nat.le_of_ble_eq_true rfl) (Nat.le_of_ble_eq_true rfl) (fun v6 h6 hQ6 => ?_)
  obtain ⟨rfl, rfl⟩ := hQ6
  dsimp only [oPush]
  refine s_ishr (pc' := 10) dsL_9 rfl ?_
  exact s_iret rfl dsL_10 (by decide) (by decide) ⟨by rw [shr_zero], rfl⟩
def isI : OInfo := ("java/lang/String", jdk_42_method_154_code, 1, (some .boolean), "isLatin1", ({ frames := 0, cells := 0, slots := 0, locals := 0 } : Room))
theorem efsI (x0 : Addr) (m : MethodId) : entryFrame m #[(.ref x0)] 1 = mkF m 0 #[.val (.ref x0)] [] := by first | (simp [entryFrame, mkF, argsToLocals, Value.category]; done) | rfl
theorem pdsI : parseMethodDescriptor "()Z" = some ⟨[], some .boolean⟩ := by decide +kernel
theorem pnsI : plainFor (⟨"java/lang/String", "isLatin1", "()Z"⟩ : MethodName) = true := by decide +kernel
theorem dsI_0 : decode jdk_42_method_154_code 0 = .ok (.getstatic 38, 3) := by decide +kernel
theorem dsI_3 : decode jdk_42_method_154_code 3 = .ok (.ifCond .eq 14, 3) := by decide +kernel
theorem dsI_6 : decode jdk_42_method_154_code 6 = .ok (.aload_n 0, 1) := by decide +kernel
theorem dsI_7 : decode jdk_42_method_154_code 7 = .ok (.getfield 15, 3) := by decide +kernel
theorem dsI_10 : decode jdk_42_method_154_code 10 = .ok (.ifCond .ne 7, 3) := by decide +kernel
theorem dsI_13 : decode jdk_42_method_154_code 13 = .ok (.iconst 1, 1) := by decide +kernel
theorem dsI_14 : decode jdk_42_method_154_code 14 = .ok (.goto 4, 3) := by decide +kernel
theorem dsI_18 : decode jdk_42_method_154_code 18 = .ok (.ireturn, 1) := by decide +kernel
set_option maxRecDepth 65536 in
set_option maxHeartbeats 4000000 in
theorem rmsI (l : Launch) {Z : State} {a0 : Array Value} (G : OG Z a0) (n0 : Nat) (a : Addr) (h0 : Heap) (C1 : Fld Z h0 a "java/lang/String" "coder" "B" (.int 0)) : oCon l Z n0 EL1 [] (⟨"java/lang/String", "isLatin1", "()Z"⟩ : MethodName) isI #[.ref a] h0 (fun v h => v = some (.int 1) ∧ h = h0) := by
  obtain ⟨hw, hEL, ⟨cmp, hC, hc0⟩, ⟨fm, hfm, hF⟩⟩ := id G
  refine oCon.mk hEL pnsI rfl rfl (efsI a) fun C hCl => ?_
  refine s_getS hC (hw _ (List.mem_of_getElem? (i := 19) rfl)) Via.refl (pc' := 3) dsI_0 rfl ?_
  refine s_if (pc' := 6) (pc'' := 17) dsI_3 rfl (by decide) rfl (fun hc3 => ?_) (fun hc3 => ?_)
  · replace hc3 := b_eq hc3
    exact absurd hc3 hc0
  · replace hc3 := b_eqF hc3
    refine s_aloadN (pc' := 7) dsI_6 rfl rfl rfl ?_
    refine s_getF C1 (host := "") (Or.inl (hw _ (List.mem_of_getElem? (i := 31) rfl))) Via.refl (pc' := 10) dsI_7 rfl ?_
    refine s_if (pc' := 13) (pc'' := 17) dsI_10 rfl (by decide) rfl (fun hc10 => ?_) (fun hc10 => ?_)
    · replace hc10 := b_ne hc10
      exact absurd rfl hc10
    · replace hc10 := b_neF hc10
      refine s_iconst (x := (1 : Int32)) (pc' := 14) dsI_13 rfl rfl ?_
      refine s_goto (pc' := 18) dsI_14 (by decide) rfl ?_
      exact s_nret (t := .boolean) rfl (by simp) dsI_18 (by decide) (by decide) ⟨rfl, rfl⟩
def ipc : OInfo := ("jdk/internal/util/Preconditions", jdk_41_method_11_code, 3, (some .int), "checkIndex", ({ frames := 0, cells := 0, slots := 0, locals := 0 } : Room))
theorem pdpc : parseMethodDescriptor "(IILjava/util/function/BiFunction;)I" = some ⟨[.int, .int, (.object "java/util/function/BiFunction")], some .int⟩ := by decide +kernel
theorem pnpc : plainName "jdk/internal/util/Preconditions" = true := by first | (simp [plainName, overriddenIn]; done) | decide +kernel
theorem efpc (x0 x1 : Int32) (x2 : Value) (h : x2.isRef = true) (m : MethodId) : entryFrame m #[(.int x0), (.int x1), x2] 3 = mkF m 0 #[.val (.int x0), .val (.int x1), .val x2] [] := by
  rcases ref_cases h with rfl | ⟨a, rfl⟩ <;> first | (simp [entryFrame, mkF, argsToLocals, Value.category]; done) | rfl
theorem dpc_0 : decode jdk_41_method_11_code 0 = .ok (.iload_n 0, 1) := by decide +kernel
theorem dpc_1 : decode jdk_41_method_11_code 1 = .ok (.ifCond .lt 8, 3) := by decide +kernel
theorem dpc_4 : decode jdk_41_method_11_code 4 = .ok (.iload_n 0, 1) := by decide +kernel
theorem dpc_5 : decode jdk_41_method_11_code 5 = .ok (.iload_n 1, 1) := by decide +kernel
theorem dpc_6 : decode jdk_41_method_11_code 6 = .ok (.if_icmp .lt 10, 3) := by decide +kernel
theorem dpc_16 : decode jdk_41_method_11_code 16 = .ok (.iload_n 0, 1) := by decide +kernel
theorem dpc_17 : decode jdk_41_method_11_code 17 = .ok (.ireturn, 1) := by decide +kernel
set_option maxRecDepth 65536 in
set_option maxHeartbeats 4000000 in
theorem rmpc (l : Launch) {Z : State} {a0 : Array Value} (G : OG Z a0) (n0 : Nat) (i n : Int32) (w : Value) (hw2 : w.isRef = true) (h0 : Heap) (h1 : ¬ i < 0) (h2 : i < n) : oCon l Z n0 EL1 [] (⟨"jdk/internal/util/Preconditions", "checkIndex", "(IILjava/util/function/BiFunction;)I"⟩ : MethodName) ipc #[.int i, .int n, w] h0 (fun v h => ∃ r : Int32, v = some (.int r) ∧ h = h0) := by
  obtain ⟨hw, hEL, ⟨cmp, hC, hc0⟩, ⟨fm, hfm, hF⟩⟩ := id G
  refine oCon.mk hEL (plainFor_of_name pnpc) rfl rfl (efpc i n w hw2) fun C hCl => ?_
  refine s_iloadN (pc' := 1) dpc_0 rfl rfl ?_
  refine s_if (pc' := 4) (pc'' := 9) dpc_1 rfl (by decide) rfl (fun hc1 => ?_) (fun hc1 => ?_)
  · replace hc1 := b_lt hc1
    exact absurd hc1 h1
  · replace hc1 := b_ltF hc1
    refine s_iloadN (pc' := 5) dpc_4 rfl rfl ?_
    refine s_iloadN (pc' := 6) dpc_5 rfl rfl ?_
    refine s_icmp (pc' := 9) (pc'' := 16) dpc_6 rfl (by decide) rfl (fun hc6 => ?_) (fun hc6 => ?_)
    · replace hc6 := b_lt hc6
      refine s_iloadN (pc' := 17) dpc_16 rfl rfl ?_
      exact s_iret rfl dpc_17 (by decide) (by decide) ⟨_, rfl, rfl⟩
    · replace hc6 := b_ltF hc6
      exact absurd h2 hc6
def isX : OInfo := ("java/lang/String", jdk_42_method_155_code, 2, none, "checkIndex", ({ frames := 1, cells := 0, slots := 0, locals := 14 } : Room))
theorem efsX (x0 : Int32) (x1 : Int32) (m : MethodId) : entryFrame m #[(.int x0), (.int x1)] 2 = mkF m 0 #[.val (.int x0), .val (.int x1)] [] := by first | (simp [entryFrame, mkF, argsToLocals, Value.category]; done) | rfl
theorem pdsX : parseMethodDescriptor "(II)V" = some ⟨[.int, .int], none⟩ := by decide +kernel
theorem pnsX : plainFor (⟨"java/lang/String", "checkIndex", "(II)V"⟩ : MethodName) = true := by decide +kernel
theorem dsX_0 : decode jdk_42_method_155_code 0 = .ok (.iload_n 0, 1) := by decide +kernel
theorem dsX_1 : decode jdk_42_method_155_code 1 = .ok (.iload_n 1, 1) := by decide +kernel
theorem dsX_2 : decode jdk_42_method_155_code 2 = .ok (.getstatic 1053, 3) := by decide +kernel
theorem dsX_5 : decode jdk_42_method_155_code 5 = .ok (.invokestatic 1059, 3) := by decide +kernel
theorem dsX_8 : decode jdk_42_method_155_code 8 = .ok (.pop, 1) := by decide +kernel
theorem dsX_9 : decode jdk_42_method_155_code 9 = .ok (.return_, 1) := by decide +kernel
set_option maxRecDepth 65536 in
set_option maxHeartbeats 4000000 in
theorem rmsX (l : Launch) {Z : State} {a0 : Array Value} (G : OG Z a0) (n0 : Nat) (i n : Int32) (h0 : Heap) (h1 : ¬ i < 0) (h2 : i < n) : oCon l Z n0 EL1 [] (⟨"java/lang/String", "checkIndex", "(II)V"⟩ : MethodName) isX #[.int i, .int n] h0 (fun v h => v = none ∧ h = h0) := by
  obtain ⟨hw, hEL, ⟨cmp, hC, hc0⟩, ⟨fm, hfm, hF⟩⟩ := id G
  refine oCon.mk hEL pnsX rfl rfl (efsX i n) fun C hCl => ?_
  refine s_iloadN (pc' := 1) dsX_0 rfl rfl ?_
  refine s_iloadN (pc' := 2) dsX_1 rfl rfl ?_
  refine s_getS hF (hw _ (List.mem_of_getElem? (i := 90) rfl)) Via.refl (pc' := 5) dsX_2 rfl ?_
  refine s_callS3 (rmpc C.l G n0 i n fm hfm h0 h1 h2) (by simp) (hw _ (List.mem_of_getElem? (i := 92) rfl)) (hw _ (List.mem_of_getElem? (i := 93) rfl)) (hw _ (List.mem_of_getElem? (i := 91) rfl)) (hw _ (List.mem_of_getElem? (i := 94) rfl)) (by decide) (o_len pdpc rfl) rfl (pc' := 8) dsX_5 rfl (Nat.le_of_ble_eq_true rfl) (Nat.le_of_ble_eq_true rfl) (Nat.le_of_ble_eq_true rfl) (Nat.le_of_ble_eq_true rfl) (fun v5 h5 hQ5 => ?_)
  obtain ⟨r, rfl, rfl⟩ := hQ5
  dsimp only [oPush]
  refine s_pop (pc' := 9) dsX_8 rfl rfl ?_
  exact s_ret rfl dsX_9 (by decide) (by decide) ⟨rfl, rfl⟩
def ilC : OInfo := ("java/lang/StringLatin1", jdk_43_method_2_code, 2, (some .char), "charAt", ({ frames := 2, cells := 0, slots := 0, locals := 27 } : Room))
theorem eflC (x0 : Addr) (x1 : Int32) (m : MethodId) : entryFrame m #[(.ref x0), (.int x1)] 2 = mkF m 0 #[.val (.ref x0), .val (.int x1)] [] := by first | (simp [entryFrame, mkF, argsToLocals, Value.category]; done) | rfl
theorem pdlC : parseMethodDescriptor "([BI)C" = some ⟨[(.array .byte), .int], some .char⟩ := by decide +kernel
theorem pnlC : plainFor (⟨"java/lang/StringLatin1", "charAt", "([BI)C"⟩ : MethodName) = true := by decide +kernel
theorem dlC_0 : decode jdk_43_method_2_code 0 = .ok (.iload_n 1, 1) := by decide +kernel
theorem dlC_1 : decode jdk_43_method_2_code 1 = .ok (.aload_n 0, 1) := by decide +kernel
theorem dlC_2 : decode jdk_43_method_2_code 2 = .ok (.arraylength, 1) := by decide +kernel
theorem dlC_3 : decode jdk_43_method_2_code 3 = .ok (.invokestatic 9, 3) := by decide +kernel
theorem dlC_6 : decode jdk_43_method_2_code 6 = .ok (.aload_n 0, 1) := by decide +kernel
theorem dlC_7 : decode jdk_43_method_2_code 7 = .ok (.iload_n 1, 1) := by decide +kernel
theorem dlC_8 : decode jdk_43_method_2_code 8 = .ok (.baload, 1) := by decide +kernel
theorem dlC_9 : decode jdk_43_method_2_code 9 = .ok (.sipush 255, 3) := by decide +kernel
theorem dlC_12 : decode jdk_43_method_2_code 12 = .ok (.iand, 1) := by decide +kernel
theorem dlC_13 : decode jdk_43_method_2_code 13 = .ok (.i2c, 1) := by decide +kernel
theorem dlC_14 : decode jdk_43_method_2_code 14 = .ok (.ireturn, 1) := by decide +kernel
set_option maxRecDepth 65536 in
set_option maxHeartbeats 4000000 in
theorem rmlC (l : Launch) {Z : State} {a0 : Array Value} (G : OG Z a0) (n0 : Nat) (d : Addr) (k : ClassId) (cs : List Int32) (j : Nat) (z : Int32) (h0 : Heap) (hb : cs.length < 2147483648) (hch : Ch cs) (hz : cs[j]? = some z) (A : Arv Z h0 d k .byte (Int32.ofNat cs.length) (cs.map fun c => Value.int (byt c)) (.int 0)) : oCon l Z n0 EL1 [] (⟨"java/lang/StringLatin1", "charAt", "([BI)C"⟩ : MethodName) ilC #[.ref d, .int (Int32.ofNat j)] h0 (fun v h => v = some (.int z) ∧ h = h0) := by
  obtain ⟨hw, hEL, ⟨cmp, hC, hc0⟩, ⟨fm, hfm, hF⟩⟩ := id G
  have hj := (List.getElem?_eq_some_iff.mp hz).1
  refine oCon.mk hEL pnlC rfl rfl (eflC d _) fun C hCl => ?_
  refine s_iloadN (pc' := 1) dlC_0 rfl rfl ?_
  refine s_aloadN (pc' := 2) dlC_1 rfl rfl rfl ?_
  refine s_alen A (pc' := 3) dlC_2 rfl ?_
  refine s_callS2 (rmsX C.l G n0 (Int32.ofNat j) _ h0 (nn (by omega)) (lt' hb hj)) (by simp) (hw _ (List.mem_of_getElem? (i := 87) rfl)) (hw _ (List.mem_of_getElem? (i := 88) rfl)) (hw _ (List.mem_of_getElem? (i := 7) rfl)) (hw _ (List.mem_of_getElem? (i := 89) rfl)) (by decide) (o_len pdsX rfl) rfl (pc' := 6) dlC_3 rfl (Nat.le_of_ble_eq_true rfl) (Nat.le_of_ble_eq_true rfl) (Nat.le_of_ble_eq_true rfl) (Nat.le_of_ble_eq_true rfl) (fun v3 h3 hQ3 => ?_)
  obtain ⟨rfl, rfl⟩ := hQ3
  dsimp only [oPush]
  refine s_aloadN (pc' := 7) dlC_6 rfl rfl rfl ?_
  refine s_iloadN (pc' := 8) dlC_7 rfl rfl ?_
  refine s_baload A (nn (by omega)) (lt' hb hj) (v := .int (byt z)) (by rw [cl (by omega)]; exact bs_get hz _) (pc' := 9) dlC_8 rfl ?_
  refine s_sipush (x := (255 : Int32)) (pc' := 12) dlC_9 rfl rfl ?_
  refine s_iand (pc' := 13) dlC_12 rfl ?_
  refine s_i2c (pc' := 14) dlC_13 rfl ?_
  exact s_nret (t := .char) rfl (by simp) dlC_14 (by decide) (by decide) ⟨by rw [byt_and (hch z (List.mem_of_getElem? hz)), i2c_ch (hch z (List.mem_of_getElem? hz)), nar_ch (hch z (List.mem_of_getElem? hz))], rfl⟩
def isH : OInfo := ("java/lang/String", jdk_42_method_56_code, 2, (some .char), "charAt", ({ frames := 3, cells := 0, slots := 0, locals := 40 } : Room))
theorem efsH (x0 : Addr) (x1 : Int32) (m : MethodId) : entryFrame m #[(.ref x0), (.int x1)] 2 = mkF m 0 #[.val (.ref x0), .val (.int x1)] [] := by first | (simp [entryFrame, mkF, argsToLocals, Value.category]; done) | rfl
theorem pdsH : parseMethodDescriptor "(I)C" = some ⟨[.int], some .char⟩ := by decide +kernel
theorem pnsH : plainFor (⟨"java/lang/String", "charAt", "(I)C"⟩ : MethodName) = true := by decide +kernel
theorem dsH_0 : decode jdk_42_method_56_code 0 = .ok (.aload_n 0, 1) := by decide +kernel
theorem dsH_1 : decode jdk_42_method_56_code 1 = .ok (.invokevirtual 492, 3) := by decide +kernel
theorem dsH_4 : decode jdk_42_method_56_code 4 = .ok (.ifCond .eq 12, 3) := by decide +kernel
theorem dsH_7 : decode jdk_42_method_56_code 7 = .ok (.aload_n 0, 1) := by decide +kernel
theorem dsH_8 : decode jdk_42_method_56_code 8 = .ok (.getfield 9, 3) := by decide +kernel
theorem dsH_11 : decode jdk_42_method_56_code 11 = .ok (.iload_n 1, 1) := by decide +kernel
theorem dsH_12 : decode jdk_42_method_56_code 12 = .ok (.invokestatic 495, 3) := by decide +kernel
theorem dsH_15 : decode jdk_42_method_56_code 15 = .ok (.ireturn, 1) := by decide +kernel
set_option maxRecDepth 65536 in
set_option maxHeartbeats 4000000 in
theorem rmsH (l : Launch) {Z : State} {a0 : Array Value} (G : OG Z a0) (n0 : Nat) (a : Addr) (N : Nat) (cs : List Int32) (j : Nat) (z : Int32) (h0 : Heap) (hb : cs.length < 2147483648) (hch : Ch cs) (hz : cs[j]? = some z) (H : SV Z h0 N a cs) : oCon l Z n0 EL1 [] (⟨"java/lang/String", "charAt", "(I)C"⟩ : MethodName) isH #[.ref a, .int (Int32.ofNat j)] h0 (fun v h => v = some (.int z) ∧ h = h0) := by
  obtain ⟨hw, hEL, ⟨cmp, hC, hc0⟩, ⟨fm, hfm, hF⟩⟩ := id G
  obtain ⟨d1, k1, -, -, E1, C1, V1, A1⟩ := H
  refine oCon.mk hEL pnsH rfl rfl (efsH a _) fun C hCl => ?_
  refine s_aloadN (pc' := 1) dsH_0 rfl rfl rfl ?_
  refine s_callV0 (rmsI C.l G n0 a h0 C1) (by simp) E1 (hw _ (List.mem_of_getElem? (i := 78) rfl)) (hw _ (List.mem_of_getElem? (i := 79) rfl)) (hw _ (List.mem_of_getElem? (i := 81) rfl)) (hw _ (List.mem_of_getElem? (i := 80) rfl)) (o_nf (hw _ (List.mem_of_getElem? (i := 81) rfl)) rfl) (hw _ (List.mem_of_getElem? (i := 7) rfl)) (hw _ (List.mem_of_getElem? (i := 82) rfl)) (by decide) (o_len pdsI rfl) rfl (pc' := 4) dsH_1 rfl (Nat.le_of_ble_eq_true rfl) (Nat.le_of_ble_eq_true rfl) (Nat.le_of_ble_eq_true rfl) (Nat.le_of_ble_eq_true rfl) (fun v1 h1 hQ1 => ?_)
  obtain ⟨rfl, rfl⟩ := hQ1
  dsimp only [oPush]
  refine s_if (pc' := 7) (pc'' := 16) dsH_4 rfl (by decide) rfl (fun hc4 => ?_) (fun hc4 => ?_)
  · replace hc4 := b_eq hc4
    exact absurd hc4 (by decide)
  · replace hc4 := b_eqF hc4
    refine s_aloadN (pc' := 8) dsH_7 rfl rfl rfl ?_
    refine s_getF V1 (host := "") (Or.inl (hw _ (List.mem_of_getElem? (i := 33) rfl))) Via.refl (pc' := 11) dsH_8 rfl ?_
    refine s_iloadN (pc' := 12) dsH_11 rfl rfl ?_
    refine s_callS2 (rmlC C.l G n0 d1 k1 cs j z _ hb hch hz A1) (by simp) (hw _ (List.mem_of_getElem? (i := 83) rfl)) (hw _ (List.mem_of_getElem? (i := 84) rfl)) (hw _ (List.mem_of_getElem? (i := 85) rfl)) (hw _ (List.mem_of_getElem? (i := 86) rfl)) (by decide) (o_len pdlC rfl) rfl (pc' := 15) dsH_12 rfl (Nat.le_of_ble_eq_true rfl) (Nat.le_of_ble_eq_true rfl) (Nat.le_of_ble_eq_true rfl) (Nat.le_of_ble_eq_true rfl) (fun v12 h12 hQ12 => ?_)
    obtain ⟨rfl, rfl⟩ := hQ12
    dsimp only [oPush]
    exact s_nret (t := .char) rfl (by simp) dsH_15 (by decide) (by decide) ⟨by rw [nar_ch (hch z (List.mem_of_getElem? hz))], rfl⟩
def isE : OInfo := ("java/lang/String", jdk_42_method_66_code, 3, (some .boolean), "equals", ({ frames := 0, cells := 0, slots := 0, locals := 0 } : Room))
theorem efsE (x0 : Addr) (x1 : Addr) (m : MethodId) : entryFrame m #[(.ref x0), (.ref x1)] 3 = mkF m 0 #[.val (.ref x0), .val (.ref x1), .unset] [] := by first | (simp [entryFrame, mkF, argsToLocals, Value.category]; done) | rfl
theorem pdsE : parseMethodDescriptor "(Ljava/lang/Object;)Z" = some ⟨[(.object "java/lang/Object")], some .boolean⟩ := by decide +kernel
theorem pnsE : plainFor (⟨"java/lang/String", "equals", "(Ljava/lang/Object;)Z"⟩ : MethodName) = true := by decide +kernel
theorem dsE_0 : decode jdk_42_method_66_code 0 = .ok (.aload_n 0, 1) := by decide +kernel
theorem dsE_1 : decode jdk_42_method_66_code 1 = .ok (.aload_n 1, 1) := by decide +kernel
theorem dsE_2 : decode jdk_42_method_66_code 2 = .ok (.if_acmp .ne 5, 3) := by decide +kernel
theorem dsE_5 : decode jdk_42_method_66_code 5 = .ok (.iconst 1, 1) := by decide +kernel
theorem dsE_6 : decode jdk_42_method_66_code 6 = .ok (.ireturn, 1) := by decide +kernel
set_option maxRecDepth 65536 in
set_option maxHeartbeats 4000000 in
theorem rmsE (l : Launch) {Z : State} {a0 : Array Value} (G : OG Z a0) (n0 : Nat) (a : Addr) (h0 : Heap) : oCon l Z n0 EL1 [] (⟨"java/lang/String", "equals", "(Ljava/lang/Object;)Z"⟩ : MethodName) isE #[.ref a, .ref a] h0 (fun v h => v = some (.int 1) ∧ h = h0) := by
  obtain ⟨hw, hEL, ⟨cmp, hC, hc0⟩, ⟨fm, hfm, hF⟩⟩ := id G
  refine oCon.mk hEL pnsE rfl rfl (efsE a a) fun C hCl => ?_
  refine s_aloadN (pc' := 1) dsE_0 rfl rfl rfl ?_
  refine s_aloadN (pc' := 2) dsE_1 rfl rfl rfl ?_
  refine s_acmpNe rfl rfl (pc' := 5) (pc'' := 7) dsE_2 rfl (by decide) rfl (fun hc2 => absurd rfl hc2) (fun hc2 => ?_)
  refine s_iconst (x := (1 : Int32)) (pc' := 6) dsE_5 rfl rfl ?_
  exact s_nret (t := .boolean) rfl (by simp) dsE_6 (by decide) (by decide) ⟨rfl, rfl⟩
theorem pn0 : plainName "com/example/uni_mvc/unimvc/core/ResultCreatedPinLaw" = true := by first | (simp [plainName, overriddenIn]; done) | decide +kernel
theorem pnR : plainName "com/example/uni_mvc/unimvc/core/Result" = true := by first | (simp [plainName, overriddenIn]; done) | decide +kernel
theorem pnO : plainName "java/util/Optional" = true := by first | (simp [plainName, overriddenIn]; done) | decide +kernel
theorem pnJ : plainName "java/util/Objects" = true := by first | (simp [plainName, overriddenIn]; done) | decide +kernel
def Vis (cs : List Int32) : Prop := ∀ c ∈ cs, (32 : Int32) < c ∧ ¬ (126 : Int32) < c
theorem Vis.ch {cs : List Int32} (h : Vis cs) : Ch cs := fun c hc => by
  have q := h c hc
  have e1 : (0 : Int32).toInt = 0 := rfl
  have e2 : (255 : Int32).toInt = 255 := rfl
  have e3 : (32 : Int32).toInt = 32 := rfl
  have e4 : (126 : Int32).toInt = 126 := rfl
  rw [o_lt, o_lt, e3, e4] at q; rw [o_lt, o_lt, e1, e2]; omega
def dv (x : Int32) : Int32 := 33 + (x &&& 2147483647) % 94
theorem dv_r (x : Int32) : (32 : Int32) < dv x ∧ ¬ (126 : Int32) < dv x := by
  have h1 := c_and x 2147483647 (by decide)
  have h2 := (c_irem (x &&& 2147483647) 94 94 rfl).1 h1.1
  have h3 := c_iadd 33 ((x &&& 2147483647) % 94)
  have h4 := rng32 (33 + (x &&& 2147483647) % 94)
  have e1 : (33 : Int32).toInt = 33 := rfl
  have e3 : (32 : Int32).toInt = 32 := rfl
  have e4 : (126 : Int32).toInt = 126 := rfl
  unfold dv
  rw [o_lt, o_lt, e3, e4]; rw [e1, h2] at h3; omega
theorem dv_ch (x : Int32) : ¬ dv x < 0 ∧ ¬ (255 : Int32) < dv x := by
  have q := dv_r x
  have e1 : (0 : Int32).toInt = 0 := rfl
  have e2 : (255 : Int32).toInt = 255 := rfl
  have e3 : (32 : Int32).toInt = 32 := rfl
  have e4 : (126 : Int32).toInt = 126 := rfl
  rw [o_lt, o_lt, e3, e4] at q; rw [o_lt, o_lt, e1, e2]; omega
def irn : OInfo := ("java/util/Objects", jdk_31_method_11_code, 2, (some (.object "java/lang/Object")), "requireNonNull", ({ frames := 0, cells := 0, slots := 0, locals := 0 } : Room))
theorem efrn (x0 : Addr) (x1 : Addr) (m : MethodId) : entryFrame m #[(.ref x0), (.ref x1)] 2 = mkF m 0 #[.val (.ref x0), .val (.ref x1)] [] := by first | (simp [entryFrame, mkF, argsToLocals, Value.category]; done) | rfl
theorem pdrn : parseMethodDescriptor "(Ljava/lang/Object;Ljava/lang/String;)Ljava/lang/Object;" = some ⟨[(.object "java/lang/Object"), (.object "java/lang/String")], some (.object "java/lang/Object")⟩ := by decide +kernel
theorem drn_0 : decode jdk_31_method_11_code 0 = .ok (.aload_n 0, 1) := by decide +kernel
theorem drn_1 : decode jdk_31_method_11_code 1 = .ok (.ifnonnull 12, 3) := by decide +kernel
theorem drn_13 : decode jdk_31_method_11_code 13 = .ok (.aload_n 0, 1) := by decide +kernel
theorem drn_14 : decode jdk_31_method_11_code 14 = .ok (.areturn, 1) := by decide +kernel
set_option maxRecDepth 65536 in
set_option maxHeartbeats 4000000 in
theorem rmrn (l : Launch) {Z : State} {a0 : Array Value} (G : OG Z a0) (n0 : Nat) (a t : Addr) (h0 : Heap) : oCon l Z n0 EL1 [] (⟨"java/util/Objects", "requireNonNull", "(Ljava/lang/Object;Ljava/lang/String;)Ljava/lang/Object;"⟩ : MethodName) irn #[.ref a, .ref t] h0 (fun v h => v = some (.ref a) ∧ h = h0) := by
  obtain ⟨hw, hEL, ⟨cmp, hC, hc0⟩, ⟨fm, hfm, hF⟩⟩ := id G
  refine oCon.mk hEL (plainFor_of_name pnJ) rfl rfl (efrn a t) fun C hCl => ?_
  refine s_aloadN (pc' := 1) drn_0 rfl rfl rfl ?_
  refine s_nnY (pc' := 13) drn_1 (by decide) rfl ?_
  refine s_aloadN (pc' := 14) drn_13 rfl rfl rfl ?_
  exact s_aret rfl rfl rfl drn_14 (by decide) (by decide) ⟨rfl, rfl⟩
def ick : OInfo := ("com/example/uni_mvc/unimvc/core/Result", prog_31_method_4_code, 3, (some (.object "java/lang/String")), "checked", ({ frames := 4, cells := 2, slots := 36, locals := 54 } : Room))
theorem efck (x0 : Addr) (m : MethodId) : entryFrame m #[(.ref x0)] 3 = mkF m 0 #[.val (.ref x0), .unset, .unset] [] := by first | (simp [entryFrame, mkF, argsToLocals, Value.category]; done) | rfl
theorem pdck : parseMethodDescriptor "(Ljava/lang/String;)Ljava/lang/String;" = some ⟨[(.object "java/lang/String")], some (.object "java/lang/String")⟩ := by decide +kernel
theorem dck_0 : decode prog_31_method_4_code 0 = .ok (.aload_n 0, 1) := by decide +kernel
theorem dck_1 : decode prog_31_method_4_code 1 = .ok (.ldc 35, 2) := by decide +kernel
theorem dck_3 : decode prog_31_method_4_code 3 = .ok (.invokestatic 29, 3) := by decide +kernel
theorem dck_6 : decode prog_31_method_4_code 6 = .ok (.pop, 1) := by decide +kernel
theorem dck_7 : decode prog_31_method_4_code 7 = .ok (.aload_n 0, 1) := by decide +kernel
theorem dck_8 : decode prog_31_method_4_code 8 = .ok (.invokevirtual 36, 3) := by decide +kernel
theorem dck_11 : decode prog_31_method_4_code 11 = .ok (.ifCond .eq 13, 3) := by decide +kernel
theorem dck_24 : decode prog_31_method_4_code 24 = .ok (.iconst 0, 1) := by decide +kernel
theorem dck_25 : decode prog_31_method_4_code 25 = .ok (.istore_n 1, 1) := by decide +kernel
theorem dck_26 : decode prog_31_method_4_code 26 = .ok (.iload_n 1, 1) := by decide +kernel
theorem dck_27 : decode prog_31_method_4_code 27 = .ok (.aload_n 0, 1) := by decide +kernel
theorem dck_28 : decode prog_31_method_4_code 28 = .ok (.invokevirtual 49, 3) := by decide +kernel
theorem dck_31 : decode prog_31_method_4_code 31 = .ok (.if_icmp .ge 42, 3) := by decide +kernel
theorem dck_34 : decode prog_31_method_4_code 34 = .ok (.aload_n 0, 1) := by decide +kernel
theorem dck_35 : decode prog_31_method_4_code 35 = .ok (.iload_n 1, 1) := by decide +kernel
theorem dck_36 : decode prog_31_method_4_code 36 = .ok (.invokevirtual 53, 3) := by decide +kernel
theorem dck_39 : decode prog_31_method_4_code 39 = .ok (.istore_n 2, 1) := by decide +kernel
theorem dck_40 : decode prog_31_method_4_code 40 = .ok (.iload_n 2, 1) := by decide +kernel
theorem dck_41 : decode prog_31_method_4_code 41 = .ok (.bipush 32, 2) := by decide +kernel
theorem dck_43 : decode prog_31_method_4_code 43 = .ok (.if_icmp .le 9, 3) := by decide +kernel
theorem dck_46 : decode prog_31_method_4_code 46 = .ok (.iload_n 2, 1) := by decide +kernel
theorem dck_47 : decode prog_31_method_4_code 47 = .ok (.bipush 126, 2) := by decide +kernel
theorem dck_49 : decode prog_31_method_4_code 49 = .ok (.if_icmp .le 18, 3) := by decide +kernel
theorem dck_67 : decode prog_31_method_4_code 67 = .ok (.iinc 1 1, 3) := by decide +kernel
theorem dck_70 : decode prog_31_method_4_code 70 = .ok (.goto (-44), 3) := by decide +kernel
theorem dck_73 : decode prog_31_method_4_code 73 = .ok (.aload_n 0, 1) := by decide +kernel
theorem dck_74 : decode prog_31_method_4_code 74 = .ok (.areturn, 1) := by decide +kernel
set_option maxRecDepth 65536 in
set_option maxHeartbeats 4000000 in
theorem ckloop {C : OCtx} {Z : State} {a0 : Array Value} (G : OG Z a0) {n0 : Nat} {ws : List Addr} {Q : Option Value → Heap → Prop} {s : Addr} {N : Nat} {cs : List Int32} (hb : cs.length < 2147483648) (hvis : Vis cs) (k : Nat) : ∀ (h : Heap) (j : Nat) (s2 : Slot), j ≤ cs.length → cs.length - j = k → SV Z h N s cs → One s2 → (∀ h', h' = h → Q (some (.ref s)) h') →
    oRun C Z n0 ick EL1 ws Q h 2 36 (mkF C.m 26 #[.val (.ref s), .val (.int (Int32.ofNat j)), s2] []) := by
  induction k using Nat.strongRecOn with
  | _ k ih =>
  intro h j s2 hj hk T hs2 fin
  subst hk
  have hw := G.1
  refine s_iloadN (pc' := 27) dck_26 rfl rfl ?_
  refine s_aloadN (pc' := 28) dck_27 rfl rfl rfl ?_
  refine s_callV0 (rmsL C.l G n0 s N cs h T) (by simp) T.exa (hw _ (List.mem_of_getElem? (i := 63) rfl)) (hw _ (List.mem_of_getElem? (i := 64) rfl)) (hw _ (List.mem_of_getElem? (i := 66) rfl)) (hw _ (List.mem_of_getElem? (i := 65) rfl)) (o_nf (hw _ (List.mem_of_getElem? (i := 66) rfl)) rfl) (hw _ (List.mem_of_getElem? (i := 7) rfl)) (hw _ (List.mem_of_getElem? (i := 67) rfl)) (by decide) (o_len pdsL rfl) rfl (pc' := 31) dck_28 rfl (Nat.le_of_ble_eq_true rfl) (Nat.le_of_ble_eq_true rfl) (Nat.le_of_ble_eq_true rfl) (Nat.le_of_ble_eq_true rfl) (fun v28 h28 hQ28 => ?_)
  obtain ⟨rfl, rfl⟩ := hQ28
  dsimp only [oPush]
  refine s_icmp (pc' := 34) (pc'' := 73) dck_31 rfl (by decide) rfl (fun hc31 => ?_) (fun hc31 => ?_)
  · replace hc31 := b_ge hc31
    refine s_aloadN (pc' := 74) dck_73 rfl rfl rfl ?_
    exact s_aret rfl rfl rfl dck_74 (by decide) (by decide) (fin _ rfl)
  · replace hc31 := b_geF hc31
    have hj2 : j < cs.length := by
      by_cases q : j < cs.length
      · exact q
      · exact absurd hc31 (nlt' (by omega) (by omega))
    obtain ⟨z, hz⟩ : ∃ z, cs[j]? = some z := ⟨cs[j], List.getElem?_eq_getElem hj2⟩
    have hv := hvis z (List.mem_of_getElem? hz)
    refine s_aloadN (pc' := 35) dck_34 rfl rfl rfl ?_
    refine s_iloadN (pc' := 36) dck_35 rfl rfl ?_
    refine s_callV1 (rmsH C.l G n0 s N cs j z _ hb hvis.ch hz T) (by simp) T.exa (hw _ (List.mem_of_getElem? (i := 73) rfl)) (hw _ (List.mem_of_getElem? (i := 74) rfl)) (hw _ (List.mem_of_getElem? (i := 76) rfl)) (hw _ (List.mem_of_getElem? (i := 75) rfl)) (o_nf (hw _ (List.mem_of_getElem? (i := 76) rfl)) rfl) (hw _ (List.mem_of_getElem? (i := 7) rfl)) (hw _ (List.mem_of_getElem? (i := 77) rfl)) (by decide) (o_len pdsH rfl) rfl (pc' := 39) dck_36 rfl (Nat.le_of_ble_eq_true rfl) (Nat.le_of_ble_eq_true rfl) (Nat.le_of_ble_eq_true rfl) (Nat.le_of_ble_eq_true rfl) (fun v36 h36 hQ36 => ?_)
    obtain ⟨rfl, rfl⟩ := hQ36
    dsimp only [oPush]
    refine s_istoreN (kn := 2) rfl (pc' := 40) dck_39 rfl (o_st rfl (by first | exact One.u | exact One.val rfl | assumption) rfl) ?_
    dsimp only [List.set_cons_succ, List.set_cons_zero]
    refine s_iloadN (pc' := 41) dck_40 rfl rfl ?_
    refine s_bipush (x := (32 : Int32)) (pc' := 43) dck_41 rfl rfl ?_
    refine s_icmp (pc' := 46) (pc'' := 52) dck_43 rfl (by decide) rfl (fun hc43 => ?_) (fun hc43 => ?_)
    · replace hc43 := b_le hc43
      exact absurd hv.1 hc43
    · replace hc43 := b_leF hc43
      refine s_iloadN (pc' := 47) dck_46 rfl rfl ?_
      refine s_bipush (x := (126 : Int32)) (pc' := 49) dck_47 rfl rfl ?_
      refine s_icmp (pc' := 52) (pc'' := 67) dck_49 rfl (by decide) rfl (fun hc49 => ?_) (fun hc49 => ?_)
      · replace hc49 := b_le hc49
        refine s_iinc (y := (1 : Int32)) (pc' := 70) dck_67 rfl rfl rfl (o_st rfl (by first | exact One.u | exact One.val rfl | assumption) rfl) ?_
        dsimp only [List.set_cons_succ, List.set_cons_zero]
        rw [n_succ]
        refine s_goto (pc' := 26) dck_70 (by decide) rfl ?_
        exact ih (cs.length - (j + 1)) (by omega) _ (j + 1) _ (by omega) rfl T (One.val rfl) fin
      · replace hc49 := b_leF hc49
        exact absurd hc49 hv.2
set_option maxRecDepth 65536 in
set_option maxHeartbeats 4000000 in
theorem rmck (l : Launch) {Z : State} {a0 : Array Value} (G : OG Z a0) (n0 : Nat) (s : Addr) (N : Nat) (cs : List Int32) (h0 : Heap) (hb : cs.length < 2147483648) (hne : 0 < cs.length) (hvis : Vis cs) (T : SV Z h0 N s cs) : oCon l Z n0 EL1 [] (⟨"com/example/uni_mvc/unimvc/core/Result", "checked", "(Ljava/lang/String;)Ljava/lang/String;"⟩ : MethodName) ick #[.ref s] h0 (fun v h => v = some (.ref s) ∧ Ext h0 h) := by
  obtain ⟨hw, hEL, ⟨cmp, hC, hc0⟩, ⟨fm, hfm, hF⟩⟩ := id G
  refine oCon.mk hEL (plainFor_of_name pnR) rfl rfl (efck s) fun C hCl => ?_
  refine s_aloadN (pc' := 1) dck_0 rfl rfl rfl ?_
  refine s_ldcO 32 (text := "location") (hw _ (List.mem_of_getElem? (i := 51) rfl)) (o_wS hw) hEL (pc' := 3) dck_1 rfl (by decide) (by decide) (Nat.le_of_ble_eq_true rfl) (Nat.le_of_ble_eq_true rfl) (fun h1 a1 E1 => ?_)
  refine s_callS2 (rmrn C.l G n0 s a1 h1) (by simp) (hw _ (List.mem_of_getElem? (i := 54) rfl)) (hw _ (List.mem_of_getElem? (i := 55) rfl)) (hw _ (List.mem_of_getElem? (i := 56) rfl)) (hw _ (List.mem_of_getElem? (i := 57) rfl)) (by decide) (o_len pdrn rfl) rfl (pc' := 6) dck_3 rfl (Nat.le_of_ble_eq_true rfl) (Nat.le_of_ble_eq_true rfl) (Nat.le_of_ble_eq_true rfl) (Nat.le_of_ble_eq_true rfl) (fun v3 h3 hQ3 => ?_)
  obtain ⟨rfl, rfl⟩ := hQ3
  dsimp only [oPush]
  refine s_pop (pc' := 7) dck_6 rfl rfl ?_
  refine s_aloadN (pc' := 8) dck_7 rfl rfl rfl ?_
  refine s_callV0 (rmsM C.l G n0 s N cs _ hb (T.ext E1)) (by simp) (T.exa.ext E1) (hw _ (List.mem_of_getElem? (i := 58) rfl)) (hw _ (List.mem_of_getElem? (i := 59) rfl)) (hw _ (List.mem_of_getElem? (i := 61) rfl)) (hw _ (List.mem_of_getElem? (i := 60) rfl)) (o_nf (hw _ (List.mem_of_getElem? (i := 61) rfl)) rfl) (hw _ (List.mem_of_getElem? (i := 7) rfl)) (hw _ (List.mem_of_getElem? (i := 62) rfl)) (by decide) (o_len pdsM rfl) rfl (pc' := 11) dck_8 rfl (Nat.le_of_ble_eq_true rfl) (Nat.le_of_ble_eq_true rfl) (Nat.le_of_ble_eq_true rfl) (Nat.le_of_ble_eq_true rfl) (fun v8 h8 hQ8 => ?_)
  obtain ⟨r, rfl, rfl, hr⟩ := hQ8
  dsimp only [oPush]
  refine s_if (pc' := 14) (pc'' := 24) dck_11 rfl (by decide) rfl (fun hc11 => ?_) (fun hc11 => ?_)
  · replace hc11 := b_eq hc11
    refine s_iconst (x := (0 : Int32)) (pc' := 25) dck_24 rfl rfl ?_
    refine s_istoreN (kn := 1) rfl (pc' := 26) dck_25 rfl (o_st rfl (by first | exact One.u | exact One.val rfl | assumption) rfl) ?_
    dsimp only [List.set_cons_succ, List.set_cons_zero]
    exact ckloop G hb hvis cs.length _ 0 _ (Nat.zero_le _) rfl (T.ext E1) One.u (fun h q => ⟨rfl, by rw [q]; exact E1⟩)
  · replace hc11 := b_eqF hc11
    exact absurd (hr.elim (fun q => absurd (by rw [q.2]; rfl) (Nat.ne_of_gt hne)) (·.1)) hc11
def iri : OInfo := ("com/example/uni_mvc/unimvc/core/Result", prog_31_method_1_code, 4, none, "<init>", ({ frames := 1, cells := 0, slots := 0, locals := 12 } : Room))
theorem pdri : parseMethodDescriptor "(ILjava/lang/String;Ljava/lang/Object;)V" = some ⟨[.int, (.object "java/lang/String"), (.object "java/lang/Object")], none⟩ := by decide +kernel
theorem efri (x0 : Addr) (x1 : Int32) (x2 : Addr) (x3 : Value) (h : x3.isRef = true) (m : MethodId) : entryFrame m #[(.ref x0), (.int x1), (.ref x2), x3] 4 = mkF m 0 #[.val (.ref x0), .val (.int x1), .val (.ref x2), .val x3] [] := by
  rcases ref_cases h with rfl | ⟨a, rfl⟩ <;> first | (simp [entryFrame, mkF, argsToLocals, Value.category]; done) | rfl
theorem dri_0 : decode prog_31_method_1_code 0 = .ok (.aload_n 0, 1) := by decide +kernel
theorem dri_1 : decode prog_31_method_1_code 1 = .ok (.invokespecial 1, 3) := by decide +kernel
theorem dri_4 : decode prog_31_method_1_code 4 = .ok (.aload_n 0, 1) := by decide +kernel
theorem dri_5 : decode prog_31_method_1_code 5 = .ok (.iload_n 1, 1) := by decide +kernel
theorem dri_6 : decode prog_31_method_1_code 6 = .ok (.putfield 7, 3) := by decide +kernel
theorem dri_9 : decode prog_31_method_1_code 9 = .ok (.aload_n 0, 1) := by decide +kernel
theorem dri_10 : decode prog_31_method_1_code 10 = .ok (.aload_n 2, 1) := by decide +kernel
theorem dri_11 : decode prog_31_method_1_code 11 = .ok (.putfield 13, 3) := by decide +kernel
theorem dri_14 : decode prog_31_method_1_code 14 = .ok (.aload_n 0, 1) := by decide +kernel
theorem dri_15 : decode prog_31_method_1_code 15 = .ok (.aload_n 3, 1) := by decide +kernel
theorem dri_16 : decode prog_31_method_1_code 16 = .ok (.putfield 17, 3) := by decide +kernel
theorem dri_19 : decode prog_31_method_1_code 19 = .ok (.return_, 1) := by decide +kernel
set_option maxRecDepth 65536 in
set_option maxHeartbeats 4000000 in
theorem rmri (l : Launch) {Z : State} {a0 : Array Value} (G : OG Z a0) (n0 : Nat) (a : Addr) (n : Int32) (t : Addr) (p : Value) (hp : p.isRef = true) (h0 : Heap) (E : Exa Z h0 a "com/example/uni_mvc/unimvc/core/Result") (F0 : Fld Z h0 a "com/example/uni_mvc/unimvc/core/Result" "status" "I" (.int 0)) (F1 : Fld Z h0 a "com/example/uni_mvc/unimvc/core/Result" "location" "Ljava/lang/String;" .null) (F2 : Fld Z h0 a "com/example/uni_mvc/unimvc/core/Result" "page" "Ljava/lang/Object;" .null) (ga : n0 ≤ a) : oCon l Z n0 EL1 [a] (⟨"com/example/uni_mvc/unimvc/core/Result", "<init>", "(ILjava/lang/String;Ljava/lang/Object;)V"⟩ : MethodName) iri #[.ref a, .int n, .ref t, p] h0 (fun v h => v = none ∧ Keep h0 h [a] ∧ Exa Z h a "com/example/uni_mvc/unimvc/core/Result" ∧ Fld Z h a "com/example/uni_mvc/unimvc/core/Result" "status" "I" (.int n) ∧ Fld Z h a "com/example/uni_mvc/unimvc/core/Result" "location" "Ljava/lang/String;" (.ref t) ∧ Fld Z h a "com/example/uni_mvc/unimvc/core/Result" "page" "Ljava/lang/Object;" p) := by
  obtain ⟨hw, hEL, ⟨cmp, hC, hc0⟩, ⟨fm, hfm, hF⟩⟩ := id G
  refine oCon.mk hEL (plainFor_of_name pnR) rfl rfl (efri a n t p hp) fun C hCl => ?_
  refine s_aloadN (pc' := 1) dri_0 rfl rfl rfl ?_
  refine s_initO (hw _ (List.mem_of_getElem? (i := 99) rfl)) (hw _ (List.mem_of_getElem? (i := 17) rfl)) (hw _ (List.mem_of_getElem? (i := 18) rfl)) rfl (pc' := 4) dri_1 rfl (Nat.le_of_ble_eq_true rfl) (Nat.le_of_ble_eq_true rfl) ?_
  refine s_aloadN (pc' := 5) dri_4 rfl rfl rfl ?_
  refine s_iloadN (pc' := 6) dri_5 rfl rfl ?_
  refine s_putF F0 E ga (by simp) (host := "") (Or.inl (hw _ (List.mem_of_getElem? (i := 100) rfl))) Via.refl (Or.inr ⟨(hw _ (List.mem_of_getElem? (i := 101) rfl)), rfl, rfl⟩) (hw _ (List.mem_of_getElem? (i := 47) rfl)) (ty := .int) (by decide) rfl rfl (pc' := 9) dri_6 rfl (fun h6 W6 => ?_)
  refine s_aloadN (pc' := 10) dri_9 rfl rfl rfl ?_
  refine s_aloadN (pc' := 11) dri_10 rfl rfl rfl ?_
  refine s_putF (F1.other W6 (Or.inr (slot_ne (Or.inr (hw _ (List.mem_of_getElem? (i := 103) rfl))) (Or.inr (hw _ (List.mem_of_getElem? (i := 101) rfl))) (by decide) (t := (.object "java/lang/String")) (t' := .int) (by decide) (by decide)))) (E.wr W6) ga (by simp) (host := "") (Or.inl (hw _ (List.mem_of_getElem? (i := 102) rfl))) Via.refl (Or.inr ⟨(hw _ (List.mem_of_getElem? (i := 103) rfl)), rfl, rfl⟩) (hw _ (List.mem_of_getElem? (i := 47) rfl)) (ty := (.object "java/lang/String")) (by decide) rfl rfl (pc' := 14) dri_11 rfl (fun h11 W11 => ?_)
  refine s_aloadN (pc' := 15) dri_14 rfl rfl rfl ?_
  refine s_aloadN (pc' := 16) dri_15 rfl rfl hp ?_
  refine s_putF ((F2.other W6 (Or.inr (slot_ne (Or.inr (hw _ (List.mem_of_getElem? (i := 105) rfl))) (Or.inr (hw _ (List.mem_of_getElem? (i := 101) rfl))) (by decide) (t := (.object "java/lang/Object")) (t' := .int) (by decide) (by decide)))).other W11 (Or.inr (slot_ne (Or.inr (hw _ (List.mem_of_getElem? (i := 105) rfl))) (Or.inr (hw _ (List.mem_of_getElem? (i := 103) rfl))) (by decide) (t := (.object "java/lang/Object")) (t' := (.object "java/lang/String")) (by decide) (by decide)))) ((E.wr W6).wr W11) ga (by simp) (host := "") (Or.inl (hw _ (List.mem_of_getElem? (i := 104) rfl))) Via.refl (Or.inr ⟨(hw _ (List.mem_of_getElem? (i := 105) rfl)), rfl, rfl⟩) (hw _ (List.mem_of_getElem? (i := 47) rfl)) (ty := (.object "java/lang/Object")) (by decide) (by rcases ref_cases hp with rfl | ⟨_, rfl⟩ <;> rfl) (by rcases ref_cases hp with rfl | ⟨_, rfl⟩ <;> rfl) (pc' := 19) dri_16 rfl (fun h16 W16 => ?_)
  exact s_ret rfl dri_19 (by decide) (by decide) ⟨rfl, ((Keep.of_wr W6).wr W11 (Or.inl (List.mem_cons_self ..))).wr W16 (Or.inl (List.mem_cons_self ..)), ((E.wr W6).wr W11).wr W16, (((F0.same W6).other W11 (Or.inr (slot_ne (Or.inr (hw _ (List.mem_of_getElem? (i := 101) rfl))) (Or.inr (hw _ (List.mem_of_getElem? (i := 103) rfl))) (by decide) (t := .int) (t' := (.object "java/lang/String")) (by decide) (by decide)))).other W16 (Or.inr (slot_ne (Or.inr (hw _ (List.mem_of_getElem? (i := 101) rfl))) (Or.inr (hw _ (List.mem_of_getElem? (i := 105) rfl))) (by decide) (t := .int) (t' := (.object "java/lang/Object")) (by decide) (by decide)))), (((F1.other W6 (Or.inr (slot_ne (Or.inr (hw _ (List.mem_of_getElem? (i := 103) rfl))) (Or.inr (hw _ (List.mem_of_getElem? (i := 101) rfl))) (by decide) (t := (.object "java/lang/String")) (t' := .int) (by decide) (by decide)))).same W11).other W16 (Or.inr (slot_ne (Or.inr (hw _ (List.mem_of_getElem? (i := 103) rfl))) (Or.inr (hw _ (List.mem_of_getElem? (i := 105) rfl))) (by decide) (t := (.object "java/lang/String")) (t' := (.object "java/lang/Object")) (by decide) (by decide)))), (((F2.other W6 (Or.inr (slot_ne (Or.inr (hw _ (List.mem_of_getElem? (i := 105) rfl))) (Or.inr (hw _ (List.mem_of_getElem? (i := 101) rfl))) (by decide) (t := (.object "java/lang/Object")) (t' := .int) (by decide) (by decide)))).other W11 (Or.inr (slot_ne (Or.inr (hw _ (List.mem_of_getElem? (i := 105) rfl))) (Or.inr (hw _ (List.mem_of_getElem? (i := 103) rfl))) (by decide) (t := (.object "java/lang/Object")) (t' := (.object "java/lang/String")) (by decide) (by decide)))).same W16)⟩
def RV (Z : State) (h : Heap) (r : Addr) (n : Int32) (t : Addr) (p : Value) : Prop := Exa Z h r "com/example/uni_mvc/unimvc/core/Result" ∧ Fld Z h r "com/example/uni_mvc/unimvc/core/Result" "status" "I" (.int n) ∧ Fld Z h r "com/example/uni_mvc/unimvc/core/Result" "location" "Ljava/lang/String;" (.ref t) ∧ Fld Z h r "com/example/uni_mvc/unimvc/core/Result" "page" "Ljava/lang/Object;" p
theorem RV.ext {Z : State} {h h' : Heap} {r : Addr} {n : Int32} {t : Addr} {p : Value} (F : RV Z h r n t p) (E : Ext h h') : RV Z h' r n t p := ⟨F.1.ext E, F.2.1.ext E, F.2.2.1.ext E, F.2.2.2.ext E⟩
def irs : OInfo := ("com/example/uni_mvc/unimvc/core/Result", prog_31_method_7_code, 1, (some .int), "status", ({ frames := 0, cells := 0, slots := 0, locals := 0 } : Room))
theorem efrs (x0 : Addr) (m : MethodId) : entryFrame m #[(.ref x0)] 1 = mkF m 0 #[.val (.ref x0)] [] := by first | (simp [entryFrame, mkF, argsToLocals, Value.category]; done) | rfl
theorem pdrs : parseMethodDescriptor "()I" = some ⟨[], some .int⟩ := by decide +kernel
theorem drs_0 : decode prog_31_method_7_code 0 = .ok (.aload_n 0, 1) := by decide +kernel
theorem drs_1 : decode prog_31_method_7_code 1 = .ok (.getfield 7, 3) := by decide +kernel
theorem drs_4 : decode prog_31_method_7_code 4 = .ok (.ireturn, 1) := by decide +kernel
set_option maxRecDepth 65536 in
set_option maxHeartbeats 4000000 in
theorem rmrs (l : Launch) {Z : State} {a0 : Array Value} (G : OG Z a0) (n0 : Nat) (a : Addr) (n : Int32) (h0 : Heap) (F : Fld Z h0 a "com/example/uni_mvc/unimvc/core/Result" "status" "I" (.int n)) : oCon l Z n0 EL1 [] (⟨"com/example/uni_mvc/unimvc/core/Result", "status", "()I"⟩ : MethodName) irs #[.ref a] h0 (fun v h => v = some (.int n) ∧ h = h0) := by
  obtain ⟨hw, hEL, ⟨cmp, hC, hc0⟩, ⟨fm, hfm, hF⟩⟩ := id G
  refine oCon.mk hEL (plainFor_of_name pnR) rfl rfl (efrs a) fun C hCl => ?_
  refine s_aloadN (pc' := 1) drs_0 rfl rfl rfl ?_
  refine s_getF F (host := "") (Or.inl (hw _ (List.mem_of_getElem? (i := 100) rfl))) Via.refl (pc' := 4) drs_1 rfl ?_
  exact s_iret rfl drs_4 (by decide) (by decide) ⟨rfl, rfl⟩
def ioi : OInfo := ("java/util/Optional", jdk_32_method_2_code, 2, none, "<init>", ({ frames := 1, cells := 0, slots := 0, locals := 12 } : Room))
theorem efoi (x0 : Addr) (x1 : Addr) (m : MethodId) : entryFrame m #[(.ref x0), (.ref x1)] 2 = mkF m 0 #[.val (.ref x0), .val (.ref x1)] [] := by first | (simp [entryFrame, mkF, argsToLocals, Value.category]; done) | rfl
theorem pdoi : parseMethodDescriptor "(Ljava/lang/Object;)V" = some ⟨[(.object "java/lang/Object")], none⟩ := by decide +kernel
theorem doi_0 : decode jdk_32_method_2_code 0 = .ok (.aload_n 0, 1) := by decide +kernel
theorem doi_1 : decode jdk_32_method_2_code 1 = .ok (.invokespecial 7, 3) := by decide +kernel
theorem doi_4 : decode jdk_32_method_2_code 4 = .ok (.aload_n 0, 1) := by decide +kernel
theorem doi_5 : decode jdk_32_method_2_code 5 = .ok (.aload_n 1, 1) := by decide +kernel
theorem doi_6 : decode jdk_32_method_2_code 6 = .ok (.putfield 13, 3) := by decide +kernel
theorem doi_9 : decode jdk_32_method_2_code 9 = .ok (.return_, 1) := by decide +kernel
set_option maxRecDepth 65536 in
set_option maxHeartbeats 4000000 in
theorem rmoi (l : Launch) {Z : State} {a0 : Array Value} (G : OG Z a0) (n0 : Nat) (a t : Addr) (h0 : Heap) (E : Exa Z h0 a "java/util/Optional") (F0 : Fld Z h0 a "java/util/Optional" "value" "Ljava/lang/Object;" .null) (ga : n0 ≤ a) : oCon l Z n0 EL1 [a] (⟨"java/util/Optional", "<init>", "(Ljava/lang/Object;)V"⟩ : MethodName) ioi #[.ref a, .ref t] h0 (fun v h => v = none ∧ Keep h0 h [a] ∧ Exa Z h a "java/util/Optional" ∧ Fld Z h a "java/util/Optional" "value" "Ljava/lang/Object;" (.ref t)) := by
  obtain ⟨hw, hEL, ⟨cmp, hC, hc0⟩, ⟨fm, hfm, hF⟩⟩ := id G
  refine oCon.mk hEL (plainFor_of_name pnO) rfl rfl (efoi a t) fun C hCl => ?_
  refine s_aloadN (pc' := 1) doi_0 rfl rfl rfl ?_
  refine s_initO (hw _ (List.mem_of_getElem? (i := 126) rfl)) (hw _ (List.mem_of_getElem? (i := 17) rfl)) (hw _ (List.mem_of_getElem? (i := 18) rfl)) rfl (pc' := 4) doi_1 rfl (Nat.le_of_ble_eq_true rfl) (Nat.le_of_ble_eq_true rfl) ?_
  refine s_aloadN (pc' := 5) doi_4 rfl rfl rfl ?_
  refine s_aloadN (pc' := 6) doi_5 rfl rfl rfl ?_
  refine s_putF F0 E ga (by simp) (host := "") (Or.inl (hw _ (List.mem_of_getElem? (i := 127) rfl))) Via.refl (Or.inr ⟨(hw _ (List.mem_of_getElem? (i := 128) rfl)), rfl, rfl⟩) (hw _ (List.mem_of_getElem? (i := 121) rfl)) (ty := (.object "java/lang/Object")) (by decide) rfl rfl (pc' := 9) doi_6 rfl (fun h6 W6 => ?_)
  exact s_ret rfl doi_9 (by decide) (by decide) ⟨rfl, Keep.of_wr W6, E.wr W6, F0.same W6⟩
def ion : OInfo := ("java/util/Optional", jdk_32_method_4_code, 1, (some (.object "java/util/Optional")), "ofNullable", ({ frames := 2, cells := 1, slots := 1, locals := 27 } : Room))
theorem efon (x0 : Addr) (m : MethodId) : entryFrame m #[(.ref x0)] 1 = mkF m 0 #[.val (.ref x0)] [] := by first | (simp [entryFrame, mkF, argsToLocals, Value.category]; done) | rfl
theorem pdon : parseMethodDescriptor "(Ljava/lang/Object;)Ljava/util/Optional;" = some ⟨[(.object "java/lang/Object")], some (.object "java/util/Optional")⟩ := by decide +kernel
theorem don_0 : decode jdk_32_method_4_code 0 = .ok (.aload_n 0, 1) := by decide +kernel
theorem don_1 : decode jdk_32_method_4_code 1 = .ok (.ifnonnull 9, 3) := by decide +kernel
theorem don_10 : decode jdk_32_method_4_code 10 = .ok (.new 2, 3) := by decide +kernel
theorem don_13 : decode jdk_32_method_4_code 13 = .ok (.dup, 1) := by decide +kernel
theorem don_14 : decode jdk_32_method_4_code 14 = .ok (.aload_n 0, 1) := by decide +kernel
theorem don_15 : decode jdk_32_method_4_code 15 = .ok (.invokespecial 23, 3) := by decide +kernel
theorem don_18 : decode jdk_32_method_4_code 18 = .ok (.areturn, 1) := by decide +kernel
set_option maxRecDepth 65536 in
set_option maxHeartbeats 4000000 in
theorem rmon (l : Launch) {Z : State} {a0 : Array Value} (G : OG Z a0) (n0 : Nat) (t : Addr) (h0 : Heap) : oCon l Z n0 EL1 [] (⟨"java/util/Optional", "ofNullable", "(Ljava/lang/Object;)Ljava/util/Optional;"⟩ : MethodName) ion #[.ref t] h0 (fun v h => ∃ o, v = some (.ref o) ∧ h0.size ≤ o ∧ Ext h0 h ∧ Exa Z h o "java/util/Optional" ∧ Fld Z h o "java/util/Optional" "value" "Ljava/lang/Object;" (.ref t)) := by
  obtain ⟨hw, hEL, ⟨cmp, hC, hc0⟩, ⟨fm, hfm, hF⟩⟩ := id G
  refine oCon.mk hEL (plainFor_of_name pnO) rfl rfl (efon t) fun C hCl => ?_
  refine s_aloadN (pc' := 1) don_0 rfl rfl rfl ?_
  refine s_nnY (pc' := 10) don_1 (by decide) rfl ?_
  refine s_new (hw _ (List.mem_of_getElem? (i := 120) rfl)) (hw _ (List.mem_of_getElem? (i := 121) rfl)) (hw _ (List.mem_of_getElem? (i := 118) rfl)) (pc' := 13) don_10 rfl (Nat.le_of_ble_eq_true rfl) (Nat.le_of_ble_eq_true rfl) (fun h10 b10 g10 nb10 E10 A10 D10 => ?_)
  refine s_dup (pc' := 14) don_13 rfl rfl ?_
  refine s_aloadN (pc' := 15) don_14 rfl rfl rfl ?_
  refine s_callI1 (rmoi C.l G n0 b10 t _ A10 (D10 (Or.inr (hw _ (List.mem_of_getElem? (i := 128) rfl))) (ty := (.object "java/lang/Object")) (by decide)) nb10) (by simp) rfl rfl (hw _ (List.mem_of_getElem? (i := 122) rfl)) (hw _ (List.mem_of_getElem? (i := 123) rfl)) (hw _ (List.mem_of_getElem? (i := 118) rfl)) (hw _ (List.mem_of_getElem? (i := 125) rfl)) (by decide) (o_len pdoi rfl) rfl (pc' := 18) don_15 rfl (Nat.le_of_ble_eq_true rfl) (Nat.le_of_ble_eq_true rfl) (Nat.le_of_ble_eq_true rfl) (Nat.le_of_ble_eq_true rfl) (fun v15 h15 hQ15 => ?_)
  obtain ⟨rfl, K15, X15, F15⟩ := hQ15
  dsimp only [oPush]
  exact s_aret rfl rfl rfl don_18 (Nat.le_of_ble_eq_true rfl) (Nat.le_of_ble_eq_true rfl) ⟨b10, rfl, Nat.le_of_eq g10.symm, o_extKeep E10 K15 (allS (Nat.le_of_eq g10.symm) all0), X15, F15⟩
def iso : OInfo := ("com/example/uni_mvc/unimvc/core/Result", prog_31_method_3_code, 2, (some (.object "com/example/uni_mvc/unimvc/core/Result")), "created", ({ frames := 5, cells := 5, slots := 59, locals := 71 } : Room))
theorem efso (x0 : Addr) (x1 : Addr) (m : MethodId) : entryFrame m #[(.ref x0), (.ref x1)] 2 = mkF m 0 #[.val (.ref x0), .val (.ref x1)] [] := by first | (simp [entryFrame, mkF, argsToLocals, Value.category]; done) | rfl
theorem pdso : parseMethodDescriptor "(Ljava/lang/String;Ljava/lang/Object;)Lcom/example/uni_mvc/unimvc/core/Result;" = some ⟨[(.object "java/lang/String"), (.object "java/lang/Object")], some (.object "com/example/uni_mvc/unimvc/core/Result")⟩ := by decide +kernel
theorem dso_0 : decode prog_31_method_3_code 0 = .ok (.new 8, 3) := by decide +kernel
theorem dso_3 : decode prog_31_method_3_code 3 = .ok (.dup, 1) := by decide +kernel
theorem dso_4 : decode prog_31_method_3_code 4 = .ok (.sipush 201, 3) := by decide +kernel
theorem dso_7 : decode prog_31_method_3_code 7 = .ok (.aload_n 0, 1) := by decide +kernel
theorem dso_8 : decode prog_31_method_3_code 8 = .ok (.invokestatic 21, 3) := by decide +kernel
theorem dso_11 : decode prog_31_method_3_code 11 = .ok (.aload_n 1, 1) := by decide +kernel
theorem dso_12 : decode prog_31_method_3_code 12 = .ok (.ldc 28, 2) := by decide +kernel
theorem dso_14 : decode prog_31_method_3_code 14 = .ok (.invokestatic 29, 3) := by decide +kernel
theorem dso_17 : decode prog_31_method_3_code 17 = .ok (.invokespecial 25, 3) := by decide +kernel
theorem dso_20 : decode prog_31_method_3_code 20 = .ok (.areturn, 1) := by decide +kernel
set_option maxRecDepth 65536 in
set_option maxHeartbeats 4000000 in
theorem rmso (l : Launch) {Z : State} {a0 : Array Value} (G : OG Z a0) (n0 : Nat) (s pg : Addr) (N : Nat) (cs : List Int32) (h0 : Heap) (hb : cs.length < 2147483648) (hne : 0 < cs.length) (hvis : Vis cs) (T : SV Z h0 N s cs) : oCon l Z n0 EL1 [] (⟨"com/example/uni_mvc/unimvc/core/Result", "created", "(Ljava/lang/String;Ljava/lang/Object;)Lcom/example/uni_mvc/unimvc/core/Result;"⟩ : MethodName) iso #[.ref s, .ref pg] h0 (fun v h => ∃ r, v = some (.ref r) ∧ h0.size ≤ r ∧ Ext h0 h ∧ RV Z h r 201 s (.ref pg)) := by
  obtain ⟨hw, hEL, ⟨cmp, hC, hc0⟩, ⟨fm, hfm, hF⟩⟩ := id G
  refine oCon.mk hEL (plainFor_of_name pnR) rfl rfl (efso s pg) fun C hCl => ?_
  refine s_new (hw _ (List.mem_of_getElem? (i := 46) rfl)) (hw _ (List.mem_of_getElem? (i := 47) rfl)) (hw _ (List.mem_of_getElem? (i := 44) rfl)) (pc' := 3) dso_0 rfl (Nat.le_of_ble_eq_true rfl) (Nat.le_of_ble_eq_true rfl) (fun h0 b0 g0 nb0 E0 A0 D0 => ?_)
  refine s_dup (pc' := 4) dso_3 rfl rfl ?_
  refine s_sipush (x := (201 : Int32)) (pc' := 7) dso_4 rfl rfl ?_
  refine s_aloadN (pc' := 8) dso_7 rfl rfl rfl ?_
  refine s_callS1 (rmck C.l G n0 s N cs _ hb hne hvis (T.ext E0)) (by simp) (hw _ (List.mem_of_getElem? (i := 48) rfl)) (hw _ (List.mem_of_getElem? (i := 49) rfl)) (hw _ (List.mem_of_getElem? (i := 44) rfl)) (hw _ (List.mem_of_getElem? (i := 50) rfl)) (by decide) (o_len pdck rfl) rfl (pc' := 11) dso_8 rfl (Nat.le_of_ble_eq_true rfl) (Nat.le_of_ble_eq_true rfl) (Nat.le_of_ble_eq_true rfl) (Nat.le_of_ble_eq_true rfl) (fun v8 h8 hQ8 => ?_)
  obtain ⟨rfl, E8⟩ := hQ8
  dsimp only [oPush]
  refine s_aloadN (pc' := 12) dso_11 rfl rfl rfl ?_
  refine s_ldcO 16 (text := "page") (hw _ (List.mem_of_getElem? (i := 95) rfl)) (o_wS hw) hEL (pc' := 14) dso_12 rfl (by decide) (by decide) (Nat.le_of_ble_eq_true rfl) (Nat.le_of_ble_eq_true rfl) (fun h2 a2 E2 => ?_)
  refine s_callS2 (rmrn C.l G n0 pg a2 _) (by simp) (hw _ (List.mem_of_getElem? (i := 54) rfl)) (hw _ (List.mem_of_getElem? (i := 55) rfl)) (hw _ (List.mem_of_getElem? (i := 56) rfl)) (hw _ (List.mem_of_getElem? (i := 57) rfl)) (by decide) (o_len pdrn rfl) rfl (pc' := 17) dso_14 rfl (Nat.le_of_ble_eq_true rfl) (Nat.le_of_ble_eq_true rfl) (Nat.le_of_ble_eq_true rfl) (Nat.le_of_ble_eq_true rfl) (fun v14 h14 hQ14 => ?_)
  obtain ⟨rfl, rfl⟩ := hQ14
  dsimp only [oPush]
  refine s_callI3 (rmri C.l G n0 b0 201 s (.ref pg) rfl _ (A0.ext (o_ext E8 E2)) ((D0 (Or.inr (hw _ (List.mem_of_getElem? (i := 101) rfl))) (ty := .int) (by decide)).ext (o_ext E8 E2)) ((D0 (Or.inr (hw _ (List.mem_of_getElem? (i := 103) rfl))) (ty := (.object "java/lang/String")) (by decide)).ext (o_ext E8 E2)) ((D0 (Or.inr (hw _ (List.mem_of_getElem? (i := 105) rfl))) (ty := (.object "java/lang/Object")) (by decide)).ext (o_ext E8 E2)) nb0) (by simp) rfl rfl (hw _ (List.mem_of_getElem? (i := 96) rfl)) (hw _ (List.mem_of_getElem? (i := 97) rfl)) (hw _ (List.mem_of_getElem? (i := 44) rfl)) (hw _ (List.mem_of_getElem? (i := 98) rfl)) (by decide) (o_len pdri rfl) rfl (pc' := 20) dso_17 rfl (Nat.le_of_ble_eq_true rfl) (Nat.le_of_ble_eq_true rfl) (Nat.le_of_ble_eq_true rfl) (Nat.le_of_ble_eq_true rfl) (fun v17 h17 hQ17 => ?_)
  obtain ⟨rfl, K17, R1, R2, R3, R4⟩ := hQ17
  dsimp only [oPush]
  exact s_aret rfl rfl rfl dso_20 (Nat.le_of_ble_eq_true rfl) (Nat.le_of_ble_eq_true rfl) ⟨b0, rfl, Nat.le_of_eq g0.symm, o_extKeep (o_ext E0 (o_ext E8 E2)) K17 (allS (Nat.le_of_eq g0.symm) all0), R1, R2, R3, R4⟩
def igl : OInfo := ("com/example/uni_mvc/unimvc/core/Result", prog_31_method_8_code, 1, (some (.object "java/util/Optional")), "location", ({ frames := 3, cells := 1, slots := 1, locals := 39 } : Room))
theorem efgl (x0 : Addr) (m : MethodId) : entryFrame m #[(.ref x0)] 1 = mkF m 0 #[.val (.ref x0)] [] := by first | (simp [entryFrame, mkF, argsToLocals, Value.category]; done) | rfl
theorem pdgl : parseMethodDescriptor "()Ljava/util/Optional;" = some ⟨[], some (.object "java/util/Optional")⟩ := by decide +kernel
theorem dgl_0 : decode prog_31_method_8_code 0 = .ok (.aload_n 0, 1) := by decide +kernel
theorem dgl_1 : decode prog_31_method_8_code 1 = .ok (.getfield 13, 3) := by decide +kernel
theorem dgl_4 : decode prog_31_method_8_code 4 = .ok (.invokestatic 65, 3) := by decide +kernel
theorem dgl_7 : decode prog_31_method_8_code 7 = .ok (.areturn, 1) := by decide +kernel
set_option maxRecDepth 65536 in
set_option maxHeartbeats 4000000 in
theorem rmgl (l : Launch) {Z : State} {a0 : Array Value} (G : OG Z a0) (n0 : Nat) (a t : Addr) (h0 : Heap) (F : Fld Z h0 a "com/example/uni_mvc/unimvc/core/Result" "location" "Ljava/lang/String;" (.ref t)) : oCon l Z n0 EL1 [] (⟨"com/example/uni_mvc/unimvc/core/Result", "location", "()Ljava/util/Optional;"⟩ : MethodName) igl #[.ref a] h0 (fun v h => ∃ o, v = some (.ref o) ∧ h0.size ≤ o ∧ Ext h0 h ∧ Exa Z h o "java/util/Optional" ∧ Fld Z h o "java/util/Optional" "value" "Ljava/lang/Object;" (.ref t)) := by
  obtain ⟨hw, hEL, ⟨cmp, hC, hc0⟩, ⟨fm, hfm, hF⟩⟩ := id G
  refine oCon.mk hEL (plainFor_of_name pnR) rfl rfl (efgl a) fun C hCl => ?_
  refine s_aloadN (pc' := 1) dgl_0 rfl rfl rfl ?_
  refine s_getF F (host := "") (Or.inl (hw _ (List.mem_of_getElem? (i := 102) rfl))) Via.refl (pc' := 4) dgl_1 rfl ?_
  refine s_callS1 (rmon C.l G n0 t h0) (by simp) (hw _ (List.mem_of_getElem? (i := 116) rfl)) (hw _ (List.mem_of_getElem? (i := 117) rfl)) (hw _ (List.mem_of_getElem? (i := 118) rfl)) (hw _ (List.mem_of_getElem? (i := 119) rfl)) (by decide) (o_len pdon rfl) rfl (pc' := 7) dgl_4 rfl (Nat.le_of_ble_eq_true rfl) (Nat.le_of_ble_eq_true rfl) (Nat.le_of_ble_eq_true rfl) (Nat.le_of_ble_eq_true rfl) (fun v4 h4 hQ4 => ?_)
  obtain ⟨o, rfl, go, E4, X4, F4⟩ := hQ4
  dsimp only [oPush]
  exact s_aret rfl rfl rfl dgl_7 (Nat.le_of_ble_eq_true rfl) (Nat.le_of_ble_eq_true rfl) ⟨o, rfl, go, E4, X4, F4⟩
def igp : OInfo := ("com/example/uni_mvc/unimvc/core/Result", prog_31_method_9_code, 1, (some (.object "java/util/Optional")), "page", ({ frames := 3, cells := 1, slots := 1, locals := 39 } : Room))
theorem efgp (x0 : Addr) (m : MethodId) : entryFrame m #[(.ref x0)] 1 = mkF m 0 #[.val (.ref x0)] [] := by first | (simp [entryFrame, mkF, argsToLocals, Value.category]; done) | rfl
theorem pdgp : parseMethodDescriptor "()Ljava/util/Optional;" = some ⟨[], some (.object "java/util/Optional")⟩ := by decide +kernel
theorem dgp_0 : decode prog_31_method_9_code 0 = .ok (.aload_n 0, 1) := by decide +kernel
theorem dgp_1 : decode prog_31_method_9_code 1 = .ok (.getfield 17, 3) := by decide +kernel
theorem dgp_4 : decode prog_31_method_9_code 4 = .ok (.invokestatic 65, 3) := by decide +kernel
theorem dgp_7 : decode prog_31_method_9_code 7 = .ok (.areturn, 1) := by decide +kernel
set_option maxRecDepth 65536 in
set_option maxHeartbeats 4000000 in
theorem rmgp (l : Launch) {Z : State} {a0 : Array Value} (G : OG Z a0) (n0 : Nat) (a t : Addr) (h0 : Heap) (F : Fld Z h0 a "com/example/uni_mvc/unimvc/core/Result" "page" "Ljava/lang/Object;" (.ref t)) : oCon l Z n0 EL1 [] (⟨"com/example/uni_mvc/unimvc/core/Result", "page", "()Ljava/util/Optional;"⟩ : MethodName) igp #[.ref a] h0 (fun v h => ∃ o, v = some (.ref o) ∧ h0.size ≤ o ∧ Ext h0 h ∧ Exa Z h o "java/util/Optional" ∧ Fld Z h o "java/util/Optional" "value" "Ljava/lang/Object;" (.ref t)) := by
  obtain ⟨hw, hEL, ⟨cmp, hC, hc0⟩, ⟨fm, hfm, hF⟩⟩ := id G
  refine oCon.mk hEL (plainFor_of_name pnR) rfl rfl (efgp a) fun C hCl => ?_
  refine s_aloadN (pc' := 1) dgp_0 rfl rfl rfl ?_
  refine s_getF F (host := "") (Or.inl (hw _ (List.mem_of_getElem? (i := 104) rfl))) Via.refl (pc' := 4) dgp_1 rfl ?_
  refine s_callS1 (rmon C.l G n0 t h0) (by simp) (hw _ (List.mem_of_getElem? (i := 116) rfl)) (hw _ (List.mem_of_getElem? (i := 117) rfl)) (hw _ (List.mem_of_getElem? (i := 118) rfl)) (hw _ (List.mem_of_getElem? (i := 119) rfl)) (by decide) (o_len pdon rfl) rfl (pc' := 7) dgp_4 rfl (Nat.le_of_ble_eq_true rfl) (Nat.le_of_ble_eq_true rfl) (Nat.le_of_ble_eq_true rfl) (Nat.le_of_ble_eq_true rfl) (fun v4 h4 hQ4 => ?_)
  obtain ⟨o, rfl, go, E4, X4, F4⟩ := hQ4
  dsimp only [oPush]
  exact s_aret rfl rfl rfl dgp_7 (Nat.le_of_ble_eq_true rfl) (Nat.le_of_ble_eq_true rfl) ⟨o, rfl, go, E4, X4, F4⟩
def ioP : OInfo := ("java/util/Optional", jdk_32_method_6_code, 1, (some .boolean), "isPresent", ({ frames := 0, cells := 0, slots := 0, locals := 0 } : Room))
theorem efoP (x0 : Addr) (m : MethodId) : entryFrame m #[(.ref x0)] 1 = mkF m 0 #[.val (.ref x0)] [] := by first | (simp [entryFrame, mkF, argsToLocals, Value.category]; done) | rfl
theorem pdoP : parseMethodDescriptor "()Z" = some ⟨[], some .boolean⟩ := by decide +kernel
theorem doP_0 : decode jdk_32_method_6_code 0 = .ok (.aload_n 0, 1) := by decide +kernel
theorem doP_1 : decode jdk_32_method_6_code 1 = .ok (.getfield 13, 3) := by decide +kernel
theorem doP_4 : decode jdk_32_method_6_code 4 = .ok (.ifnull 7, 3) := by decide +kernel
theorem doP_7 : decode jdk_32_method_6_code 7 = .ok (.iconst 1, 1) := by decide +kernel
theorem doP_8 : decode jdk_32_method_6_code 8 = .ok (.goto 4, 3) := by decide +kernel
theorem doP_12 : decode jdk_32_method_6_code 12 = .ok (.ireturn, 1) := by decide +kernel
set_option maxRecDepth 65536 in
set_option maxHeartbeats 4000000 in
theorem rmoP (l : Launch) {Z : State} {a0 : Array Value} (G : OG Z a0) (n0 : Nat) (a t : Addr) (h0 : Heap) (F : Fld Z h0 a "java/util/Optional" "value" "Ljava/lang/Object;" (.ref t)) : oCon l Z n0 EL1 [] (⟨"java/util/Optional", "isPresent", "()Z"⟩ : MethodName) ioP #[.ref a] h0 (fun v h => v = some (.int 1) ∧ h = h0) := by
  obtain ⟨hw, hEL, ⟨cmp, hC, hc0⟩, ⟨fm, hfm, hF⟩⟩ := id G
  refine oCon.mk hEL (plainFor_of_name pnO) rfl rfl (efoP a) fun C hCl => ?_
  refine s_aloadN (pc' := 1) doP_0 rfl rfl rfl ?_
  refine s_getF F (host := "") (Or.inl (hw _ (List.mem_of_getElem? (i := 127) rfl))) Via.refl (pc' := 4) doP_1 rfl ?_
  refine s_nuN (pc' := 7) doP_4 rfl ?_
  refine s_iconst (x := (1 : Int32)) (pc' := 8) doP_7 rfl rfl ?_
  refine s_goto (pc' := 12) doP_8 (by decide) rfl ?_
  exact s_nret (t := .boolean) rfl (by simp) doP_12 (by decide) (by decide) ⟨rfl, rfl⟩
def ioG : OInfo := ("java/util/Optional", jdk_32_method_5_code, 1, (some (.object "java/lang/Object")), "get", ({ frames := 0, cells := 0, slots := 0, locals := 0 } : Room))
theorem efoG (x0 : Addr) (m : MethodId) : entryFrame m #[(.ref x0)] 1 = mkF m 0 #[.val (.ref x0)] [] := by first | (simp [entryFrame, mkF, argsToLocals, Value.category]; done) | rfl
theorem pdoG : parseMethodDescriptor "()Ljava/lang/Object;" = some ⟨[], some (.object "java/lang/Object")⟩ := by decide +kernel
theorem doG_0 : decode jdk_32_method_5_code 0 = .ok (.aload_n 0, 1) := by decide +kernel
theorem doG_1 : decode jdk_32_method_5_code 1 = .ok (.getfield 13, 3) := by decide +kernel
theorem doG_4 : decode jdk_32_method_5_code 4 = .ok (.ifnonnull 13, 3) := by decide +kernel
theorem doG_17 : decode jdk_32_method_5_code 17 = .ok (.aload_n 0, 1) := by decide +kernel
theorem doG_18 : decode jdk_32_method_5_code 18 = .ok (.getfield 13, 3) := by decide +kernel
theorem doG_21 : decode jdk_32_method_5_code 21 = .ok (.areturn, 1) := by decide +kernel
set_option maxRecDepth 65536 in
set_option maxHeartbeats 4000000 in
theorem rmoG (l : Launch) {Z : State} {a0 : Array Value} (G : OG Z a0) (n0 : Nat) (a t : Addr) (h0 : Heap) (F : Fld Z h0 a "java/util/Optional" "value" "Ljava/lang/Object;" (.ref t)) : oCon l Z n0 EL1 [] (⟨"java/util/Optional", "get", "()Ljava/lang/Object;"⟩ : MethodName) ioG #[.ref a] h0 (fun v h => v = some (.ref t) ∧ h = h0) := by
  obtain ⟨hw, hEL, ⟨cmp, hC, hc0⟩, ⟨fm, hfm, hF⟩⟩ := id G
  refine oCon.mk hEL (plainFor_of_name pnO) rfl rfl (efoG a) fun C hCl => ?_
  refine s_aloadN (pc' := 1) doG_0 rfl rfl rfl ?_
  refine s_getF F (host := "") (Or.inl (hw _ (List.mem_of_getElem? (i := 127) rfl))) Via.refl (pc' := 4) doG_1 rfl ?_
  refine s_nnY (pc' := 17) doG_4 (by decide) rfl ?_
  refine s_aloadN (pc' := 18) doG_17 rfl rfl rfl ?_
  refine s_getF F (host := "") (Or.inl (hw _ (List.mem_of_getElem? (i := 127) rfl))) Via.refl (pc' := 21) doG_18 rfl ?_
  exact s_aret rfl rfl rfl doG_21 (by decide) (by decide) ⟨rfl, rfl⟩
def idc : OInfo := ("com/example/uni_mvc/unimvc/core/ResultCreatedPinLaw", method_2_code, 1, (some .char), "ch", ({ frames := 0, cells := 0, slots := 0, locals := 0 } : Room))
theorem efdc (x0 : Int32) (m : MethodId) : entryFrame m #[(.int x0)] 1 = mkF m 0 #[.val (.int x0)] [] := by first | (simp [entryFrame, mkF, argsToLocals, Value.category]; done) | rfl
theorem pddc : parseMethodDescriptor "(I)C" = some ⟨[.int], some .char⟩ := by decide +kernel
theorem ddc_0 : decode method_2_code 0 = .ok (.bipush 33, 2) := by decide +kernel
theorem ddc_2 : decode method_2_code 2 = .ok (.iload_n 0, 1) := by decide +kernel
theorem ddc_3 : decode method_2_code 3 = .ok (.ldc 7, 2) := by decide +kernel
theorem ddc_5 : decode method_2_code 5 = .ok (.iand, 1) := by decide +kernel
theorem ddc_6 : decode method_2_code 6 = .ok (.bipush 94, 2) := by decide +kernel
theorem ddc_8 : decode method_2_code 8 = .ok (.irem, 1) := by decide +kernel
theorem ddc_9 : decode method_2_code 9 = .ok (.iadd, 1) := by decide +kernel
theorem ddc_10 : decode method_2_code 10 = .ok (.i2c, 1) := by decide +kernel
theorem ddc_11 : decode method_2_code 11 = .ok (.ireturn, 1) := by decide +kernel
set_option maxRecDepth 65536 in
set_option maxHeartbeats 4000000 in
theorem rmdc (l : Launch) {Z : State} {a0 : Array Value} (G : OG Z a0) (n0 : Nat) (x : Int32) (h0 : Heap) : oCon l Z n0 EL1 [] (⟨"com/example/uni_mvc/unimvc/core/ResultCreatedPinLaw", "ch", "(I)C"⟩ : MethodName) idc #[.int x] h0 (fun v h => v = some (.int (dv x)) ∧ h = h0) := by
  obtain ⟨hw, hEL, ⟨cmp, hC, hc0⟩, ⟨fm, hfm, hF⟩⟩ := id G
  refine oCon.mk hEL (plainFor_of_name pn0) rfl rfl (efdc x) fun C hCl => ?_
  refine s_bipush (x := (33 : Int32)) (pc' := 2) ddc_0 rfl rfl ?_
  refine s_iloadN (pc' := 3) ddc_2 rfl rfl ?_
  refine s_ldcI (x := (2147483647 : Int32)) (hw _ (List.mem_of_getElem? (i := 4) rfl)) (pc' := 5) ddc_3 rfl ?_
  refine s_iand (pc' := 6) ddc_5 rfl ?_
  refine s_bipush (x := (94 : Int32)) (pc' := 8) ddc_6 rfl rfl ?_
  refine s_irem (pc' := 9) ddc_8 rfl (by decide) ?_
  refine s_iadd (pc' := 10) ddc_9 rfl ?_
  refine s_i2c (pc' := 11) ddc_10 rfl ?_
  exact s_nret (t := .char) rfl (by simp) ddc_11 (by decide) (by decide) ⟨by show some (Value.int (nar .char ((dv x).toUInt32.toUInt16.toUInt32.toInt32))) = _; rw [i2c_ch (dv_ch x), nar_ch (dv_ch x)], rfl⟩
theorem pnI : plainName "java/lang/Number" = true := by first | (simp [plainName, overriddenIn]; done) | decide +kernel
def ini : OInfo := ("java/lang/Number", jdk_18_method_1_code, 1, none, "<init>", ({ frames := 1, cells := 0, slots := 0, locals := 12 } : Room))
theorem efni (x0 : Addr) (m : MethodId) : entryFrame m #[(.ref x0)] 1 = mkF m 0 #[.val (.ref x0)] [] := by first | (simp [entryFrame, mkF, argsToLocals, Value.category]; done) | rfl
theorem pdni : parseMethodDescriptor "()V" = some ⟨[], none⟩ := by decide +kernel
theorem dni_0 : decode jdk_18_method_1_code 0 = .ok (.aload_n 0, 1) := by decide +kernel
theorem dni_1 : decode jdk_18_method_1_code 1 = .ok (.invokespecial 1, 3) := by decide +kernel
theorem dni_4 : decode jdk_18_method_1_code 4 = .ok (.return_, 1) := by decide +kernel
set_option maxRecDepth 65536 in
set_option maxHeartbeats 4000000 in
theorem rmni (l : Launch) {Z : State} {a0 : Array Value} (G : OG Z a0) (n0 : Nat) (a : Addr) (h0 : Heap) : oCon l Z n0 EL1 [] (⟨"java/lang/Number", "<init>", "()V"⟩ : MethodName) ini #[.ref a] h0 (fun v h => v = none ∧ h = h0) := by
  obtain ⟨hw, hEL, ⟨cmp, hC, hc0⟩, ⟨fm, hfm, hF⟩⟩ := id G
  refine oCon.mk hEL (plainFor_of_name pnI) rfl rfl (efni a) fun C hCl => ?_
  refine s_aloadN (pc' := 1) dni_0 rfl rfl rfl ?_
  refine s_initO (hw _ (List.mem_of_getElem? (i := 161) rfl)) (hw _ (List.mem_of_getElem? (i := 17) rfl)) (hw _ (List.mem_of_getElem? (i := 18) rfl)) rfl (pc' := 4) dni_1 rfl (Nat.le_of_ble_eq_true rfl) (Nat.le_of_ble_eq_true rfl) ?_
  exact s_ret rfl dni_4 (by decide) (by decide) ⟨rfl, rfl⟩
def iii : OInfo := ("java/lang/Integer", jdk_33_method_23_code, 2, none, "<init>", ({ frames := 2, cells := 0, slots := 0, locals := 24 } : Room))
theorem efii (x0 : Addr) (x1 : Int32) (m : MethodId) : entryFrame m #[(.ref x0), (.int x1)] 2 = mkF m 0 #[.val (.ref x0), .val (.int x1)] [] := by first | (simp [entryFrame, mkF, argsToLocals, Value.category]; done) | rfl
theorem pdii : parseMethodDescriptor "(I)V" = some ⟨[.int], none⟩ := by decide +kernel
theorem pnii : plainFor (⟨"java/lang/Integer", "<init>", "(I)V"⟩ : MethodName) = true := by decide +kernel
theorem dii_0 : decode jdk_33_method_23_code 0 = .ok (.aload_n 0, 1) := by decide +kernel
theorem dii_1 : decode jdk_33_method_23_code 1 = .ok (.invokespecial 202, 3) := by decide +kernel
theorem dii_4 : decode jdk_33_method_23_code 4 = .ok (.aload_n 0, 1) := by decide +kernel
theorem dii_5 : decode jdk_33_method_23_code 5 = .ok (.iload_n 1, 1) := by decide +kernel
theorem dii_6 : decode jdk_33_method_23_code 6 = .ok (.putfield 205, 3) := by decide +kernel
theorem dii_9 : decode jdk_33_method_23_code 9 = .ok (.return_, 1) := by decide +kernel
set_option maxRecDepth 65536 in
set_option maxHeartbeats 4000000 in
theorem rmii (l : Launch) {Z : State} {a0 : Array Value} (G : OG Z a0) (n0 : Nat) (a : Addr) (n : Int32) (h0 : Heap) (E : Exa Z h0 a "java/lang/Integer") (F0 : Fld Z h0 a "java/lang/Integer" "value" "I" (.int 0)) (ga : n0 ≤ a) : oCon l Z n0 EL1 [a] (⟨"java/lang/Integer", "<init>", "(I)V"⟩ : MethodName) iii #[.ref a, .int n] h0 (fun v h => v = none ∧ Keep h0 h [a]) := by
  obtain ⟨hw, hEL, ⟨cmp, hC, hc0⟩, ⟨fm, hfm, hF⟩⟩ := id G
  refine oCon.mk hEL pnii rfl rfl (efii a n) fun C hCl => ?_
  refine s_aloadN (pc' := 1) dii_0 rfl rfl rfl ?_
  refine s_callI0 (rmni C.l G n0 a h0) (by simp) rfl rfl (hw _ (List.mem_of_getElem? (i := 155) rfl)) (hw _ (List.mem_of_getElem? (i := 156) rfl)) (hw _ (List.mem_of_getElem? (i := 159) rfl)) (hw _ (List.mem_of_getElem? (i := 160) rfl)) (by decide) (o_len pdni rfl) rfl (pc' := 4) dii_1 rfl (Nat.le_of_ble_eq_true rfl) (Nat.le_of_ble_eq_true rfl) (Nat.le_of_ble_eq_true rfl) (Nat.le_of_ble_eq_true rfl) (fun v1 h1 hQ1 => ?_)
  obtain ⟨rfl, rfl⟩ := hQ1
  dsimp only [oPush]
  refine s_aloadN (pc' := 5) dii_4 rfl rfl rfl ?_
  refine s_iloadN (pc' := 6) dii_5 rfl rfl ?_
  refine s_putF F0 E ga (by simp) (host := "") (Or.inl (hw _ (List.mem_of_getElem? (i := 162) rfl))) Via.refl (Or.inr ⟨(hw _ (List.mem_of_getElem? (i := 163) rfl)), rfl, rfl⟩) (hw _ (List.mem_of_getElem? (i := 150) rfl)) (ty := .int) (by decide) rfl rfl (pc' := 9) dii_6 rfl (fun h6 W6 => ?_)
  exact s_ret rfl dii_9 (by decide) (by decide) ⟨rfl, Keep.of_wr W6⟩
def iiv : OInfo := ("java/lang/Integer", jdk_33_method_22_code, 1, (some (.object "java/lang/Integer")), "valueOf", ({ frames := 3, cells := 1, slots := 1, locals := 38 } : Room))
theorem efiv (x0 : Int32) (m : MethodId) : entryFrame m #[(.int x0)] 1 = mkF m 0 #[.val (.int x0)] [] := by first | (simp [entryFrame, mkF, argsToLocals, Value.category]; done) | rfl
theorem pdiv : parseMethodDescriptor "(I)Ljava/lang/Integer;" = some ⟨[.int], some (.object "java/lang/Integer")⟩ := by decide +kernel
theorem pniv : plainFor (⟨"java/lang/Integer", "valueOf", "(I)Ljava/lang/Integer;"⟩ : MethodName) = true := by decide +kernel
theorem ic_in {i : Int32} {c : Cell} (h1 : ¬ i < (-128 : Int32)) (h2 : ¬ (127 : Int32) < i) (hs : c.slots.size = (256 : Int32).toNatClampNeg) : ¬ (i + 128 < 0 ∨ c.slots.size ≤ (i + 128).toNatClampNeg) := by
  have e1 : (-128 : Int32).toInt = -128 := rfl
  have e2 : (127 : Int32).toInt = 127 := rfl
  have e3 : (128 : Int32).toInt = 128 := rfl
  have e0 : (0 : Int32).toInt = 0 := rfl
  rw [o_lt, e1] at h1; rw [o_lt, e2] at h2
  have q := c_iadd i 128
  have r := rng32 (i + 128)
  rw [e3] at q
  have hs' : c.slots.size = 256 := hs
  rw [hs', o_lt, e0]
  have e : (i + 128).toNatClampNeg = (i + 128).toInt.toNat := rfl
  rw [e]; omega
theorem div_0 : decode jdk_33_method_22_code 0 = .ok (.iload_n 0, 1) := by decide +kernel
theorem div_1 : decode jdk_33_method_22_code 1 = .ok (.bipush (-128), 2) := by decide +kernel
theorem div_3 : decode jdk_33_method_22_code 3 = .ok (.if_icmp .lt 20, 3) := by decide +kernel
theorem div_6 : decode jdk_33_method_22_code 6 = .ok (.iload_n 0, 1) := by decide +kernel
theorem div_7 : decode jdk_33_method_22_code 7 = .ok (.getstatic 191, 3) := by decide +kernel
theorem div_10 : decode jdk_33_method_22_code 10 = .ok (.if_icmp .gt 13, 3) := by decide +kernel
theorem div_13 : decode jdk_33_method_22_code 13 = .ok (.getstatic 195, 3) := by decide +kernel
theorem div_16 : decode jdk_33_method_22_code 16 = .ok (.iload_n 0, 1) := by decide +kernel
theorem div_17 : decode jdk_33_method_22_code 17 = .ok (.sipush 128, 3) := by decide +kernel
theorem div_20 : decode jdk_33_method_22_code 20 = .ok (.iadd, 1) := by decide +kernel
theorem div_21 : decode jdk_33_method_22_code 21 = .ok (.aaload, 1) := by decide +kernel
theorem div_22 : decode jdk_33_method_22_code 22 = .ok (.areturn, 1) := by decide +kernel
theorem div_23 : decode jdk_33_method_22_code 23 = .ok (.new 1, 3) := by decide +kernel
theorem div_26 : decode jdk_33_method_22_code 26 = .ok (.dup, 1) := by decide +kernel
theorem div_27 : decode jdk_33_method_22_code 27 = .ok (.iload_n 0, 1) := by decide +kernel
theorem div_28 : decode jdk_33_method_22_code 28 = .ok (.invokespecial 199, 3) := by decide +kernel
theorem div_31 : decode jdk_33_method_22_code 31 = .ok (.areturn, 1) := by decide +kernel
set_option maxRecDepth 65536 in
set_option maxHeartbeats 4000000 in
theorem rmiv (l : Launch) {Z : State} {a0 : Array Value} (G : OG Z a0) (n0 : Nat) (i : Int32) (h0 : Heap) (ca : Addr) (cc : Cell) (vv : Int32 → Value) (SH : Sta Z Z.heap "java/lang/Integer$IntegerCache" "high" "I" (.int 127)) (SC : Sta Z Z.heap "java/lang/Integer$IntegerCache" "cache" "[Ljava/lang/Integer;" (.ref ca)) (B : Bxs Z ca cc "java/lang/Integer" "I" 256 vv) : oCon l Z n0 EL1 [] (⟨"java/lang/Integer", "valueOf", "(I)Ljava/lang/Integer;"⟩ : MethodName) iiv #[.int i] h0 (fun v h => ∃ pg, v = some (.ref pg) ∧ Ext h0 h) := by
  obtain ⟨hw, hEL, ⟨cmp, hC, hc0⟩, ⟨fm, hfm, hF⟩⟩ := id G
  refine oCon.mk hEL pniv rfl rfl (efiv i) fun C hCl => ?_
  refine s_iloadN (pc' := 1) div_0 rfl rfl ?_
  refine s_bipush (x := (-128 : Int32)) (pc' := 3) div_1 rfl rfl ?_
  refine s_icmp (pc' := 6) (pc'' := 23) div_3 rfl (by decide) rfl (fun hc3 => ?_) (fun hc3 => ?_)
  · replace hc3 := b_lt hc3
    refine s_new (hw _ (List.mem_of_getElem? (i := 149) rfl)) (hw _ (List.mem_of_getElem? (i := 150) rfl)) (hw _ (List.mem_of_getElem? (i := 37) rfl)) (pc' := 26) div_23 rfl (Nat.le_of_ble_eq_true rfl) (Nat.le_of_ble_eq_true rfl) (fun h23 b23 g23 nb23 E23 A23 D23 => ?_)
    refine s_dup (pc' := 27) div_26 rfl rfl ?_
    refine s_iloadN (pc' := 28) div_27 rfl rfl ?_
    refine s_callI1 (rmii C.l G n0 b23 i _ A23 (D23 (Or.inr (hw _ (List.mem_of_getElem? (i := 163) rfl))) (ty := .int) (by decide)) nb23) (by simp) rfl rfl (hw _ (List.mem_of_getElem? (i := 151) rfl)) (hw _ (List.mem_of_getElem? (i := 152) rfl)) (hw _ (List.mem_of_getElem? (i := 37) rfl)) (hw _ (List.mem_of_getElem? (i := 154) rfl)) (by decide) (o_len pdii rfl) rfl (pc' := 31) div_28 rfl (Nat.le_of_ble_eq_true rfl) (Nat.le_of_ble_eq_true rfl) (Nat.le_of_ble_eq_true rfl) (Nat.le_of_ble_eq_true rfl) (fun v28 h28 hQ28 => ?_)
    obtain ⟨rfl, K28⟩ := hQ28
    dsimp only [oPush]
    exact s_aret rfl rfl rfl div_31 (Nat.le_of_ble_eq_true rfl) (Nat.le_of_ble_eq_true rfl) ⟨b23, rfl, o_extKeep E23 K28 (allS (Nat.le_of_eq g23.symm) all0)⟩
  · replace hc3 := b_ltF hc3
    refine s_iloadN (pc' := 7) div_6 rfl rfl ?_
    refine s_getS SH (hw _ (List.mem_of_getElem? (i := 39) rfl)) Via.refl (pc' := 10) div_7 rfl ?_
    refine s_icmp (pc' := 13) (pc'' := 23) div_10 rfl (by decide) rfl (fun hc10 => ?_) (fun hc10 => ?_)
    · replace hc10 := b_gt hc10
      refine s_new (hw _ (List.mem_of_getElem? (i := 149) rfl)) (hw _ (List.mem_of_getElem? (i := 150) rfl)) (hw _ (List.mem_of_getElem? (i := 37) rfl)) (pc' := 26) div_23 rfl (Nat.le_of_ble_eq_true rfl) (Nat.le_of_ble_eq_true rfl) (fun h23 b23 g23 nb23 E23 A23 D23 => ?_)
      refine s_dup (pc' := 27) div_26 rfl rfl ?_
      refine s_iloadN (pc' := 28) div_27 rfl rfl ?_
      refine s_callI1 (rmii C.l G n0 b23 i _ A23 (D23 (Or.inr (hw _ (List.mem_of_getElem? (i := 163) rfl))) (ty := .int) (by decide)) nb23) (by simp) rfl rfl (hw _ (List.mem_of_getElem? (i := 151) rfl)) (hw _ (List.mem_of_getElem? (i := 152) rfl)) (hw _ (List.mem_of_getElem? (i := 37) rfl)) (hw _ (List.mem_of_getElem? (i := 154) rfl)) (by decide) (o_len pdii rfl) rfl (pc' := 31) div_28 rfl (Nat.le_of_ble_eq_true rfl) (Nat.le_of_ble_eq_true rfl) (Nat.le_of_ble_eq_true rfl) (Nat.le_of_ble_eq_true rfl) (fun v28 h28 hQ28 => ?_)
      obtain ⟨rfl, K28⟩ := hQ28
      dsimp only [oPush]
      exact s_aret rfl rfl rfl div_31 (Nat.le_of_ble_eq_true rfl) (Nat.le_of_ble_eq_true rfl) ⟨b23, rfl, o_extKeep E23 K28 (allS (Nat.le_of_eq g23.symm) all0)⟩
    · replace hc10 := b_gtF hc10
      refine s_getS SC (hw _ (List.mem_of_getElem? (i := 41) rfl)) Via.refl (pc' := 16) div_13 rfl ?_
      refine s_iloadN (pc' := 17) div_16 rfl rfl ?_
      refine s_sipush (x := (128 : Int32)) (pc' := 20) div_17 rfl rfl ?_
      refine s_iadd (pc' := 21) div_20 rfl ?_
      have hin := ic_in hc3 hc10 B.2.1
      obtain ⟨pg, hp, -, -⟩ := B.2.2.2 _ hin
      refine s_old fun O => ?_
      refine s_aaload (B.1.ext O.2) rfl hin hp (pc' := 22) div_21 rfl ?_
      exact s_aret rfl rfl rfl div_22 (Nat.le_of_ble_eq_true rfl) (Nat.le_of_ble_eq_true rfl) ⟨pg, rfl, Nat.le_refl _, fun _ _ q => q⟩
def i0 : OInfo := ("com/example/uni_mvc/unimvc/core/ResultCreatedPinLaw", code, maxLocals, (some .boolean), "law", room_1)
theorem ef0 (x0 : Int32) (x1 : Int32) (x2 : Int32) (x3 : Int32) (x4 : Int32) (x5 : Int32) (m : MethodId) : entryFrame m #[(.int x0), (.int x1), (.int x2), (.int x3), (.int x4), (.int x5)] maxLocals = mkF m 0 #[.val (.int x0), .val (.int x1), .val (.int x2), .val (.int x3), .val (.int x4), .val (.int x5), .unset, .unset, .unset, .unset, .unset, .unset, .unset, .unset] [] := by first | (simp [entryFrame, mkF, argsToLocals, Value.category, maxLocals]; done) | rfl
theorem v_ch {c : Int32} (q : (32 : Int32) < c ∧ ¬ (126 : Int32) < c) : ¬ c < 0 ∧ ¬ (255 : Int32) < c := Vis.ch (cs := [c]) (fun z hz => by cases List.mem_singleton.mp hz; exact q) c (List.mem_singleton.mpr rfl)
set_option maxRecDepth 65536 in
set_option maxHeartbeats 4000000 in
theorem sg30 {C : OCtx} {n0 : Nat} {ws : List Addr} {Q : Option Value → Heap → Prop} {h : Heap} {k a b d e p c0 c1 c2 c3 n : Int32} {s11 s12 s13 : Slot} {Z : State} {aa : Array Value} (G : OG Z aa) (v0 : ((32 : Int32) < c0 ∧ ¬ (126 : Int32) < c0)) (v1 : ((32 : Int32) < c1 ∧ ¬ (126 : Int32) < c1)) (v2 : ((32 : Int32) < c2 ∧ ¬ (126 : Int32) < c2)) (v3 : ((32 : Int32) < c3 ∧ ¬ (126 : Int32) < c3)) (hs11 : One s11) (K1 : ∀ t h', Ext h h' → ∀ cs : List Int32, cs.length < 2147483648 → 0 < cs.length → Vis cs → SV Z h' h'.size t cs → oRun C Z n0 i0 EL1 ws Q h' 3 16 (mkF C.m 154 #[.val (.int k), .val (.int a), .val (.int b), .val (.int d), .val (.int e), .val (.int p), .val (.int n), .val (.int c0), .val (.int c1), .val (.int c2), .val (.int c3), .val (.ref t), s12, s13] [])) : oRun C Z n0 i0 EL1 ws Q h 0 0 (mkF C.m 30 #[.val (.int k), .val (.int a), .val (.int b), .val (.int d), .val (.int e), .val (.int p), .val (.int n), .val (.int c0), .val (.int c1), .val (.int c2), .val (.int c3), s11, s12, s13] []) := by
  have hw := G.1
  refine s_iload (pc' := 32) at_30 rfl rfl ?_
  refine s_if (pc' := 35) (pc'' := 55) at_32 rfl (by decide) rfl (fun hc32 => ?_) (fun hc32 => ?_)
  · replace hc32 := b_ne hc32
    refine s_iload (pc' := 57) at_55 rfl rfl ?_
    refine s_iconst (x := (1 : Int32)) (pc' := 58) at_57 rfl rfl ?_
    refine s_icmp (pc' := 61) (pc'' := 86) at_58 rfl (by decide) rfl (fun hc58 => ?_) (fun hc58 => ?_)
    · replace hc58 := b_ne hc58
      refine s_iload (pc' := 88) at_86 rfl rfl ?_
      refine s_iconst (x := (2 : Int32)) (pc' := 89) at_88 rfl rfl ?_
      refine s_icmp (pc' := 92) (pc'' := 122) at_89 rfl (by decide) rfl (fun hc89 => ?_) (fun hc89 => ?_)
      · replace hc89 := b_ne hc89
        refine s_new (hw _ (List.mem_of_getElem? (i := 5) rfl)) (hw _ (List.mem_of_getElem? (i := 6) rfl)) (hw _ (List.mem_of_getElem? (i := 7) rfl)) (pc' := 125) at_122 rfl (Nat.le_of_ble_eq_true rfl) (Nat.le_of_ble_eq_true rfl) (fun h122 b122 g122 nb122 E122 A122 D122 => ?_)
        refine s_dup (pc' := 126) at_125 rfl rfl ?_
        refine s_iconst (x := (4 : Int32)) (pc' := 127) at_126 rfl rfl ?_
        refine s_newA 4 (hw _ (List.mem_of_getElem? (i := 8) rfl)) (pc' := 129) at_127 rfl (by decide) (by decide) (by decide) (Nat.le_of_ble_eq_true rfl) (Nat.le_of_ble_eq_true rfl) (fun h127 b127 k127 g127 nb127 E127 A127 => ?_)
        have hne122 : b122 ≠ b127 := o_fresh A122.lt g127
        have AA127 := o_padTo A127 4
        refine s_dup (pc' := 130) at_129 rfl rfl ?_
        refine s_iconst (x := (0 : Int32)) (pc' := 131) at_130 rfl rfl ?_
        refine s_iload (pc' := 133) at_131 rfl rfl ?_
        refine s_castore AA127 nb127 (by simp) (by decide) (by decide) 0 rfl (by simp) (pc' := 134) at_133 rfl (fun h133 W133 A133 => ?_)
        rw [nar_ch (v_ch v0)] at A133
        refine s_dup (pc' := 135) at_134 rfl rfl ?_
        refine s_iconst (x := (1 : Int32)) (pc' := 136) at_135 rfl rfl ?_
        refine s_iload (pc' := 138) at_136 rfl rfl ?_
        refine s_castore A133 nb127 (by simp) (by decide) (by decide) 1 rfl (by simp) (pc' := 139) at_138 rfl (fun h138 W138 A138 => ?_)
        rw [nar_ch (v_ch v1)] at A138
        refine s_dup (pc' := 140) at_139 rfl rfl ?_
        refine s_iconst (x := (2 : Int32)) (pc' := 141) at_140 rfl rfl ?_
        refine s_iload (pc' := 143) at_141 rfl rfl ?_
        refine s_castore A138 nb127 (by simp) (by decide) (by decide) 2 rfl (by simp) (pc' := 144) at_143 rfl (fun h143 W143 A143 => ?_)
        rw [nar_ch (v_ch v2)] at A143
        refine s_dup (pc' := 145) at_144 rfl rfl ?_
        refine s_iconst (x := (3 : Int32)) (pc' := 146) at_145 rfl rfl ?_
        refine s_iload (pc' := 148) at_146 rfl rfl ?_
        refine s_castore A143 nb127 (by simp) (by decide) (by decide) 3 rfl (by simp) (pc' := 149) at_148 rfl (fun h148 W148 A148 => ?_)
        rw [nar_ch (v_ch v3)] at A148
        refine s_callI1 (rmsC C.l G n0 b122 b127 k127 [c0, c1, c2, c3] _ h148 (by simp) (by simp) (by intro z hz; simp at hz; rcases hz with rfl | rfl | rfl | rfl; exact (v_ch v0); exact (v_ch v1); exact (v_ch v2); exact (v_ch v3)) A148 (((((A122.ext E127).wr W133).wr W138).wr W143).wr W148) ((((((D122 (Or.inr (hw _ (List.mem_of_getElem? (i := 34) rfl))) (ty := .array .byte) (by decide)).ext E127).other W133 (Or.inl hne122)).other W138 (Or.inl hne122)).other W143 (Or.inl hne122)).other W148 (Or.inl hne122)) ((((((D122 (Or.inr (hw _ (List.mem_of_getElem? (i := 32) rfl))) (ty := .byte) (by decide)).ext E127).other W133 (Or.inl hne122)).other W138 (Or.inl hne122)).other W143 (Or.inl hne122)).other W148 (Or.inl hne122)) nb122) (by simp) rfl rfl (hw _ (List.mem_of_getElem? (i := 9) rfl)) (hw _ (List.mem_of_getElem? (i := 10) rfl)) (hw _ (List.mem_of_getElem? (i := 7) rfl)) (hw _ (List.mem_of_getElem? (i := 11) rfl)) (by decide) (o_len pdsC rfl) rfl (pc' := 152) at_149 rfl (Nat.le_of_ble_eq_true rfl) (Nat.le_of_ble_eq_true rfl) (Nat.le_of_ble_eq_true rfl) (Nat.le_of_ble_eq_true rfl) (fun v149 h149 hQ149 => ?_)
        obtain ⟨rfl, K149, V149⟩ := hQ149
        dsimp only [oPush]
        have X149 := o_extKeep (o_extKeep (o_extKeep (o_extKeep (o_extKeep (o_ext E122 E127) (Keep.of_wr W133) (allS (by have := E122.1; omega) all0)) (Keep.of_wr W138) (allS (by have := E122.1; omega) all0)) (Keep.of_wr W143) (allS (by have := E122.1; omega) all0)) (Keep.of_wr W148) (allS (by have := E122.1; omega) all0)) K149 (allS (Nat.le_of_eq g122.symm) all0)
        refine s_astore (pc' := 154) at_152 rfl rfl (o_st rfl (by first | exact One.u | exact One.val rfl | assumption) rfl) ?_
        dsimp only [List.set_cons_succ, List.set_cons_zero]
        refine s_weak (ws' := ws) (by intro x hx; simp [hx]) ?_
        first
        | exact K1 _ _ X47 [c0] (by simp) (by simp) (by intro z hz; simp at hz; subst hz; exact v0) V47
        | exact K1 _ _ X78 [c0, c1] (by simp) (by simp) (by intro z hz; simp at hz; rcases hz with rfl | rfl; exact v0; exact v1) V78
        | exact K1 _ _ X114 [c0, c1, c2] (by simp) (by simp) (by intro z hz; simp at hz; rcases hz with rfl | rfl | rfl; exact v0; exact v1; exact v2) V114
        | exact K1 _ _ X149 [c0, c1, c2, c3] (by simp) (by simp) (by intro z hz; simp at hz; rcases hz with rfl | rfl | rfl | rfl; exact v0; exact v1; exact v2; exact v3) V149
      · replace hc89 := b_neF hc89
        refine s_new (hw _ (List.mem_of_getElem? (i := 5) rfl)) (hw _ (List.mem_of_getElem? (i := 6) rfl)) (hw _ (List.mem_of_getElem? (i := 7) rfl)) (pc' := 95) at_92 rfl (Nat.le_of_ble_eq_true rfl) (Nat.le_of_ble_eq_true rfl) (fun h92 b92 g92 nb92 E92 A92 D92 => ?_)
        refine s_dup (pc' := 96) at_95 rfl rfl ?_
        refine s_iconst (x := (3 : Int32)) (pc' := 97) at_96 rfl rfl ?_
        refine s_newA 4 (hw _ (List.mem_of_getElem? (i := 8) rfl)) (pc' := 99) at_97 rfl (by decide) (by decide) (by decide) (Nat.le_of_ble_eq_true rfl) (Nat.le_of_ble_eq_true rfl) (fun h97 b97 k97 g97 nb97 E97 A97 => ?_)
        have hne92 : b92 ≠ b97 := o_fresh A92.lt g97
        have AA97 := o_padTo A97 3
        refine s_dup (pc' := 100) at_99 rfl rfl ?_
        refine s_iconst (x := (0 : Int32)) (pc' := 101) at_100 rfl rfl ?_
        refine s_iload (pc' := 103) at_101 rfl rfl ?_
        refine s_castore AA97 nb97 (by simp) (by decide) (by decide) 0 rfl (by simp) (pc' := 104) at_103 rfl (fun h103 W103 A103 => ?_)
        rw [nar_ch (v_ch v0)] at A103
        refine s_dup (pc' := 105) at_104 rfl rfl ?_
        refine s_iconst (x := (1 : Int32)) (pc' := 106) at_105 rfl rfl ?_
        refine s_iload (pc' := 108) at_106 rfl rfl ?_
        refine s_castore A103 nb97 (by simp) (by decide) (by decide) 1 rfl (by simp) (pc' := 109) at_108 rfl (fun h108 W108 A108 => ?_)
        rw [nar_ch (v_ch v1)] at A108
        refine s_dup (pc' := 110) at_109 rfl rfl ?_
        refine s_iconst (x := (2 : Int32)) (pc' := 111) at_110 rfl rfl ?_
        refine s_iload (pc' := 113) at_111 rfl rfl ?_
        refine s_castore A108 nb97 (by simp) (by decide) (by decide) 2 rfl (by simp) (pc' := 114) at_113 rfl (fun h113 W113 A113 => ?_)
        rw [nar_ch (v_ch v2)] at A113
        refine s_callI1 (rmsC C.l G n0 b92 b97 k97 [c0, c1, c2] _ h113 (by simp) (by simp) (by intro z hz; simp at hz; rcases hz with rfl | rfl | rfl; exact (v_ch v0); exact (v_ch v1); exact (v_ch v2)) A113 ((((A92.ext E97).wr W103).wr W108).wr W113) (((((D92 (Or.inr (hw _ (List.mem_of_getElem? (i := 34) rfl))) (ty := .array .byte) (by decide)).ext E97).other W103 (Or.inl hne92)).other W108 (Or.inl hne92)).other W113 (Or.inl hne92)) (((((D92 (Or.inr (hw _ (List.mem_of_getElem? (i := 32) rfl))) (ty := .byte) (by decide)).ext E97).other W103 (Or.inl hne92)).other W108 (Or.inl hne92)).other W113 (Or.inl hne92)) nb92) (by simp) rfl rfl (hw _ (List.mem_of_getElem? (i := 9) rfl)) (hw _ (List.mem_of_getElem? (i := 10) rfl)) (hw _ (List.mem_of_getElem? (i := 7) rfl)) (hw _ (List.mem_of_getElem? (i := 11) rfl)) (by decide) (o_len pdsC rfl) rfl (pc' := 117) at_114 rfl (Nat.le_of_ble_eq_true rfl) (Nat.le_of_ble_eq_true rfl) (Nat.le_of_ble_eq_true rfl) (Nat.le_of_ble_eq_true rfl) (fun v114 h114 hQ114 => ?_)
        obtain ⟨rfl, K114, V114⟩ := hQ114
        dsimp only [oPush]
        have X114 := o_extKeep (o_extKeep (o_extKeep (o_extKeep (o_ext E92 E97) (Keep.of_wr W103) (allS (by have := E92.1; omega) all0)) (Keep.of_wr W108) (allS (by have := E92.1; omega) all0)) (Keep.of_wr W113) (allS (by have := E92.1; omega) all0)) K114 (allS (Nat.le_of_eq g92.symm) all0)
        refine s_astore (pc' := 119) at_117 rfl rfl (o_st rfl (by first | exact One.u | exact One.val rfl | assumption) rfl) ?_
        dsimp only [List.set_cons_succ, List.set_cons_zero]
        refine s_goto (pc' := 154) at_119 (by decide) rfl ?_
        refine s_weak (ws' := ws) (by intro x hx; simp [hx]) ?_
        first
        | exact K1 _ _ X47 [c0] (by simp) (by simp) (by intro z hz; simp at hz; subst hz; exact v0) V47
        | exact K1 _ _ X78 [c0, c1] (by simp) (by simp) (by intro z hz; simp at hz; rcases hz with rfl | rfl; exact v0; exact v1) V78
        | exact K1 _ _ X114 [c0, c1, c2] (by simp) (by simp) (by intro z hz; simp at hz; rcases hz with rfl | rfl | rfl; exact v0; exact v1; exact v2) V114
        | exact K1 _ _ X149 [c0, c1, c2, c3] (by simp) (by simp) (by intro z hz; simp at hz; rcases hz with rfl | rfl | rfl | rfl; exact v0; exact v1; exact v2; exact v3) V149
    · replace hc58 := b_neF hc58
      refine s_new (hw _ (List.mem_of_getElem? (i := 5) rfl)) (hw _ (List.mem_of_getElem? (i := 6) rfl)) (hw _ (List.mem_of_getElem? (i := 7) rfl)) (pc' := 64) at_61 rfl (Nat.le_of_ble_eq_true rfl) (Nat.le_of_ble_eq_true rfl) (fun h61 b61 g61 nb61 E61 A61 D61 => ?_)
      refine s_dup (pc' := 65) at_64 rfl rfl ?_
      refine s_iconst (x := (2 : Int32)) (pc' := 66) at_65 rfl rfl ?_
      refine s_newA 4 (hw _ (List.mem_of_getElem? (i := 8) rfl)) (pc' := 68) at_66 rfl (by decide) (by decide) (by decide) (Nat.le_of_ble_eq_true rfl) (Nat.le_of_ble_eq_true rfl) (fun h66 b66 k66 g66 nb66 E66 A66 => ?_)
      have hne61 : b61 ≠ b66 := o_fresh A61.lt g66
      have AA66 := o_padTo A66 2
      refine s_dup (pc' := 69) at_68 rfl rfl ?_
      refine s_iconst (x := (0 : Int32)) (pc' := 70) at_69 rfl rfl ?_
      refine s_iload (pc' := 72) at_70 rfl rfl ?_
      refine s_castore AA66 nb66 (by simp) (by decide) (by decide) 0 rfl (by simp) (pc' := 73) at_72 rfl (fun h72 W72 A72 => ?_)
      rw [nar_ch (v_ch v0)] at A72
      refine s_dup (pc' := 74) at_73 rfl rfl ?_
      refine s_iconst (x := (1 : Int32)) (pc' := 75) at_74 rfl rfl ?_
      refine s_iload (pc' := 77) at_75 rfl rfl ?_
      refine s_castore A72 nb66 (by simp) (by decide) (by decide) 1 rfl (by simp) (pc' := 78) at_77 rfl (fun h77 W77 A77 => ?_)
      rw [nar_ch (v_ch v1)] at A77
      refine s_callI1 (rmsC C.l G n0 b61 b66 k66 [c0, c1] _ h77 (by simp) (by simp) (by intro z hz; simp at hz; rcases hz with rfl | rfl; exact (v_ch v0); exact (v_ch v1)) A77 (((A61.ext E66).wr W72).wr W77) ((((D61 (Or.inr (hw _ (List.mem_of_getElem? (i := 34) rfl))) (ty := .array .byte) (by decide)).ext E66).other W72 (Or.inl hne61)).other W77 (Or.inl hne61)) ((((D61 (Or.inr (hw _ (List.mem_of_getElem? (i := 32) rfl))) (ty := .byte) (by decide)).ext E66).other W72 (Or.inl hne61)).other W77 (Or.inl hne61)) nb61) (by simp) rfl rfl (hw _ (List.mem_of_getElem? (i := 9) rfl)) (hw _ (List.mem_of_getElem? (i := 10) rfl)) (hw _ (List.mem_of_getElem? (i := 7) rfl)) (hw _ (List.mem_of_getElem? (i := 11) rfl)) (by decide) (o_len pdsC rfl) rfl (pc' := 81) at_78 rfl (Nat.le_of_ble_eq_true rfl) (Nat.le_of_ble_eq_true rfl) (Nat.le_of_ble_eq_true rfl) (Nat.le_of_ble_eq_true rfl) (fun v78 h78 hQ78 => ?_)
      obtain ⟨rfl, K78, V78⟩ := hQ78
      dsimp only [oPush]
      have X78 := o_extKeep (o_extKeep (o_extKeep (o_ext E61 E66) (Keep.of_wr W72) (allS (by have := E61.1; omega) all0)) (Keep.of_wr W77) (allS (by have := E61.1; omega) all0)) K78 (allS (Nat.le_of_eq g61.symm) all0)
      refine s_astore (pc' := 83) at_81 rfl rfl (o_st rfl (by first | exact One.u | exact One.val rfl | assumption) rfl) ?_
      dsimp only [List.set_cons_succ, List.set_cons_zero]
      refine s_goto (pc' := 154) at_83 (by decide) rfl ?_
      refine s_weak (ws' := ws) (by intro x hx; simp [hx]) ?_
      first
      | exact K1 _ _ X47 [c0] (by simp) (by simp) (by intro z hz; simp at hz; subst hz; exact v0) V47
      | exact K1 _ _ X78 [c0, c1] (by simp) (by simp) (by intro z hz; simp at hz; rcases hz with rfl | rfl; exact v0; exact v1) V78
      | exact K1 _ _ X114 [c0, c1, c2] (by simp) (by simp) (by intro z hz; simp at hz; rcases hz with rfl | rfl | rfl; exact v0; exact v1; exact v2) V114
      | exact K1 _ _ X149 [c0, c1, c2, c3] (by simp) (by simp) (by intro z hz; simp at hz; rcases hz with rfl | rfl | rfl | rfl; exact v0; exact v1; exact v2; exact v3) V149
  · replace hc32 := b_neF hc32
    refine s_new (hw _ (List.mem_of_getElem? (i := 5) rfl)) (hw _ (List.mem_of_getElem? (i := 6) rfl)) (hw _ (List.mem_of_getElem? (i := 7) rfl)) (pc' := 38) at_35 rfl (Nat.le_of_ble_eq_true rfl) (Nat.le_of_ble_eq_true rfl) (fun h35 b35 g35 nb35 E35 A35 D35 => ?_)
    refine s_dup (pc' := 39) at_38 rfl rfl ?_
    refine s_iconst (x := (1 : Int32)) (pc' := 40) at_39 rfl rfl ?_
    refine s_newA 4 (hw _ (List.mem_of_getElem? (i := 8) rfl)) (pc' := 42) at_40 rfl (by decide) (by decide) (by decide) (Nat.le_of_ble_eq_true rfl) (Nat.le_of_ble_eq_true rfl) (fun h40 b40 k40 g40 nb40 E40 A40 => ?_)
    have hne35 : b35 ≠ b40 := o_fresh A35.lt g40
    have AA40 := o_padTo A40 1
    refine s_dup (pc' := 43) at_42 rfl rfl ?_
    refine s_iconst (x := (0 : Int32)) (pc' := 44) at_43 rfl rfl ?_
    refine s_iload (pc' := 46) at_44 rfl rfl ?_
    refine s_castore AA40 nb40 (by simp) (by decide) (by decide) 0 rfl (by simp) (pc' := 47) at_46 rfl (fun h46 W46 A46 => ?_)
    rw [nar_ch (v_ch v0)] at A46
    refine s_callI1 (rmsC C.l G n0 b35 b40 k40 [c0] _ h46 (by simp) (by simp) (by intro z hz; simp at hz; subst hz; exact (v_ch v0)) A46 ((A35.ext E40).wr W46) (((D35 (Or.inr (hw _ (List.mem_of_getElem? (i := 34) rfl))) (ty := .array .byte) (by decide)).ext E40).other W46 (Or.inl hne35)) (((D35 (Or.inr (hw _ (List.mem_of_getElem? (i := 32) rfl))) (ty := .byte) (by decide)).ext E40).other W46 (Or.inl hne35)) nb35) (by simp) rfl rfl (hw _ (List.mem_of_getElem? (i := 9) rfl)) (hw _ (List.mem_of_getElem? (i := 10) rfl)) (hw _ (List.mem_of_getElem? (i := 7) rfl)) (hw _ (List.mem_of_getElem? (i := 11) rfl)) (by decide) (o_len pdsC rfl) rfl (pc' := 50) at_47 rfl (Nat.le_of_ble_eq_true rfl) (Nat.le_of_ble_eq_true rfl) (Nat.le_of_ble_eq_true rfl) (Nat.le_of_ble_eq_true rfl) (fun v47 h47 hQ47 => ?_)
    obtain ⟨rfl, K47, V47⟩ := hQ47
    dsimp only [oPush]
    have X47 := o_extKeep (o_extKeep (o_ext E35 E40) (Keep.of_wr W46) (allS (by have := E35.1; omega) all0)) K47 (allS (Nat.le_of_eq g35.symm) all0)
    refine s_astore (pc' := 52) at_50 rfl rfl (o_st rfl (by first | exact One.u | exact One.val rfl | assumption) rfl) ?_
    dsimp only [List.set_cons_succ, List.set_cons_zero]
    refine s_goto (pc' := 154) at_52 (by decide) rfl ?_
    refine s_weak (ws' := ws) (by intro x hx; simp [hx]) ?_
    first
    | exact K1 _ _ X47 [c0] (by simp) (by simp) (by intro z hz; simp at hz; subst hz; exact v0) V47
    | exact K1 _ _ X78 [c0, c1] (by simp) (by simp) (by intro z hz; simp at hz; rcases hz with rfl | rfl; exact v0; exact v1) V78
    | exact K1 _ _ X114 [c0, c1, c2] (by simp) (by simp) (by intro z hz; simp at hz; rcases hz with rfl | rfl | rfl; exact v0; exact v1; exact v2) V114
    | exact K1 _ _ X149 [c0, c1, c2, c3] (by simp) (by simp) (by intro z hz; simp at hz; rcases hz with rfl | rfl | rfl | rfl; exact v0; exact v1; exact v2; exact v3) V149
set_option maxRecDepth 65536 in
set_option maxHeartbeats 4000000 in
theorem rm0 (l : Launch) {Z : State} {a0 : Array Value} (G : OG Z a0) (n0 : Nat) (k a b d e p : Int32) (h0 : Heap) (ca : Addr) (cc : Cell) (vv : Int32 → Value) (SH : Sta Z Z.heap "java/lang/Integer$IntegerCache" "high" "I" (.int 127)) (SC : Sta Z Z.heap "java/lang/Integer$IntegerCache" "cache" "[Ljava/lang/Integer;" (.ref ca)) (B : Bxs Z ca cc "java/lang/Integer" "I" 256 vv) : oCon l Z n0 EL1 [] x i0 #[.int k, .int a, .int b, .int d, .int e, .int p] h0 (fun v h => v = some (.int 1)) := by
  obtain ⟨hw, hEL, ⟨cmp, hC, hc0⟩, ⟨fm, hfm, hF⟩⟩ := id G
  refine oCon.mk hEL (plainFor_of_name pn0) rfl rfl (ef0 k a b d e p) fun C hCl => ?_
  refine s_iloadN (pc' := 1) at_0 rfl rfl ?_
  refine s_iconst (x := (3 : Int32)) (pc' := 2) at_1 rfl rfl ?_
  refine s_iand (pc' := 3) at_2 rfl ?_
  refine s_istore (pc' := 5) at_3 rfl (o_st rfl (by first | exact One.u | exact One.val rfl | assumption) rfl) ?_
  dsimp only [List.set_cons_succ, List.set_cons_zero]
  refine s_iloadN (pc' := 6) at_5 rfl rfl ?_
  refine s_callS1 (rmdc C.l G n0 a _) (by simp) (hw _ (List.mem_of_getElem? (i := 0) rfl)) (hw _ (List.mem_of_getElem? (i := 1) rfl)) (hw _ (List.mem_of_getElem? (i := 2) rfl)) (hw _ (List.mem_of_getElem? (i := 3) rfl)) (by decide) (o_len pddc rfl) rfl (pc' := 9) at_6 rfl (Nat.le_of_ble_eq_true rfl) (Nat.le_of_ble_eq_true rfl) (Nat.le_of_ble_eq_true rfl) (Nat.le_of_ble_eq_true rfl) (fun v6 h6 hQ6 => ?_)
  obtain ⟨rfl, rfl⟩ := hQ6
  dsimp only [oPush]
  refine s_istore (pc' := 11) at_9 rfl (o_st rfl (by first | exact One.u | exact One.val rfl | assumption) rfl) ?_
  dsimp only [List.set_cons_succ, List.set_cons_zero]
  refine s_iloadN (pc' := 12) at_11 rfl rfl ?_
  refine s_callS1 (rmdc C.l G n0 b _) (by simp) (hw _ (List.mem_of_getElem? (i := 0) rfl)) (hw _ (List.mem_of_getElem? (i := 1) rfl)) (hw _ (List.mem_of_getElem? (i := 2) rfl)) (hw _ (List.mem_of_getElem? (i := 3) rfl)) (by decide) (o_len pddc rfl) rfl (pc' := 15) at_12 rfl (Nat.le_of_ble_eq_true rfl) (Nat.le_of_ble_eq_true rfl) (Nat.le_of_ble_eq_true rfl) (Nat.le_of_ble_eq_true rfl) (fun v12 h12 hQ12 => ?_)
  obtain ⟨rfl, rfl⟩ := hQ12
  dsimp only [oPush]
  refine s_istore (pc' := 17) at_15 rfl (o_st rfl (by first | exact One.u | exact One.val rfl | assumption) rfl) ?_
  dsimp only [List.set_cons_succ, List.set_cons_zero]
  refine s_iloadN (pc' := 18) at_17 rfl rfl ?_
  refine s_callS1 (rmdc C.l G n0 d _) (by simp) (hw _ (List.mem_of_getElem? (i := 0) rfl)) (hw _ (List.mem_of_getElem? (i := 1) rfl)) (hw _ (List.mem_of_getElem? (i := 2) rfl)) (hw _ (List.mem_of_getElem? (i := 3) rfl)) (by decide) (o_len pddc rfl) rfl (pc' := 21) at_18 rfl (Nat.le_of_ble_eq_true rfl) (Nat.le_of_ble_eq_true rfl) (Nat.le_of_ble_eq_true rfl) (Nat.le_of_ble_eq_true rfl) (fun v18 h18 hQ18 => ?_)
  obtain ⟨rfl, rfl⟩ := hQ18
  dsimp only [oPush]
  refine s_istore (pc' := 23) at_21 rfl (o_st rfl (by first | exact One.u | exact One.val rfl | assumption) rfl) ?_
  dsimp only [List.set_cons_succ, List.set_cons_zero]
  refine s_iload (pc' := 25) at_23 rfl rfl ?_
  refine s_callS1 (rmdc C.l G n0 e _) (by simp) (hw _ (List.mem_of_getElem? (i := 0) rfl)) (hw _ (List.mem_of_getElem? (i := 1) rfl)) (hw _ (List.mem_of_getElem? (i := 2) rfl)) (hw _ (List.mem_of_getElem? (i := 3) rfl)) (by decide) (o_len pddc rfl) rfl (pc' := 28) at_25 rfl (Nat.le_of_ble_eq_true rfl) (Nat.le_of_ble_eq_true rfl) (Nat.le_of_ble_eq_true rfl) (Nat.le_of_ble_eq_true rfl) (fun v25 h25 hQ25 => ?_)
  obtain ⟨rfl, rfl⟩ := hQ25
  dsimp only [oPush]
  refine s_istore (pc' := 30) at_28 rfl (o_st rfl (by first | exact One.u | exact One.val rfl | assumption) rfl) ?_
  dsimp only [List.set_cons_succ, List.set_cons_zero]
  refine sg30 G (dv_r _) (dv_r _) (dv_r _) (dv_r _) One.u fun t h1 E1 cs hb hne hvis T => ?_
  refine s_iload (pc' := 156) at_154 rfl rfl ?_
  refine s_callS1 (rmiv C.l G n0 p _ ca cc vv SH SC B) (by simp) (hw _ (List.mem_of_getElem? (i := 35) rfl)) (hw _ (List.mem_of_getElem? (i := 36) rfl)) (hw _ (List.mem_of_getElem? (i := 37) rfl)) (hw _ (List.mem_of_getElem? (i := 38) rfl)) (by decide) (o_len pdiv rfl) rfl (pc' := 159) at_156 rfl (Nat.le_of_ble_eq_true rfl) (Nat.le_of_ble_eq_true rfl) (Nat.le_of_ble_eq_true rfl) (Nat.le_of_ble_eq_true rfl) (fun v156 h156 hQ156 => ?_)
  obtain ⟨pg, rfl, E156⟩ := hQ156
  dsimp only [oPush]
  replace T := T.ext E156
  refine s_astore (pc' := 161) at_159 rfl rfl (o_st rfl (by first | exact One.u | exact One.val rfl | assumption) rfl) ?_
  dsimp only [List.set_cons_succ, List.set_cons_zero]
  refine s_aload (pc' := 163) at_161 rfl rfl rfl ?_
  refine s_aload (pc' := 165) at_163 rfl rfl rfl ?_
  refine s_callS2 (rmso C.l G n0 t pg _ cs _ hb hne hvis T) (by simp) (hw _ (List.mem_of_getElem? (i := 42) rfl)) (hw _ (List.mem_of_getElem? (i := 43) rfl)) (hw _ (List.mem_of_getElem? (i := 44) rfl)) (hw _ (List.mem_of_getElem? (i := 45) rfl)) (by decide) (o_len pdso rfl) rfl (pc' := 168) at_165 rfl (Nat.le_of_ble_eq_true rfl) (Nat.le_of_ble_eq_true rfl) (Nat.le_of_ble_eq_true rfl) (Nat.le_of_ble_eq_true rfl) (fun v165 h165 hQ165 => ?_)
  obtain ⟨r, rfl, gr, E165, R⟩ := hQ165
  dsimp only [oPush]
  replace T := T.ext E165
  refine s_astore (pc' := 170) at_168 rfl rfl (o_st rfl (by first | exact One.u | exact One.val rfl | assumption) rfl) ?_
  dsimp only [List.set_cons_succ, List.set_cons_zero]
  refine s_aload (pc' := 172) at_170 rfl rfl rfl ?_
  refine s_callV0 (rmrs C.l G n0 r 201 _ R.2.1) (by simp) R.1 (hw _ (List.mem_of_getElem? (i := 106) rfl)) (hw _ (List.mem_of_getElem? (i := 107) rfl)) (hw _ (List.mem_of_getElem? (i := 109) rfl)) (hw _ (List.mem_of_getElem? (i := 108) rfl)) (o_nf (hw _ (List.mem_of_getElem? (i := 109) rfl)) rfl) (hw _ (List.mem_of_getElem? (i := 44) rfl)) (hw _ (List.mem_of_getElem? (i := 110) rfl)) (by decide) (o_len pdrs rfl) rfl (pc' := 175) at_172 rfl (Nat.le_of_ble_eq_true rfl) (Nat.le_of_ble_eq_true rfl) (Nat.le_of_ble_eq_true rfl) (Nat.le_of_ble_eq_true rfl) (fun v172 h172 hQ172 => ?_)
  obtain ⟨rfl, rfl⟩ := hQ172
  dsimp only [oPush]
  refine s_sipush (x := (201 : Int32)) (pc' := 178) at_175 rfl rfl ?_
  refine s_icmp (pc' := 181) (pc'' := 183) at_178 rfl (by decide) rfl (fun hc178 => ?_) (fun hc178 => ?_)
  · replace hc178 := b_eq hc178
    refine s_aload (pc' := 185) at_183 rfl rfl rfl ?_
    refine s_callV0 (rmgl C.l G n0 r t _ R.2.2.1) (by simp) R.1 (hw _ (List.mem_of_getElem? (i := 111) rfl)) (hw _ (List.mem_of_getElem? (i := 112) rfl)) (hw _ (List.mem_of_getElem? (i := 114) rfl)) (hw _ (List.mem_of_getElem? (i := 113) rfl)) (o_nf (hw _ (List.mem_of_getElem? (i := 114) rfl)) rfl) (hw _ (List.mem_of_getElem? (i := 44) rfl)) (hw _ (List.mem_of_getElem? (i := 115) rfl)) (by decide) (o_len pdgl rfl) rfl (pc' := 188) at_185 rfl (Nat.le_of_ble_eq_true rfl) (Nat.le_of_ble_eq_true rfl) (Nat.le_of_ble_eq_true rfl) (Nat.le_of_ble_eq_true rfl) (fun v185 h185 hQ185 => ?_)
    obtain ⟨o, rfl, go, E185, O1, O2⟩ := hQ185
    dsimp only [oPush]
    replace R := R.ext E185
    replace T := T.ext E185
    refine s_callV0 (rmoP C.l G n0 o t _ O2) (by simp) O1 (hw _ (List.mem_of_getElem? (i := 129) rfl)) (hw _ (List.mem_of_getElem? (i := 130) rfl)) (hw _ (List.mem_of_getElem? (i := 132) rfl)) (hw _ (List.mem_of_getElem? (i := 131) rfl)) (o_nf (hw _ (List.mem_of_getElem? (i := 132) rfl)) rfl) (hw _ (List.mem_of_getElem? (i := 118) rfl)) (hw _ (List.mem_of_getElem? (i := 133) rfl)) (by decide) (o_len pdoP rfl) rfl (pc' := 191) at_188 rfl (Nat.le_of_ble_eq_true rfl) (Nat.le_of_ble_eq_true rfl) (Nat.le_of_ble_eq_true rfl) (Nat.le_of_ble_eq_true rfl) (fun v188 h188 hQ188 => ?_)
    obtain ⟨rfl, rfl⟩ := hQ188
    dsimp only [oPush]
    refine s_if (pc' := 194) (pc'' := 213) at_191 rfl (by decide) rfl (fun hc191 => ?_) (fun hc191 => ?_)
    · replace hc191 := b_eq hc191
      exact absurd hc191 (by decide)
    · replace hc191 := b_eqF hc191
      refine s_aload (pc' := 196) at_194 rfl rfl rfl ?_
      refine s_callV0 (rmgl C.l G n0 r t _ R.2.2.1) (by simp) R.1 (hw _ (List.mem_of_getElem? (i := 111) rfl)) (hw _ (List.mem_of_getElem? (i := 112) rfl)) (hw _ (List.mem_of_getElem? (i := 114) rfl)) (hw _ (List.mem_of_getElem? (i := 113) rfl)) (o_nf (hw _ (List.mem_of_getElem? (i := 114) rfl)) rfl) (hw _ (List.mem_of_getElem? (i := 44) rfl)) (hw _ (List.mem_of_getElem? (i := 115) rfl)) (by decide) (o_len pdgl rfl) rfl (pc' := 199) at_196 rfl (Nat.le_of_ble_eq_true rfl) (Nat.le_of_ble_eq_true rfl) (Nat.le_of_ble_eq_true rfl) (Nat.le_of_ble_eq_true rfl) (fun v196 h196 hQ196 => ?_)
      obtain ⟨o2, rfl, go2, E196, P1, P2⟩ := hQ196
      dsimp only [oPush]
      replace R := R.ext E196
      replace T := T.ext E196
      refine s_callV0 (rmoG C.l G n0 o2 t _ P2) (by simp) P1 (hw _ (List.mem_of_getElem? (i := 134) rfl)) (hw _ (List.mem_of_getElem? (i := 135) rfl)) (hw _ (List.mem_of_getElem? (i := 137) rfl)) (hw _ (List.mem_of_getElem? (i := 136) rfl)) (o_nf (hw _ (List.mem_of_getElem? (i := 137) rfl)) rfl) (hw _ (List.mem_of_getElem? (i := 118) rfl)) (hw _ (List.mem_of_getElem? (i := 138) rfl)) (by decide) (o_len pdoG rfl) rfl (pc' := 202) at_199 rfl (Nat.le_of_ble_eq_true rfl) (Nat.le_of_ble_eq_true rfl) (Nat.le_of_ble_eq_true rfl) (Nat.le_of_ble_eq_true rfl) (fun v199 h199 hQ199 => ?_)
      obtain ⟨rfl, rfl⟩ := hQ199
      dsimp only [oPush]
      refine s_castY (Ins.self T.exa) (hw _ (List.mem_of_getElem? (i := 5) rfl)) (pc' := 205) at_202 rfl ?_
      refine s_aload (pc' := 207) at_205 rfl rfl rfl ?_
      refine s_callV1 (rmsE C.l G n0 t _) (by simp) T.exa (hw _ (List.mem_of_getElem? (i := 139) rfl)) (hw _ (List.mem_of_getElem? (i := 140) rfl)) (hw _ (List.mem_of_getElem? (i := 142) rfl)) (hw _ (List.mem_of_getElem? (i := 141) rfl)) (o_nf (hw _ (List.mem_of_getElem? (i := 142) rfl)) rfl) (hw _ (List.mem_of_getElem? (i := 7) rfl)) (hw _ (List.mem_of_getElem? (i := 143) rfl)) (by decide) (o_len pdsE rfl) rfl (pc' := 210) at_207 rfl (Nat.le_of_ble_eq_true rfl) (Nat.le_of_ble_eq_true rfl) (Nat.le_of_ble_eq_true rfl) (Nat.le_of_ble_eq_true rfl) (fun v207 h207 hQ207 => ?_)
      obtain ⟨rfl, rfl⟩ := hQ207
      dsimp only [oPush]
      refine s_if (pc' := 213) (pc'' := 215) at_210 rfl (by decide) rfl (fun hc210 => ?_) (fun hc210 => ?_)
      · replace hc210 := b_ne hc210
        refine s_aload (pc' := 217) at_215 rfl rfl rfl ?_
        refine s_callV0 (rmgp C.l G n0 r pg _ R.2.2.2) (by simp) R.1 (hw _ (List.mem_of_getElem? (i := 144) rfl)) (hw _ (List.mem_of_getElem? (i := 145) rfl)) (hw _ (List.mem_of_getElem? (i := 147) rfl)) (hw _ (List.mem_of_getElem? (i := 146) rfl)) (o_nf (hw _ (List.mem_of_getElem? (i := 147) rfl)) rfl) (hw _ (List.mem_of_getElem? (i := 44) rfl)) (hw _ (List.mem_of_getElem? (i := 148) rfl)) (by decide) (o_len pdgp rfl) rfl (pc' := 220) at_217 rfl (Nat.le_of_ble_eq_true rfl) (Nat.le_of_ble_eq_true rfl) (Nat.le_of_ble_eq_true rfl) (Nat.le_of_ble_eq_true rfl) (fun v217 h217 hQ217 => ?_)
        obtain ⟨o3, rfl, go3, E217, Q1, Q2⟩ := hQ217
        dsimp only [oPush]
        replace R := R.ext E217
        replace T := T.ext E217
        refine s_callV0 (rmoP C.l G n0 o3 pg _ Q2) (by simp) Q1 (hw _ (List.mem_of_getElem? (i := 129) rfl)) (hw _ (List.mem_of_getElem? (i := 130) rfl)) (hw _ (List.mem_of_getElem? (i := 132) rfl)) (hw _ (List.mem_of_getElem? (i := 131) rfl)) (o_nf (hw _ (List.mem_of_getElem? (i := 132) rfl)) rfl) (hw _ (List.mem_of_getElem? (i := 118) rfl)) (hw _ (List.mem_of_getElem? (i := 133) rfl)) (by decide) (o_len pdoP rfl) rfl (pc' := 223) at_220 rfl (Nat.le_of_ble_eq_true rfl) (Nat.le_of_ble_eq_true rfl) (Nat.le_of_ble_eq_true rfl) (Nat.le_of_ble_eq_true rfl) (fun v220 h220 hQ220 => ?_)
        obtain ⟨rfl, rfl⟩ := hQ220
        dsimp only [oPush]
        refine s_if (pc' := 226) (pc'' := 239) at_223 rfl (by decide) rfl (fun hc223 => ?_) (fun hc223 => ?_)
        · replace hc223 := b_eq hc223
          exact absurd hc223 (by decide)
        · replace hc223 := b_eqF hc223
          refine s_aload (pc' := 228) at_226 rfl rfl rfl ?_
          refine s_callV0 (rmgp C.l G n0 r pg _ R.2.2.2) (by simp) R.1 (hw _ (List.mem_of_getElem? (i := 144) rfl)) (hw _ (List.mem_of_getElem? (i := 145) rfl)) (hw _ (List.mem_of_getElem? (i := 147) rfl)) (hw _ (List.mem_of_getElem? (i := 146) rfl)) (o_nf (hw _ (List.mem_of_getElem? (i := 147) rfl)) rfl) (hw _ (List.mem_of_getElem? (i := 44) rfl)) (hw _ (List.mem_of_getElem? (i := 148) rfl)) (by decide) (o_len pdgp rfl) rfl (pc' := 231) at_228 rfl (Nat.le_of_ble_eq_true rfl) (Nat.le_of_ble_eq_true rfl) (Nat.le_of_ble_eq_true rfl) (Nat.le_of_ble_eq_true rfl) (fun v228 h228 hQ228 => ?_)
          obtain ⟨o4, rfl, go4, E228, Q3, Q4⟩ := hQ228
          dsimp only [oPush]
          refine s_callV0 (rmoG C.l G n0 o4 pg _ Q4) (by simp) Q3 (hw _ (List.mem_of_getElem? (i := 134) rfl)) (hw _ (List.mem_of_getElem? (i := 135) rfl)) (hw _ (List.mem_of_getElem? (i := 137) rfl)) (hw _ (List.mem_of_getElem? (i := 136) rfl)) (o_nf (hw _ (List.mem_of_getElem? (i := 137) rfl)) rfl) (hw _ (List.mem_of_getElem? (i := 118) rfl)) (hw _ (List.mem_of_getElem? (i := 138) rfl)) (by decide) (o_len pdoG rfl) rfl (pc' := 234) at_231 rfl (Nat.le_of_ble_eq_true rfl) (Nat.le_of_ble_eq_true rfl) (Nat.le_of_ble_eq_true rfl) (Nat.le_of_ble_eq_true rfl) (fun v231 h231 hQ231 => ?_)
          obtain ⟨rfl, rfl⟩ := hQ231
          dsimp only [oPush]
          refine s_aload (pc' := 236) at_234 rfl rfl rfl ?_
          refine s_acmpEq rfl rfl (pc' := 239) (pc'' := 241) at_236 rfl (by decide) rfl (fun hc236 => ?_) (fun hc236 => absurd rfl hc236)
          refine s_iconst (x := (1 : Int32)) (pc' := 242) at_241 rfl rfl ?_
          exact s_nret (t := .boolean) rfl (by simp) at_242 (Nat.le_of_ble_eq_true rfl) (Nat.le_of_ble_eq_true rfl) rfl
      · replace hc210 := b_neF hc210
        exact absurd hc210 (by decide)
  · replace hc178 := b_eqF hc178
    exact absurd rfl hc178
set_option maxRecDepth 65536 in
set_option maxHeartbeats 4000000 in
theorem comes_1 {Post : Tables → Env → Array Value → State → Outcome → State → Prop} (hpost : ∀ tb e args s v u, (limb_1_1.after args s (.returned v) u = true ∧ limb_1_2.after args s (.returned v) u = true ∧ True) → ReturnedEndW s (.returned v) u (Jvm.fieldLocs frame_1_writes args s ++ Jvm.arrayLocs frame_1_arrays args s ++ Jvm.staticLocs frame_1_statics s) 32 2176 → Post tb e args s (.returned v) u) :
    ArmFor flags0 classFile x code maxLocals ret World_1 tables_1 room_1 Calls_1 rest_1 Pre_1 Post := by
  intro l hfl _ _ p e ha hc hk s m args below hf hA hF happ hP
  obtain ⟨hcalls, hrest, hpre⟩ := hP
  obtain ⟨-, -, -, hnamed, -, -, -, hat⟩ := (Spec.applies_iff hf).mp happ
  obtain ⟨hg, hn⟩ := and_e (Cond.before_iff.mp (show (Jvm.Cond.and given_1 narrow_1).before args s = true from hpre))
  obtain ⟨hcount, hr0⟩ := and_e hg
  obtain ⟨ha0, hr1⟩ := and_e hr0
  obtain ⟨ha1, hr2⟩ := and_e hr1
  obtain ⟨ha2, hr3⟩ := and_e hr2
  obtain ⟨ha3, hr4⟩ := and_e hr3
  obtain ⟨ha4, hr5⟩ := and_e hr4
  have ha5 := hr5
  obtain ⟨w0, w1, w2, w3, w4, w5, rfl⟩ : ∃ w0 w1 w2 w3 w4 w5 : Value, args = #[w0, w1, w2, w3, w4, w5] := by
    have hs : args.size = 6 := by simpa [Cond.value, given_1] using hcount
    obtain ⟨L⟩ := args
    match L, hs with
    | [w0, w1, w2, w3, w4, w5], _ => exact ⟨w0, w1, w2, w3, w4, w5, rfl⟩
  have hw := fun d (hd : d ∈ tables_1) => atoms_spec (ws := Jvm.Cond.code x code maxLocals ret :: tables_1) hat d (List.mem_cons_of_mem _ hd)
  obtain ⟨hsets, hown0⟩ := atoms_of _ (rest_1_c_eq ▸ (show rest_1_c.before _ s = true from hrest))
  have hfit : Fit s := fun {y c} hc i hi => by
    obtain ⟨ha, rfl⟩ := Array.getElem?_eq_some_iff.mp hc
    have q := List.all_eq_true.mp ((Array.all_eq_true_iff_forall_mem.mp hF) _ (Array.getElem_mem ha)) i (List.mem_range.mpr hi)
    simpa [Array.getElem?_eq_getElem hi] using q
  obtain ⟨i0, e0⟩ := is_v ha0
  obtain rfl : w0 = (.int i0) := Option.some.inj e0
  obtain ⟨i1, e1⟩ := is_v ha1
  obtain rfl : w1 = (.int i1) := Option.some.inj e1
  obtain ⟨i2, e2⟩ := is_v ha2
  obtain rfl : w2 = (.int i2) := Option.some.inj e2
  obtain ⟨i3, e3⟩ := is_v ha3
  obtain rfl : w3 = (.int i3) := Option.some.inj e3
  obtain ⟨i4, e4⟩ := is_v ha4
  obtain rfl : w4 = (.int i4) := Option.some.inj e4
  obtain ⟨i5, e5⟩ := is_v ha5
  obtain rfl : w5 = (.int i5) := Option.some.inj e5
  have n2 := not_v (Cond.before_iff.mp (hsets _ (List.mem_of_getElem? (i := 2) rfl)))
  obtain ⟨cmp, ec⟩ := is_v (Cond.before_iff.mp (hsets _ (List.mem_of_getElem? (i := 1) rfl)))
  have hC : Sta s s.heap "java/lang/String" "COMPACT_STRINGS" "Z" (.int cmp) := Sta.start ec (Or.inl (hsets _ (List.mem_of_getElem? (i := 0) rfl)))
  have hc0 : ¬ cmp = 0 := gotF (Cond.eq_ints ec (Term.int_eval 0)) n2
  obtain ⟨fm, ef, hfm⟩ := isR_v (Cond.before_iff.mp (hsets _ (List.mem_of_getElem? (i := 8) rfl)))
  have hF : Sta s s.heap "jdk/internal/util/Preconditions" "SIOOBE_FORMATTER" "Ljava/util/function/BiFunction;" fm := Sta.start ef (Or.inl (hsets _ (List.mem_of_getElem? (i := 7) rfl)))
  have hEL : EW s #[.int i0, .int i1, .int i2, .int i3, .int i4, .int i5] EL1 := EW.nil
  have G : OG s _ := ⟨hw, hEL, ⟨cmp, hC, hc0⟩, ⟨fm, hfm, hF⟩⟩
  have hCH : CHv s EL1 s.vm s.heap := CHv.start hEL (fun p hp => by cases hp) (hsets _ (List.mem_of_getElem? (i := 2) rfl)) (hw _ (List.mem_of_getElem? (i := 24) rfl)) (hw _ (List.mem_of_getElem? (i := 6) rfl))
  have eh := eqv_i (Term.int_eval 127) (Cond.before_iff.mp (hsets _ (List.mem_of_getElem? (i := 12) rfl)))
  have SH : Sta s s.heap "java/lang/Integer$IntegerCache" "high" "I" (.int 127) := Sta.start eh (Or.inl (hsets _ (List.mem_of_getElem? (i := 10) rfl)))
  obtain ⟨ca, tc⟩ := arr_v (Cond.before_iff.mp (hsets _ (List.mem_of_getElem? (i := 13) rfl)))
  have SC : Sta s s.heap "java/lang/Integer$IntegerCache" "cache" "[Ljava/lang/Integer;" (.ref ca) := Sta.start tc (Or.inr ⟨(hw _ (List.mem_of_getElem? (i := 40) rfl)), (hsets _ (List.mem_of_getElem? (i := 11) rfl))⟩)
  obtain ⟨cc, AC⟩ := Arr.start tc (Cond.before_iff.mp (hsets _ (List.mem_of_getElem? (i := 13) rfl)))
  have el := eqv_i (Term.int_eval 256) (Cond.before_iff.mp (hsets _ (List.mem_of_getElem? (i := 15) rfl)))
  have aC : s.arrayAt? ca = some cc := Arr.fin (Vm.Alike.refl _) AC
  have q31 : cc.slots.size < 2 ^ 31 := Jvm.Free.SBG.length_lt tc aC el
  have ez : cc.slots.size.toInt32 = 256 := by have q := (len_f tc aC q31).symm.trans el; injection q with q; injection q
  have B : Bxs s ca cc "java/lang/Integer" "I" 256 (fun j => .int (j - 128)) := Bxs.start (fun _ => tc) AC q31 ez (by decide) (Cond.before_iff.mp (hsets _ (List.mem_of_getElem? (i := 16) rfl))) (fun X j hj hq => eqv_i (by simp [Term.eval, (back32 hj).1]) hq)
  obtain ⟨n, o, q1, q2, q3, _, L, rfl, ⟨N, -, rfl⟩, -, hq⟩ := (rm0 l G s.heap.size i0 i1 i2 i3 i4 i5 s.heap ca cc _ SH SC B) (Old.start s) tables_1 p e ha hc hk s m _ below hf ((Spec.applies_iff_loose hf).mp happ).1 ⟨rfl, State.Warmed39.refl s, rfl, hCH, by simp⟩ trivial
  refine ⟨n, _, q1, q2, q3, hpost _ _ _ _ _ _ ⟨Cond.after_iff.mpr rfl, Cond.after_iff.mpr (eq_i res_at (Term.int_eval (1)) rfl), trivial⟩ ⟨hq.1, hq.2.1, hq.2.2.1, (hq.2.2.2.sift fun y hy => Or.inr (N y hy)).mono (by decide) (by decide)⟩⟩
theorem main_1_1 : Claimed_1_1 := comes_1 fun _ _ _ _ _ _ h hF => ⟨h.1, hF⟩
theorem main_1_2 : Claimed_1_2 := comes_1 fun _ _ _ _ _ _ h hF => ⟨h.2.1, hF⟩
end Jvm.Pilot.@@N@@
namespace Jvm.Pilot.@@N@@
open Jvm Jvm.ClassFile Sem Op Lib Jvm.Free Jvm.Stand Jvm.Pilot.@@N@@.Jvm.D
/-! MADE BY PROGRAM (witnessworld.py) out of the Statement's table words and the real class files: 26 classes; the members and pool entries that the words name. The judged class is class 1, her method 2. -/
namespace start1
open Jvm.ClassFile
def u (s : String) : CpInfo := .utf8 (stringToUtf16 s)
/-- a pool by its gaps: so many unusable entries, then the entry; so many at the end -/
def gap : Nat → List CpInfo → List CpInfo
  | 0, r => r
  | n + 1, r => .unusable :: gap n r
def poolList (es : List (Nat × CpInfo)) (last : Nat) : List CpInfo := es.foldr (fun e r => gap e.1 (e.2 :: r)) (gap last [])
def pool (es : List (Nat × CpInfo)) (last : Nat) : Array CpInfo := ⟨poolList es last⟩
def fileOf (pool : Array CpInfo) (this : Nat) (attrs : Array Attribute := #[]) (ms : Array MethodInfo := #[]) (fl : Nat := 33) (sup : Nat := 0) (ifs : Array Nat := #[]) (fds : Array FieldInfo := #[]) : ClassFile where
  minorVersion := 0
  majorVersion := 65
  constantPool := pool
  accessFlags := fl
  thisClass := this
  superClass := sup
  interfaces := ifs
  fields := fds
  methods := ms
  attributes := attrs
def plain (name : String) (sup : Option ClassId) : Class where
  name := name
  kind := .ordinary
  loader := none
  accessFlags := 33
  super := sup
  interfaces := #[]
  cf := none
  fields := #[]
  methods := #[]
  instanceTypes := #[]
  staticTypes := #[]
  resolved := #[]
  callSites := []
  init := .initialized
  statics := none
  mirror := none

def pool0 : Array CpInfo := pool [(5, u "<init>"), (0, u "()V"), (1, .class_ 10), (1, u "java/lang/Object")] 113

def k0c0 : Code := { maxStack := 0, maxLocals := 1, code := object_method_1_code, exceptionTable := #[], attributes := #[] }
def k0m0 : Method := { name := "<init>", desc := "()V", sig := { parameters := [], returnType := none }, accessFlags := 1, code := some k0c0 }
/-- java/lang/Object -/
def k0 : Class := { plain "java/lang/Object" none with
  accessFlags := 33
  interfaces := #[]
  cf := some (fileOf pool0 8 #[] #[{ accessFlags := 1, nameIndex := 5, descriptorIndex := 6, attributes := #[] }] 33 0 #[] #[])
  fields := #[]
  methods := #[k0m0]
  instanceTypes := #[]
  staticTypes := #[]
  resolved := Array.replicate 124 none
  statics := none }

def pool1 : Array CpInfo := pool [(2, .class_ 4), (1, u "java/lang/Object"), (0, u "<init>"), (0, u "()V"), (0, .integer 2147483647), (0, .methodref 9 10), (0, .class_ 11), (0, .nameAndType 12 13), (0, u "com/example/uni_mvc/unimvc/core/ResultCreatedPinLaw"), (0, u "ch"), (0, u "(I)C"), (0, .class_ 15), (0, u "java/lang/String"), (0, .methodref 14 17), (0, .nameAndType 5 18), (0, u "([C)V"), (0, .methodref 20 21), (0, .class_ 22), (0, .nameAndType 23 24), (0, u "java/lang/Integer"), (0, u "valueOf"), (0, u "(I)Ljava/lang/Integer;"), (0, .methodref 26 27), (0, .class_ 28), (0, .nameAndType 29 30), (0, u "com/example/uni_mvc/unimvc/core/Result"), (0, u "created"), (0, u "(Ljava/lang/String;Ljava/lang/Object;)Lcom/example/uni_mvc/unimvc/core/Result;"), (0, .methodref 26 32), (0, .nameAndType 33 34), (0, u "status"), (0, u "()I"), (0, .methodref 26 36), (0, .nameAndType 37 38), (0, u "location"), (0, u "()Ljava/util/Optional;"), (0, .methodref 40 41), (0, .class_ 42), (0, .nameAndType 43 44), (0, u "java/util/Optional"), (0, u "isPresent"), (0, u "()Z"), (0, .methodref 40 46), (0, .nameAndType 47 48), (0, u "get"), (0, u "()Ljava/lang/Object;"), (0, .methodref 14 50), (0, .nameAndType 51 52), (0, u "equals"), (0, u "(Ljava/lang/Object;)Z"), (0, .methodref 26 54), (0, .nameAndType 55 38), (0, u "page"), (2, u "law"), (0, u "(IIIIII)Z")] 3

def k1m0 : Method := { name := "<init>", desc := "()V", sig := { parameters := [], returnType := none }, accessFlags := 1, code := none }
def k1c1 : Code := { maxStack := 3, maxLocals := 1, code := method_2_code, exceptionTable := #[], attributes := #[] }
def k1m1 : Method := { name := "ch", desc := "(I)C", sig := { parameters := [.int], returnType := some .char }, accessFlags := 10, code := some k1c1 }
def k1c2 : Code := { maxStack := 6, maxLocals := 14, code := code, exceptionTable := #[], attributes := #[] }
def k1m2 : Method := { name := "law", desc := "(IIIIII)Z", sig := { parameters := [.int, .int, .int, .int, .int, .int], returnType := some .boolean }, accessFlags := 9, code := some k1c2 }
/-- com/example/uni_mvc/unimvc/core/ResultCreatedPinLaw -/
def k1 : Class := { plain "com/example/uni_mvc/unimvc/core/ResultCreatedPinLaw" (some 0) with
  accessFlags := 49
  interfaces := #[]
  cf := some (fileOf pool1 9 #[] #[{ accessFlags := 1, nameIndex := 5, descriptorIndex := 6, attributes := #[] }, { accessFlags := 10, nameIndex := 12, descriptorIndex := 13, attributes := #[] }, { accessFlags := 9, nameIndex := 58, descriptorIndex := 59, attributes := #[] }] 49 2 #[] #[])
  fields := #[]
  methods := #[k1m0, k1m1, k1m2]
  instanceTypes := #[]
  staticTypes := #[]
  resolved := Array.replicate 63 none
  statics := none }

def pool2 : Array CpInfo := pool [(1, .class_ 2), (0, u "java/io/Serializable"), (0, .class_ 4), (0, u "java/lang/Object")] 2

/-- java/io/Serializable -/
def k2 : Class := { plain "java/io/Serializable" (some 0) with
  accessFlags := 1537
  interfaces := #[]
  cf := some (fileOf pool2 1 #[] #[] 1537 3 #[] #[])
  fields := #[]
  methods := #[]
  instanceTypes := #[]
  staticTypes := #[]
  resolved := Array.replicate 7 none
  statics := none }

def pool3 : Array CpInfo := pool [(1, .class_ 2), (0, u "java/lang/Comparable"), (0, .class_ 4), (0, u "java/lang/Object")] 7

/-- java/lang/Comparable -/
def k3 : Class := { plain "java/lang/Comparable" (some 0) with
  accessFlags := 1537
  interfaces := #[]
  cf := some (fileOf pool3 1 #[] #[] 1537 3 #[] #[])
  fields := #[]
  methods := #[]
  instanceTypes := #[]
  staticTypes := #[]
  resolved := Array.replicate 12 none
  statics := none }

def pool4 : Array CpInfo := pool [(2, .class_ 4), (1, u "java/lang/CharSequence"), (42, .class_ 48), (0, u "java/lang/CharSequence$1CodePointIterator"), (10, .class_ 60), (0, u "java/lang/CharSequence$1CharIterator"), (5, .class_ 67), (0, u "java/lang/Object")] 63

/-- java/lang/CharSequence -/
def k4 : Class := { plain "java/lang/CharSequence" (some 0) with
  accessFlags := 1537
  interfaces := #[]
  cf := some (fileOf pool4 2 #[.nestMembers #[47, 59]] #[] 1537 66 #[] #[])
  fields := #[]
  methods := #[]
  instanceTypes := #[]
  staticTypes := #[]
  resolved := Array.replicate 131 none
  statics := none }

def pool5 : Array CpInfo := pool [(1, .class_ 2), (0, u "java/lang/constant/Constable"), (0, .class_ 4), (0, u "java/lang/Object")] 6

/-- java/lang/constant/Constable -/
def k5 : Class := { plain "java/lang/constant/Constable" (some 0) with
  accessFlags := 1537
  interfaces := #[]
  cf := some (fileOf pool5 1 #[] #[] 1537 3 #[] #[])
  fields := #[]
  methods := #[]
  instanceTypes := #[]
  staticTypes := #[]
  resolved := Array.replicate 11 none
  statics := none }

def pool6 : Array CpInfo := pool [(1, .class_ 2), (0, u "java/lang/constant/ConstantDesc"), (0, .class_ 4), (0, u "java/lang/Object")] 32

/-- java/lang/constant/ConstantDesc -/
def k6 : Class := { plain "java/lang/constant/ConstantDesc" (some 0) with
  accessFlags := 1537
  interfaces := #[]
  cf := some (fileOf pool6 1 #[] #[] 1537 3 #[] #[])
  fields := #[]
  methods := #[]
  instanceTypes := #[]
  staticTypes := #[]
  resolved := Array.replicate 37 none
  statics := none }

def pool7 : Array CpInfo := pool [(1, .methodref 2 3), (0, .class_ 4), (0, .nameAndType 5 6), (0, u "java/lang/Object"), (0, u "<init>"), (0, u "()V"), (2, .fieldref 10 11), (0, .class_ 12), (0, .nameAndType 13 14), (0, u "java/lang/String"), (0, u "value"), (0, u "[B"), (0, .fieldref 10 16), (0, .nameAndType 17 18), (0, u "coder"), (0, u "B"), (2, u "hash"), (0, u "I"), (2, u "hashIsZero"), (0, u "Z"), (0, .methodref 10 28), (0, .nameAndType 5 29), (0, u "([CIILjava/lang/Void;)V"), (8, .fieldref 10 39), (0, .nameAndType 40 26), (0, u "COMPACT_STRINGS"), (1, .class_ 44), (1, u "java/lang/StringUTF16"), (0, u "compress"), (1, .methodref 42 48), (0, .nameAndType 49 50), (0, u "coderFromArrayLen"), (0, u "([BI)B"), (56, .class_ 109), (1, u "java/lang/StringLatin1"), (32, u "()Z"), (34, .methodref 42 178), (0, .nameAndType 45 179), (0, u "([CII)[B"), (154, u "()I"), (0, .methodref 10 336), (0, .nameAndType 17 337), (0, u "()B"), (25, u "([BI)C"), (27, u "(II)V"), (35, u "(I)C"), (64, .methodref 10 493), (0, .nameAndType 494 142), (0, u "isLatin1"), (0, .methodref 107 496), (0, .nameAndType 497 363), (0, u "charAt"), (3, u "checkIndex"), (5, u "length"), (35, u "equals"), (29, u "(Ljava/lang/Object;)Z"), (1, .class_ 576), (0, u "java/lang/CharSequence"), (22, u "CASE_INSENSITIVE_ORDER"), (0, u "Ljava/util/Comparator;"), (91, u "isEmpty"), (317, u "([C)V"), (42, .fieldref 1054 1055), (0, .class_ 1056), (0, .nameAndType 1057 1058), (0, u "jdk/internal/util/Preconditions"), (0, u "SIOOBE_FORMATTER"), (0, u "Ljava/util/function/BiFunction;"), (0, .methodref 1054 1060), (0, .nameAndType 501 1061), (0, u "(IILjava/util/function/BiFunction;)I"), (39, u "serialPersistentFields"), (0, u "[Ljava/io/ObjectStreamField;"), (0, .class_ 1104), (0, u "java/lang/String$CaseInsensitiveComparator"), (1, .class_ 1107), (0, u "java/io/Serializable"), (0, .class_ 1109), (0, u "java/lang/Comparable"), (0, .class_ 1111), (0, u "java/lang/constant/Constable"), (0, .class_ 1113), (0, u "java/lang/constant/ConstantDesc"), (2, u "serialVersionUID"), (0, u "J"), (3, u "REPL"), (0, u "C"), (2, u "LATIN1"), (1, u "UTF16")] 323

def k7m0 : Method := { name := "<init>", desc := "()V", sig := { parameters := [], returnType := none }, accessFlags := 1, code := none }
def k7c1 : Code := { maxStack := 5, maxLocals := 2, code := jdk_42_method_3_code, exceptionTable := #[], attributes := #[] }
def k7m1 : Method := { name := "<init>", desc := "([C)V", sig := { parameters := [(.array .char)], returnType := none }, accessFlags := 1, code := some k7c1 }
def k7c2 : Code := { maxStack := 2, maxLocals := 1, code := jdk_42_method_54_code, exceptionTable := #[], attributes := #[] }
def k7m2 : Method := { name := "length", desc := "()I", sig := { parameters := [], returnType := some .int }, accessFlags := 1, code := some k7c2 }
def k7c3 : Code := { maxStack := 1, maxLocals := 1, code := jdk_42_method_55_code, exceptionTable := #[], attributes := #[] }
def k7m3 : Method := { name := "isEmpty", desc := "()Z", sig := { parameters := [], returnType := some .boolean }, accessFlags := 1, code := some k7c3 }
def k7c4 : Code := { maxStack := 2, maxLocals := 2, code := jdk_42_method_56_code, exceptionTable := #[], attributes := #[] }
def k7m4 : Method := { name := "charAt", desc := "(I)C", sig := { parameters := [.int], returnType := some .char }, accessFlags := 1, code := some k7c4 }
def k7c5 : Code := { maxStack := 2, maxLocals := 3, code := jdk_42_method_66_code, exceptionTable := #[], attributes := #[] }
def k7m5 : Method := { name := "equals", desc := "(Ljava/lang/Object;)Z", sig := { parameters := [(.object "java/lang/Object")], returnType := some .boolean }, accessFlags := 1, code := some k7c5 }
def k7c6 : Code := { maxStack := 4, maxLocals := 6, code := jdk_42_method_149_code, exceptionTable := #[], attributes := #[] }
def k7m6 : Method := { name := "<init>", desc := "([CIILjava/lang/Void;)V", sig := { parameters := [(.array .char), .int, .int, (.object "java/lang/Void")], returnType := none }, accessFlags := 2, code := some k7c6 }
def k7c7 : Code := { maxStack := 1, maxLocals := 1, code := jdk_42_method_152_code, exceptionTable := #[], attributes := #[] }
def k7m7 : Method := { name := "coder", desc := "()B", sig := { parameters := [], returnType := some .byte }, accessFlags := 0, code := some k7c7 }
def k7c8 : Code := { maxStack := 1, maxLocals := 1, code := jdk_42_method_154_code, exceptionTable := #[], attributes := #[] }
def k7m8 : Method := { name := "isLatin1", desc := "()Z", sig := { parameters := [], returnType := some .boolean }, accessFlags := 0, code := some k7c8 }
def k7c9 : Code := { maxStack := 3, maxLocals := 2, code := jdk_42_method_155_code, exceptionTable := #[], attributes := #[] }
def k7m9 : Method := { name := "checkIndex", desc := "(II)V", sig := { parameters := [.int, .int], returnType := none }, accessFlags := 8, code := some k7c9 }
/-- java/lang/String -/
def k7 : Class := { plain "java/lang/String" (some 0) with
  accessFlags := 49
  interfaces := #[2, 3, 4, 5, 6]
  cf := some (fileOf pool7 10 #[.nestMembers #[1103]] #[{ accessFlags := 1, nameIndex := 5, descriptorIndex := 6, attributes := #[] }, { accessFlags := 1, nameIndex := 5, descriptorIndex := 1010, attributes := #[] }, { accessFlags := 1, nameIndex := 507, descriptorIndex := 334, attributes := #[] }, { accessFlags := 1, nameIndex := 692, descriptorIndex := 142, attributes := #[] }, { accessFlags := 1, nameIndex := 497, descriptorIndex := 427, attributes := #[] }, { accessFlags := 1, nameIndex := 543, descriptorIndex := 573, attributes := #[] }, { accessFlags := 2, nameIndex := 5, descriptorIndex := 29, attributes := #[] }, { accessFlags := 0, nameIndex := 17, descriptorIndex := 337, attributes := #[] }, { accessFlags := 0, nameIndex := 494, descriptorIndex := 142, attributes := #[] }, { accessFlags := 8, nameIndex := 501, descriptorIndex := 391, attributes := #[] }] 49 2 #[1106, 1108, 575, 1110, 1112] #[{ accessFlags := 18, nameIndex := 13, descriptorIndex := 14, attributes := #[] }, { accessFlags := 18, nameIndex := 17, descriptorIndex := 18, attributes := #[] }, { accessFlags := 2, nameIndex := 21, descriptorIndex := 22, attributes := #[] }, { accessFlags := 2, nameIndex := 25, descriptorIndex := 26, attributes := #[] }, { accessFlags := 26, nameIndex := 1116, descriptorIndex := 1117, attributes := #[] }, { accessFlags := 24, nameIndex := 40, descriptorIndex := 26, attributes := #[] }, { accessFlags := 26, nameIndex := 1101, descriptorIndex := 1102, attributes := #[] }, { accessFlags := 26, nameIndex := 1121, descriptorIndex := 1122, attributes := #[] }, { accessFlags := 25, nameIndex := 599, descriptorIndex := 600, attributes := #[] }, { accessFlags := 24, nameIndex := 1125, descriptorIndex := 18, attributes := #[] }, { accessFlags := 24, nameIndex := 1127, descriptorIndex := 18, attributes := #[] }])
  fields := #[{ name := "value", type := (.array .byte), accessFlags := 18, slot := 0, constantValue := 0 }, { name := "coder", type := .byte, accessFlags := 18, slot := 1, constantValue := 0 }, { name := "hash", type := .int, accessFlags := 2, slot := 2, constantValue := 0 }, { name := "hashIsZero", type := .boolean, accessFlags := 2, slot := 3, constantValue := 0 }, { name := "serialVersionUID", type := .long, accessFlags := 26, slot := 0, constantValue := 0 }, { name := "COMPACT_STRINGS", type := .boolean, accessFlags := 24, slot := 1, constantValue := 0 }, { name := "serialPersistentFields", type := (.array (.object "java/io/ObjectStreamField")), accessFlags := 26, slot := 2, constantValue := 0 }, { name := "REPL", type := .char, accessFlags := 26, slot := 3, constantValue := 0 }, { name := "CASE_INSENSITIVE_ORDER", type := (.object "java/util/Comparator"), accessFlags := 25, slot := 4, constantValue := 0 }, { name := "LATIN1", type := .byte, accessFlags := 24, slot := 5, constantValue := 0 }, { name := "UTF16", type := .byte, accessFlags := 24, slot := 6, constantValue := 0 }]
  methods := #[k7m0, k7m1, k7m2, k7m3, k7m4, k7m5, k7m6, k7m7, k7m8, k7m9]
  instanceTypes := #[(.array .byte), .byte, .int, .boolean]
  staticTypes := #[.long, .boolean, (.array (.object "java/io/ObjectStreamField")), .char, (.object "java/util/Comparator"), .byte, .byte]
  resolved := Array.replicate 1451 none
  statics := some 0 }

def pool8 : Array CpInfo := pool [(6, .class_ 8), (1, u "java/lang/Object"), (0, u "<init>"), (0, u "()V"), (1, .class_ 14), (1, u "java/lang/StringUTF16"), (31, u "$assertionsDisabled"), (0, u "Z"), (13, u "HI_BYTE_SHIFT"), (0, u "I"), (2, u "LO_BYTE_SHIFT"), (49, .methodref 12 116), (0, .nameAndType 117 118), (0, u "compress"), (0, u "([CI[BII)I"), (3, u "([CII)[B"), (138, u "coderFromArrayLen"), (0, u "([BI)B"), (106, .class_ 371), (1, u "java/lang/StringUTF16$LinesSpliterator"), (58, u "MAX_LENGTH"), (196, .class_ 628), (0, u "java/lang/StringUTF16$CodePointsSpliterator"), (0, .class_ 630), (0, u "java/lang/StringUTF16$CharsSpliterator")] 4

def k8m0 : Method := { name := "<init>", desc := "()V", sig := { parameters := [], returnType := none }, accessFlags := 0, code := none }
def k8c1 : Code := { maxStack := 2, maxLocals := 2, code := jdk_52_method_15_code, exceptionTable := #[], attributes := #[] }
def k8m1 : Method := { name := "coderFromArrayLen", desc := "([BI)B", sig := { parameters := [(.array .byte), .int], returnType := some .byte }, accessFlags := 8, code := some k8c1 }
def k8c2 : Code := { maxStack := 5, maxLocals := 6, code := jdk_52_method_16_code, exceptionTable := #[], attributes := #[] }
def k8m2 : Method := { name := "compress", desc := "([CII)[B", sig := { parameters := [(.array .char), .int, .int], returnType := some (.array .byte) }, accessFlags := 9, code := some k8c2 }
def k8c3 : Code := { maxStack := 3, maxLocals := 7, code := jdk_52_method_21_code, exceptionTable := #[], attributes := #[] }
def k8m3 : Method := { name := "compress", desc := "([CI[BII)I", sig := { parameters := [(.array .char), .int, (.array .byte), .int, .int], returnType := some .int }, accessFlags := 9, code := some k8c3 }
/-- java/lang/StringUTF16 -/
def k8 : Class := { plain "java/lang/StringUTF16" (some 0) with
  accessFlags := 48
  interfaces := #[]
  cf := some (fileOf pool8 12 #[.nestMembers #[627, 629, 369]] #[{ accessFlags := 0, nameIndex := 9, descriptorIndex := 10, attributes := #[] }, { accessFlags := 8, nameIndex := 261, descriptorIndex := 262, attributes := #[] }, { accessFlags := 9, nameIndex := 117, descriptorIndex := 122, attributes := #[] }, { accessFlags := 9, nameIndex := 117, descriptorIndex := 118, attributes := #[] }] 48 6 #[] #[{ accessFlags := 26, nameIndex := 61, descriptorIndex := 62, attributes := #[] }, { accessFlags := 26, nameIndex := 65, descriptorIndex := 62, attributes := #[] }, { accessFlags := 24, nameIndex := 430, descriptorIndex := 62, attributes := #[] }, { accessFlags := 4120, nameIndex := 46, descriptorIndex := 47, attributes := #[] }])
  fields := #[{ name := "HI_BYTE_SHIFT", type := .int, accessFlags := 26, slot := 0, constantValue := 0 }, { name := "LO_BYTE_SHIFT", type := .int, accessFlags := 26, slot := 1, constantValue := 0 }, { name := "MAX_LENGTH", type := .int, accessFlags := 24, slot := 2, constantValue := 0 }, { name := "$assertionsDisabled", type := .boolean, accessFlags := 4120, slot := 3, constantValue := 0 }]
  methods := #[k8m0, k8m1, k8m2, k8m3]
  instanceTypes := #[]
  staticTypes := #[.int, .int, .int, .boolean]
  resolved := Array.replicate 635 none
  statics := none }

def pool9 : Array CpInfo := pool [(1, .methodref 2 3), (0, .class_ 4), (0, .nameAndType 5 6), (0, u "java/lang/Object"), (0, u "<init>"), (0, u "()V"), (1, .class_ 10), (1, u "java/lang/Number"), (2, .class_ 14), (0, u "java/io/Serializable"), (0, u "serialVersionUID"), (0, u "J")] 20

def k9c0 : Code := { maxStack := 1, maxLocals := 1, code := jdk_18_method_1_code, exceptionTable := #[], attributes := #[] }
def k9m0 : Method := { name := "<init>", desc := "()V", sig := { parameters := [], returnType := none }, accessFlags := 1, code := some k9c0 }
/-- java/lang/Number -/
def k9 : Class := { plain "java/lang/Number" (some 0) with
  accessFlags := 1057
  interfaces := #[2]
  cf := some (fileOf pool9 8 #[] #[{ accessFlags := 1, nameIndex := 5, descriptorIndex := 6, attributes := #[] }] 1057 2 #[13] #[{ accessFlags := 26, nameIndex := 15, descriptorIndex := 16, attributes := #[] }])
  fields := #[{ name := "serialVersionUID", type := .long, accessFlags := 26, slot := 0, constantValue := 0 }]
  methods := #[k9m0]
  instanceTypes := #[]
  staticTypes := #[.long]
  resolved := Array.replicate 37 none
  statics := none }

def pool10 : Array CpInfo := pool [(1, .class_ 2), (0, u "java/lang/Integer"), (16, u "digits"), (0, u "[C"), (46, u "<init>"), (17, u "DigitOnes"), (0, u "[B"), (2, u "DigitTens"), (10, .nameAndType 67 101), (0, u "()V"), (85, u "valueOf"), (0, u "(I)Ljava/lang/Integer;"), (0, .class_ 190), (0, u "java/lang/Integer$IntegerCache"), (0, .fieldref 189 192), (0, .nameAndType 193 194), (0, u "high"), (0, u "I"), (0, .fieldref 189 196), (0, .nameAndType 197 198), (0, u "cache"), (0, u "[Ljava/lang/Integer;"), (0, .methodref 1 200), (0, .nameAndType 67 201), (0, u "(I)V"), (0, .methodref 203 100), (0, .class_ 204), (0, u "java/lang/Number"), (0, .fieldref 1 206), (0, .nameAndType 207 194), (0, u "value"), (94, u "TYPE"), (0, u "Ljava/lang/Class;"), (0, .class_ 305), (0, u "java/lang/Comparable"), (0, .class_ 307), (0, u "java/lang/constant/Constable"), (0, .class_ 309), (0, u "java/lang/constant/ConstantDesc"), (0, u "MIN_VALUE"), (1, u "MAX_VALUE"), (3, u "SIZE"), (1, u "BYTES"), (1, u "serialVersionUID"), (0, u "J")] 131

def k10c0 : Code := { maxStack := 3, maxLocals := 1, code := jdk_33_method_22_code, exceptionTable := #[], attributes := #[] }
def k10m0 : Method := { name := "valueOf", desc := "(I)Ljava/lang/Integer;", sig := { parameters := [.int], returnType := some (.object "java/lang/Integer") }, accessFlags := 9, code := some k10c0 }
def k10c1 : Code := { maxStack := 2, maxLocals := 2, code := jdk_33_method_23_code, exceptionTable := #[], attributes := #[] }
def k10m1 : Method := { name := "<init>", desc := "(I)V", sig := { parameters := [.int], returnType := none }, accessFlags := 1, code := some k10c1 }
/-- java/lang/Integer -/
def k10 : Class := { plain "java/lang/Integer" (some 9) with
  accessFlags := 49
  interfaces := #[3, 5, 6]
  cf := some (fileOf pool10 1 #[.nestMembers #[189]] #[{ accessFlags := 9, nameIndex := 187, descriptorIndex := 188, attributes := #[] }, { accessFlags := 1, nameIndex := 67, descriptorIndex := 201, attributes := #[] }] 49 203 #[304, 306, 308] #[{ accessFlags := 25, nameIndex := 310, descriptorIndex := 194, attributes := #[] }, { accessFlags := 25, nameIndex := 312, descriptorIndex := 194, attributes := #[] }, { accessFlags := 25, nameIndex := 302, descriptorIndex := 303, attributes := #[] }, { accessFlags := 24, nameIndex := 19, descriptorIndex := 20, attributes := #[] }, { accessFlags := 24, nameIndex := 89, descriptorIndex := 86, attributes := #[] }, { accessFlags := 24, nameIndex := 85, descriptorIndex := 86, attributes := #[] }, { accessFlags := 18, nameIndex := 207, descriptorIndex := 194, attributes := #[] }, { accessFlags := 25, nameIndex := 316, descriptorIndex := 194, attributes := #[] }, { accessFlags := 25, nameIndex := 318, descriptorIndex := 194, attributes := #[] }, { accessFlags := 26, nameIndex := 320, descriptorIndex := 321, attributes := #[] }])
  fields := #[{ name := "MIN_VALUE", type := .int, accessFlags := 25, slot := 0, constantValue := 0 }, { name := "MAX_VALUE", type := .int, accessFlags := 25, slot := 1, constantValue := 0 }, { name := "TYPE", type := (.object "java/lang/Class"), accessFlags := 25, slot := 2, constantValue := 0 }, { name := "digits", type := (.array .char), accessFlags := 24, slot := 3, constantValue := 0 }, { name := "DigitTens", type := (.array .byte), accessFlags := 24, slot := 4, constantValue := 0 }, { name := "DigitOnes", type := (.array .byte), accessFlags := 24, slot := 5, constantValue := 0 }, { name := "value", type := .int, accessFlags := 18, slot := 0, constantValue := 0 }, { name := "SIZE", type := .int, accessFlags := 25, slot := 6, constantValue := 0 }, { name := "BYTES", type := .int, accessFlags := 25, slot := 7, constantValue := 0 }, { name := "serialVersionUID", type := .long, accessFlags := 26, slot := 8, constantValue := 0 }]
  methods := #[k10m0, k10m1]
  instanceTypes := #[.int]
  staticTypes := #[.int, .int, (.object "java/lang/Class"), (.array .char), (.array .byte), (.array .byte), .int, .int, .long]
  resolved := Array.replicate 453 none
  statics := none }

def pool11 : Array CpInfo := pool [(2, .class_ 4), (1, u "java/lang/Object"), (0, u "<init>"), (0, u "()V"), (0, .class_ 8), (0, u "java/lang/Integer"), (7, .class_ 18), (1, u "java/lang/Integer$IntegerCache"), (0, u "$assertionsDisabled"), (0, u "Z"), (26, u "high"), (0, u "I"), (8, u "archivedCache"), (0, u "[Ljava/lang/Integer;"), (12, u "cache"), (0, u "low")] 27

def k11m0 : Method := { name := "<init>", desc := "()V", sig := { parameters := [], returnType := none }, accessFlags := 2, code := none }
/-- java/lang/Integer$IntegerCache -/
def k11 : Class := { plain "java/lang/Integer$IntegerCache" (some 0) with
  accessFlags := 48
  interfaces := #[]
  cf := some (fileOf pool11 16 #[.nestHost 7] #[{ accessFlags := 2, nameIndex := 5, descriptorIndex := 6, attributes := #[] }] 48 2 #[] #[{ accessFlags := 24, nameIndex := 72, descriptorIndex := 48, attributes := #[] }, { accessFlags := 24, nameIndex := 47, descriptorIndex := 48, attributes := #[] }, { accessFlags := 24, nameIndex := 71, descriptorIndex := 58, attributes := #[] }, { accessFlags := 8, nameIndex := 57, descriptorIndex := 58, attributes := #[] }, { accessFlags := 4120, nameIndex := 19, descriptorIndex := 20, attributes := #[] }])
  fields := #[{ name := "low", type := .int, accessFlags := 24, slot := 0, constantValue := 0 }, { name := "high", type := .int, accessFlags := 24, slot := 1, constantValue := 0 }, { name := "cache", type := (.array (.object "java/lang/Integer")), accessFlags := 24, slot := 2, constantValue := 0 }, { name := "archivedCache", type := (.array (.object "java/lang/Integer")), accessFlags := 8, slot := 3, constantValue := 0 }, { name := "$assertionsDisabled", type := .boolean, accessFlags := 4120, slot := 4, constantValue := 0 }]
  methods := #[k11m0]
  instanceTypes := #[]
  staticTypes := #[.int, .int, (.array (.object "java/lang/Integer")), (.array (.object "java/lang/Integer")), .boolean]
  resolved := Array.replicate 100 none
  statics := some 1 }

def pool12 : Array CpInfo := pool [(1, .methodref 2 3), (0, .class_ 4), (0, .nameAndType 5 6), (0, u "java/lang/Object"), (0, u "<init>"), (0, u "()V"), (0, .fieldref 8 9), (0, .class_ 10), (0, .nameAndType 11 12), (0, u "com/example/uni_mvc/unimvc/core/Result"), (0, u "status"), (0, u "I"), (0, .fieldref 8 14), (0, .nameAndType 15 16), (0, u "location"), (0, u "Ljava/lang/String;"), (0, .fieldref 8 18), (0, .nameAndType 19 20), (0, u "page"), (0, u "Ljava/lang/Object;"), (0, .methodref 8 22), (0, .nameAndType 23 24), (0, u "checked"), (0, u "(Ljava/lang/String;)Ljava/lang/String;"), (0, .methodref 8 26), (0, .nameAndType 5 27), (0, u "(ILjava/lang/String;Ljava/lang/Object;)V"), (0, .string 19), (0, .methodref 30 31), (0, .class_ 32), (0, .nameAndType 33 34), (0, u "java/util/Objects"), (0, u "requireNonNull"), (0, u "(Ljava/lang/Object;Ljava/lang/String;)Ljava/lang/Object;"), (0, .string 15), (0, .methodref 37 38), (0, .class_ 39), (0, .nameAndType 40 41), (0, u "java/lang/String"), (0, u "isEmpty"), (0, u "()Z"), (7, .methodref 37 50), (0, .nameAndType 51 52), (0, u "length"), (0, u "()I"), (0, .methodref 37 54), (0, .nameAndType 55 56), (0, u "charAt"), (0, u "(I)C"), (6, u "NO_CONTENT"), (0, u "Lcom/example/uni_mvc/unimvc/core/Result;"), (0, .methodref 66 67), (0, .class_ 68), (0, .nameAndType 69 70), (0, u "java/util/Optional"), (0, u "ofNullable"), (0, u "(Ljava/lang/Object;)Ljava/util/Optional;"), (2, u "created"), (1, u "(Ljava/lang/String;Ljava/lang/Object;)Lcom/example/uni_mvc/unimvc/core/Result;"), (4, u "()Ljava/util/Optional;")] 21

def k12c0 : Code := { maxStack := 2, maxLocals := 4, code := prog_31_method_1_code, exceptionTable := #[], attributes := #[] }
def k12m0 : Method := { name := "<init>", desc := "(ILjava/lang/String;Ljava/lang/Object;)V", sig := { parameters := [.int, (.object "java/lang/String"), (.object "java/lang/Object")], returnType := none }, accessFlags := 2, code := some k12c0 }
def k12c1 : Code := { maxStack := 6, maxLocals := 2, code := prog_31_method_3_code, exceptionTable := #[], attributes := #[] }
def k12m1 : Method := { name := "created", desc := "(Ljava/lang/String;Ljava/lang/Object;)Lcom/example/uni_mvc/unimvc/core/Result;", sig := { parameters := [(.object "java/lang/String"), (.object "java/lang/Object")], returnType := some (.object "com/example/uni_mvc/unimvc/core/Result") }, accessFlags := 9, code := some k12c1 }
def k12c2 : Code := { maxStack := 4, maxLocals := 3, code := prog_31_method_4_code, exceptionTable := #[], attributes := #[] }
def k12m2 : Method := { name := "checked", desc := "(Ljava/lang/String;)Ljava/lang/String;", sig := { parameters := [(.object "java/lang/String")], returnType := some (.object "java/lang/String") }, accessFlags := 10, code := some k12c2 }
def k12c3 : Code := { maxStack := 1, maxLocals := 1, code := prog_31_method_7_code, exceptionTable := #[], attributes := #[] }
def k12m3 : Method := { name := "status", desc := "()I", sig := { parameters := [], returnType := some .int }, accessFlags := 1, code := some k12c3 }
def k12c4 : Code := { maxStack := 1, maxLocals := 1, code := prog_31_method_8_code, exceptionTable := #[], attributes := #[] }
def k12m4 : Method := { name := "location", desc := "()Ljava/util/Optional;", sig := { parameters := [], returnType := some (.object "java/util/Optional") }, accessFlags := 1, code := some k12c4 }
def k12c5 : Code := { maxStack := 1, maxLocals := 1, code := prog_31_method_9_code, exceptionTable := #[], attributes := #[] }
def k12m5 : Method := { name := "page", desc := "()Ljava/util/Optional;", sig := { parameters := [], returnType := some (.object "java/util/Optional") }, accessFlags := 1, code := some k12c5 }
/-- com/example/uni_mvc/unimvc/core/Result -/
def k12 : Class := { plain "com/example/uni_mvc/unimvc/core/Result" (some 0) with
  accessFlags := 33
  interfaces := #[]
  cf := some (fileOf pool12 8 #[] #[{ accessFlags := 2, nameIndex := 5, descriptorIndex := 27, attributes := #[] }, { accessFlags := 9, nameIndex := 73, descriptorIndex := 75, attributes := #[] }, { accessFlags := 10, nameIndex := 23, descriptorIndex := 24, attributes := #[] }, { accessFlags := 1, nameIndex := 11, descriptorIndex := 52, attributes := #[] }, { accessFlags := 1, nameIndex := 15, descriptorIndex := 80, attributes := #[] }, { accessFlags := 1, nameIndex := 19, descriptorIndex := 80, attributes := #[] }] 33 2 #[] #[{ accessFlags := 26, nameIndex := 63, descriptorIndex := 64, attributes := #[] }, { accessFlags := 18, nameIndex := 11, descriptorIndex := 12, attributes := #[] }, { accessFlags := 18, nameIndex := 15, descriptorIndex := 16, attributes := #[] }, { accessFlags := 18, nameIndex := 19, descriptorIndex := 20, attributes := #[] }])
  fields := #[{ name := "NO_CONTENT", type := (.object "com/example/uni_mvc/unimvc/core/Result"), accessFlags := 26, slot := 0, constantValue := 0 }, { name := "status", type := .int, accessFlags := 18, slot := 0, constantValue := 0 }, { name := "location", type := (.object "java/lang/String"), accessFlags := 18, slot := 1, constantValue := 0 }, { name := "page", type := (.object "java/lang/Object"), accessFlags := 18, slot := 2, constantValue := 0 }]
  methods := #[k12m0, k12m1, k12m2, k12m3, k12m4, k12m5]
  instanceTypes := #[.int, (.object "java/lang/String"), (.object "java/lang/Object")]
  staticTypes := #[(.object "com/example/uni_mvc/unimvc/core/Result")]
  resolved := Array.replicate 102 none
  statics := none }

def pool13 : Array CpInfo := pool [(2, .class_ 4), (1, u "java/lang/Object"), (0, u "<init>"), (0, u "()V"), (35, .class_ 44), (1, u "java/util/Objects"), (0, u "requireNonNull"), (48, u "(Ljava/lang/Object;Ljava/lang/String;)Ljava/lang/Object;")] 89

def k13m0 : Method := { name := "<init>", desc := "()V", sig := { parameters := [], returnType := none }, accessFlags := 2, code := none }
def k13c1 : Code := { maxStack := 3, maxLocals := 2, code := jdk_31_method_11_code, exceptionTable := #[], attributes := #[] }
def k13m1 : Method := { name := "requireNonNull", desc := "(Ljava/lang/Object;Ljava/lang/String;)Ljava/lang/Object;", sig := { parameters := [(.object "java/lang/Object"), (.object "java/lang/String")], returnType := some (.object "java/lang/Object") }, accessFlags := 9, code := some k13c1 }
/-- java/util/Objects -/
def k13 : Class := { plain "java/util/Objects" (some 0) with
  accessFlags := 49
  interfaces := #[]
  cf := some (fileOf pool13 42 #[] #[{ accessFlags := 2, nameIndex := 5, descriptorIndex := 6, attributes := #[] }, { accessFlags := 9, nameIndex := 45, descriptorIndex := 94, attributes := #[] }] 49 2 #[] #[])
  fields := #[]
  methods := #[k13m0, k13m1]
  instanceTypes := #[]
  staticTypes := #[]
  resolved := Array.replicate 184 none
  statics := none }

def pool14 : Array CpInfo := pool [(1, .class_ 2), (0, u "java/lang/String"), (1, .class_ 6), (1, u "java/lang/Object"), (0, u "<init>"), (0, u "()V"), (0, .methodref 1 10), (0, .nameAndType 11 12), (0, u "checkIndex"), (0, u "(II)V"), (1, .class_ 16), (1, u "java/lang/StringLatin1"), (36, u "([BI)C"), (67, u "$assertionsDisabled"), (0, u "Z"), (98, .class_ 223), (1, u "java/lang/StringLatin1$LinesSpliterator"), (28, u "charAt"), (137, .class_ 391), (0, u "java/lang/StringLatin1$CharsSpliterator")] 3

def k14m0 : Method := { name := "<init>", desc := "()V", sig := { parameters := [], returnType := none }, accessFlags := 0, code := none }
def k14c1 : Code := { maxStack := 2, maxLocals := 2, code := jdk_43_method_2_code, exceptionTable := #[], attributes := #[] }
def k14m1 : Method := { name := "charAt", desc := "([BI)C", sig := { parameters := [(.array .byte), .int], returnType := some .char }, accessFlags := 9, code := some k14c1 }
/-- java/lang/StringLatin1 -/
def k14 : Class := { plain "java/lang/StringLatin1" (some 0) with
  accessFlags := 48
  interfaces := #[]
  cf := some (fileOf pool14 14 #[.nestMembers #[390, 221]] #[{ accessFlags := 0, nameIndex := 7, descriptorIndex := 8, attributes := #[] }, { accessFlags := 9, nameIndex := 252, descriptorIndex := 53, attributes := #[] }] 48 4 #[] #[{ accessFlags := 4120, nameIndex := 121, descriptorIndex := 122, attributes := #[] }])
  fields := #[{ name := "$assertionsDisabled", type := .boolean, accessFlags := 4120, slot := 0, constantValue := 0 }]
  methods := #[k14m0, k14m1]
  instanceTypes := #[]
  staticTypes := #[.boolean]
  resolved := Array.replicate 395 none
  statics := none }

def pool15 : Array CpInfo := pool [(2, .class_ 4), (1, u "java/lang/Object"), (0, u "<init>"), (0, u "()V"), (17, .class_ 26), (1, u "jdk/internal/util/Preconditions"), (6, u "checkIndex"), (21, .class_ 56), (0, u "jdk/internal/util/Preconditions$4"), (57, .class_ 115), (0, u "jdk/internal/util/Preconditions$1"), (7, u "SIOOBE_FORMATTER"), (0, u "Ljava/util/function/BiFunction;"), (0, .class_ 126), (0, u "jdk/internal/util/Preconditions$2"), (3, u "AIOOBE_FORMATTER"), (0, .class_ 132), (0, u "jdk/internal/util/Preconditions$3"), (3, u "IOOBE_FORMATTER"), (41, u "(IILjava/util/function/BiFunction;)I")] 15

def k15m0 : Method := { name := "<init>", desc := "()V", sig := { parameters := [], returnType := none }, accessFlags := 1, code := none }
def k15c1 : Code := { maxStack := 3, maxLocals := 3, code := jdk_41_method_11_code, exceptionTable := #[], attributes := #[] }
def k15m1 : Method := { name := "checkIndex", desc := "(IILjava/util/function/BiFunction;)I", sig := { parameters := [.int, .int, (.object "java/util/function/BiFunction")], returnType := some .int }, accessFlags := 9, code := some k15c1 }
/-- jdk/internal/util/Preconditions -/
def k15 : Class := { plain "jdk/internal/util/Preconditions" (some 0) with
  accessFlags := 33
  interfaces := #[]
  cf := some (fileOf pool15 24 #[.nestMembers #[55, 131, 125, 114]] #[{ accessFlags := 1, nameIndex := 5, descriptorIndex := 6, attributes := #[] }, { accessFlags := 9, nameIndex := 33, descriptorIndex := 178, attributes := #[] }] 33 2 #[] #[{ accessFlags := 25, nameIndex := 123, descriptorIndex := 124, attributes := #[] }, { accessFlags := 25, nameIndex := 130, descriptorIndex := 124, attributes := #[] }, { accessFlags := 25, nameIndex := 136, descriptorIndex := 124, attributes := #[] }])
  fields := #[{ name := "SIOOBE_FORMATTER", type := (.object "java/util/function/BiFunction"), accessFlags := 25, slot := 0, constantValue := 0 }, { name := "AIOOBE_FORMATTER", type := (.object "java/util/function/BiFunction"), accessFlags := 25, slot := 1, constantValue := 0 }, { name := "IOOBE_FORMATTER", type := (.object "java/util/function/BiFunction"), accessFlags := 25, slot := 2, constantValue := 0 }]
  methods := #[k15m0, k15m1]
  instanceTypes := #[]
  staticTypes := #[(.object "java/util/function/BiFunction"), (.object "java/util/function/BiFunction"), (.object "java/util/function/BiFunction")]
  resolved := Array.replicate 194 none
  statics := some 2 }

def pool16 : Array CpInfo := pool [(2, .class_ 4), (1, u "java/util/Optional"), (0, u "EMPTY"), (0, u "Ljava/util/Optional;"), (0, .methodref 8 9), (0, .class_ 10), (0, .nameAndType 11 12), (0, u "java/lang/Object"), (0, u "<init>"), (0, u "()V"), (0, .fieldref 2 14), (0, .nameAndType 15 16), (0, u "value"), (0, u "Ljava/lang/Object;"), (6, .methodref 2 24), (0, .nameAndType 11 25), (0, u "(Ljava/lang/Object;)V"), (20, u "()Z"), (17, u "ofNullable"), (0, u "(Ljava/lang/Object;)Ljava/util/Optional;"), (2, u "isPresent"), (4, u "get"), (0, u "()Ljava/lang/Object;")] 112

def k16c0 : Code := { maxStack := 2, maxLocals := 2, code := jdk_32_method_2_code, exceptionTable := #[], attributes := #[] }
def k16m0 : Method := { name := "<init>", desc := "(Ljava/lang/Object;)V", sig := { parameters := [(.object "java/lang/Object")], returnType := none }, accessFlags := 2, code := some k16c0 }
def k16c1 : Code := { maxStack := 3, maxLocals := 1, code := jdk_32_method_4_code, exceptionTable := #[], attributes := #[] }
def k16m1 : Method := { name := "ofNullable", desc := "(Ljava/lang/Object;)Ljava/util/Optional;", sig := { parameters := [(.object "java/lang/Object")], returnType := some (.object "java/util/Optional") }, accessFlags := 9, code := some k16c1 }
def k16c2 : Code := { maxStack := 3, maxLocals := 1, code := jdk_32_method_5_code, exceptionTable := #[], attributes := #[] }
def k16m2 : Method := { name := "get", desc := "()Ljava/lang/Object;", sig := { parameters := [], returnType := some (.object "java/lang/Object") }, accessFlags := 1, code := some k16c2 }
def k16c3 : Code := { maxStack := 1, maxLocals := 1, code := jdk_32_method_6_code, exceptionTable := #[], attributes := #[] }
def k16m3 : Method := { name := "isPresent", desc := "()Z", sig := { parameters := [], returnType := some .boolean }, accessFlags := 1, code := some k16c3 }
/-- java/util/Optional -/
def k16 : Class := { plain "java/util/Optional" (some 0) with
  accessFlags := 49
  interfaces := #[]
  cf := some (fileOf pool16 2 #[] #[{ accessFlags := 2, nameIndex := 11, descriptorIndex := 25, attributes := #[] }, { accessFlags := 9, nameIndex := 64, descriptorIndex := 65, attributes := #[] }, { accessFlags := 1, nameIndex := 73, descriptorIndex := 74, attributes := #[] }, { accessFlags := 1, nameIndex := 68, descriptorIndex := 46, attributes := #[] }] 49 8 #[] #[{ accessFlags := 26, nameIndex := 5, descriptorIndex := 6, attributes := #[] }, { accessFlags := 18, nameIndex := 15, descriptorIndex := 16, attributes := #[] }])
  fields := #[{ name := "EMPTY", type := (.object "java/util/Optional"), accessFlags := 26, slot := 0, constantValue := 0 }, { name := "value", type := (.object "java/lang/Object"), accessFlags := 18, slot := 0, constantValue := 0 }]
  methods := #[k16m0, k16m1, k16m2, k16m3]
  instanceTypes := #[(.object "java/lang/Object")]
  staticTypes := #[(.object "java/util/Optional")]
  resolved := Array.replicate 187 none
  statics := none }

def pool17 : Array CpInfo := pool [(9, u "<init>"), (6, .class_ 18), (1, u "java/lang/Object"), (0, u "()V"), (1, .class_ 23), (1, u "jdk/internal/util/ArraysSupport"), (0, u "LOG2_ARRAY_LONG_INDEX_SCALE"), (0, u "I"), (2, u "U"), (0, u "Ljdk/internal/misc/Unsafe;"), (8, u "BIG_ENDIAN"), (0, u "Z"), (8, u "LOG2_BYTE_BIT_SIZE"), (4, u "LOG2_ARRAY_INT_INDEX_SCALE"), (54, u "JLA"), (0, u "Ljdk/internal/access/JavaLangAccess;"), (11, u "LOG2_ARRAY_BOOLEAN_INDEX_SCALE"), (9, u "LOG2_ARRAY_BYTE_INDEX_SCALE"), (5, u "LOG2_ARRAY_CHAR_INDEX_SCALE"), (5, u "LOG2_ARRAY_SHORT_INDEX_SCALE"), (18, u "LOG2_ARRAY_FLOAT_INDEX_SCALE"), (24, u "LOG2_ARRAY_DOUBLE_INDEX_SCALE"), (89, u "T_BOOLEAN"), (2, u "T_CHAR"), (1, u "T_FLOAT"), (1, u "T_DOUBLE"), (1, u "T_BYTE"), (1, u "T_SHORT"), (1, u "T_INT"), (1, u "T_LONG"), (1, u "SOFT_MAX_ARRAY_LENGTH")] 83

def k17m0 : Method := { name := "<init>", desc := "()V", sig := { parameters := [], returnType := none }, accessFlags := 2, code := none }
/-- jdk/internal/util/ArraysSupport -/
def k17 : Class := { plain "jdk/internal/util/ArraysSupport" (some 0) with
  accessFlags := 33
  interfaces := #[]
  cf := some (fileOf pool17 21 #[] #[{ accessFlags := 2, nameIndex := 9, descriptorIndex := 19, attributes := #[] }] 33 16 #[] #[{ accessFlags := 24, nameIndex := 28, descriptorIndex := 29, attributes := #[] }, { accessFlags := 26, nameIndex := 38, descriptorIndex := 39, attributes := #[] }, { accessFlags := 25, nameIndex := 121, descriptorIndex := 25, attributes := #[] }, { accessFlags := 25, nameIndex := 131, descriptorIndex := 25, attributes := #[] }, { accessFlags := 25, nameIndex := 137, descriptorIndex := 25, attributes := #[] }, { accessFlags := 25, nameIndex := 143, descriptorIndex := 25, attributes := #[] }, { accessFlags := 25, nameIndex := 53, descriptorIndex := 25, attributes := #[] }, { accessFlags := 25, nameIndex := 24, descriptorIndex := 25, attributes := #[] }, { accessFlags := 25, nameIndex := 162, descriptorIndex := 25, attributes := #[] }, { accessFlags := 25, nameIndex := 187, descriptorIndex := 25, attributes := #[] }, { accessFlags := 26, nameIndex := 48, descriptorIndex := 25, attributes := #[] }, { accessFlags := 25, nameIndex := 277, descriptorIndex := 25, attributes := #[] }, { accessFlags := 25, nameIndex := 280, descriptorIndex := 25, attributes := #[] }, { accessFlags := 25, nameIndex := 282, descriptorIndex := 25, attributes := #[] }, { accessFlags := 25, nameIndex := 284, descriptorIndex := 25, attributes := #[] }, { accessFlags := 25, nameIndex := 286, descriptorIndex := 25, attributes := #[] }, { accessFlags := 25, nameIndex := 288, descriptorIndex := 25, attributes := #[] }, { accessFlags := 25, nameIndex := 290, descriptorIndex := 25, attributes := #[] }, { accessFlags := 25, nameIndex := 292, descriptorIndex := 25, attributes := #[] }, { accessFlags := 26, nameIndex := 108, descriptorIndex := 109, attributes := #[] }, { accessFlags := 25, nameIndex := 294, descriptorIndex := 25, attributes := #[] }])
  fields := #[{ name := "U", type := (.object "jdk/internal/misc/Unsafe"), accessFlags := 24, slot := 0, constantValue := 0 }, { name := "BIG_ENDIAN", type := .boolean, accessFlags := 26, slot := 1, constantValue := 0 }, { name := "LOG2_ARRAY_BOOLEAN_INDEX_SCALE", type := .int, accessFlags := 25, slot := 2, constantValue := 0 }, { name := "LOG2_ARRAY_BYTE_INDEX_SCALE", type := .int, accessFlags := 25, slot := 3, constantValue := 0 }, { name := "LOG2_ARRAY_CHAR_INDEX_SCALE", type := .int, accessFlags := 25, slot := 4, constantValue := 0 }, { name := "LOG2_ARRAY_SHORT_INDEX_SCALE", type := .int, accessFlags := 25, slot := 5, constantValue := 0 }, { name := "LOG2_ARRAY_INT_INDEX_SCALE", type := .int, accessFlags := 25, slot := 6, constantValue := 0 }, { name := "LOG2_ARRAY_LONG_INDEX_SCALE", type := .int, accessFlags := 25, slot := 7, constantValue := 0 }, { name := "LOG2_ARRAY_FLOAT_INDEX_SCALE", type := .int, accessFlags := 25, slot := 8, constantValue := 0 }, { name := "LOG2_ARRAY_DOUBLE_INDEX_SCALE", type := .int, accessFlags := 25, slot := 9, constantValue := 0 }, { name := "LOG2_BYTE_BIT_SIZE", type := .int, accessFlags := 26, slot := 10, constantValue := 0 }, { name := "T_BOOLEAN", type := .int, accessFlags := 25, slot := 11, constantValue := 0 }, { name := "T_CHAR", type := .int, accessFlags := 25, slot := 12, constantValue := 0 }, { name := "T_FLOAT", type := .int, accessFlags := 25, slot := 13, constantValue := 0 }, { name := "T_DOUBLE", type := .int, accessFlags := 25, slot := 14, constantValue := 0 }, { name := "T_BYTE", type := .int, accessFlags := 25, slot := 15, constantValue := 0 }, { name := "T_SHORT", type := .int, accessFlags := 25, slot := 16, constantValue := 0 }, { name := "T_INT", type := .int, accessFlags := 25, slot := 17, constantValue := 0 }, { name := "T_LONG", type := .int, accessFlags := 25, slot := 18, constantValue := 0 }, { name := "JLA", type := (.object "jdk/internal/access/JavaLangAccess"), accessFlags := 26, slot := 19, constantValue := 0 }, { name := "SOFT_MAX_ARRAY_LENGTH", type := .int, accessFlags := 25, slot := 20, constantValue := 0 }]
  methods := #[k17m0]
  instanceTypes := #[]
  staticTypes := #[(.object "jdk/internal/misc/Unsafe"), .boolean, .int, .int, .int, .int, .int, .int, .int, .int, .int, .int, .int, .int, .int, .int, .int, .int, .int, (.object "jdk/internal/access/JavaLangAccess"), .int]
  resolved := Array.replicate 378 none
  statics := none }

def pool18 : Array CpInfo := pool [(1, u "java/lang/Cloneable"), (0, .class_ 1), (0, u "java/lang/Object"), (0, .class_ 3)] 3

/-- java/lang/Cloneable -/
def k18 : Class := { plain "java/lang/Cloneable" (some 0) with
  accessFlags := 1537
  interfaces := #[]
  cf := some (fileOf pool18 2 #[] #[] 1537 4 #[] #[])
  fields := #[]
  methods := #[]
  instanceTypes := #[]
  staticTypes := #[]
  resolved := Array.replicate 8 none
  statics := none }

/-- the primitive byte -/
def k19 : Class := { plain "byte" none with kind := .primitive 'B', accessFlags := 0x411 }
/-- [B -/
def k20 : Class := { plain "[B" (some 0) with kind := .array 19 .byte, interfaces := #[18, 2], accessFlags := 1041 }

/-- the primitive char -/
def k21 : Class := { plain "char" none with kind := .primitive 'C', accessFlags := 0x411 }
/-- [C -/
def k22 : Class := { plain "[C" (some 0) with kind := .array 21 .char, interfaces := #[18, 2], accessFlags := 1041 }

/-- the primitive int -/
def k23 : Class := { plain "int" none with kind := .primitive 'I', accessFlags := 0x411 }
/-- [I -/
def k24 : Class := { plain "[I" (some 0) with kind := .array 23 .int, interfaces := #[18, 2], accessFlags := 1041 }

/-- [Ljava/lang/Integer; -/
def k25 : Class := { plain "[Ljava/lang/Integer;" (some 0) with kind := .array 10 (.object "java/lang/Integer"), interfaces := #[18, 2], accessFlags := 1041 }

def heap : Heap := #[{ cls := 7, slots := #[.long 0, .int 1, .null, .int 0, .null, .int 0, .int 0], vm := .statics 7 },
  { cls := 11, slots := #[.int 0, .int 127, .ref 3, .null, .int 0], vm := .statics 11 },
  { cls := 15, slots := #[.null, .null, .null], vm := .statics 15 },
  { cls := 25, slots := #[.ref 4, .ref 5, .ref 6, .ref 7, .ref 8, .ref 9, .ref 10, .ref 11, .ref 12, .ref 13, .ref 14, .ref 15, .ref 16, .ref 17, .ref 18, .ref 19, .ref 20, .ref 21, .ref 22, .ref 23, .ref 24, .ref 25, .ref 26, .ref 27, .ref 28, .ref 29, .ref 30, .ref 31, .ref 32, .ref 33, .ref 34, .ref 35, .ref 36, .ref 37, .ref 38, .ref 39, .ref 40, .ref 41, .ref 42, .ref 43, .ref 44, .ref 45, .ref 46, .ref 47, .ref 48, .ref 49, .ref 50, .ref 51, .ref 52, .ref 53, .ref 54, .ref 55, .ref 56, .ref 57, .ref 58, .ref 59, .ref 60, .ref 61, .ref 62, .ref 63, .ref 64, .ref 65, .ref 66, .ref 67, .ref 68, .ref 69, .ref 70, .ref 71, .ref 72, .ref 73, .ref 74, .ref 75, .ref 76, .ref 77, .ref 78, .ref 79, .ref 80, .ref 81, .ref 82, .ref 83, .ref 84, .ref 85, .ref 86, .ref 87, .ref 88, .ref 89, .ref 90, .ref 91, .ref 92, .ref 93, .ref 94, .ref 95, .ref 96, .ref 97, .ref 98, .ref 99, .ref 100, .ref 101, .ref 102, .ref 103, .ref 104, .ref 105, .ref 106, .ref 107, .ref 108, .ref 109, .ref 110, .ref 111, .ref 112, .ref 113, .ref 114, .ref 115, .ref 116, .ref 117, .ref 118, .ref 119, .ref 120, .ref 121, .ref 122, .ref 123, .ref 124, .ref 125, .ref 126, .ref 127, .ref 128, .ref 129, .ref 130, .ref 131, .ref 132, .ref 133, .ref 134, .ref 135, .ref 136, .ref 137, .ref 138, .ref 139, .ref 140, .ref 141, .ref 142, .ref 143, .ref 144, .ref 145, .ref 146, .ref 147, .ref 148, .ref 149, .ref 150, .ref 151, .ref 152, .ref 153, .ref 154, .ref 155, .ref 156, .ref 157, .ref 158, .ref 159, .ref 160, .ref 161, .ref 162, .ref 163, .ref 164, .ref 165, .ref 166, .ref 167, .ref 168, .ref 169, .ref 170, .ref 171, .ref 172, .ref 173, .ref 174, .ref 175, .ref 176, .ref 177, .ref 178, .ref 179, .ref 180, .ref 181, .ref 182, .ref 183, .ref 184, .ref 185, .ref 186, .ref 187, .ref 188, .ref 189, .ref 190, .ref 191, .ref 192, .ref 193, .ref 194, .ref 195, .ref 196, .ref 197, .ref 198, .ref 199, .ref 200, .ref 201, .ref 202, .ref 203, .ref 204, .ref 205, .ref 206, .ref 207, .ref 208, .ref 209, .ref 210, .ref 211, .ref 212, .ref 213, .ref 214, .ref 215, .ref 216, .ref 217, .ref 218, .ref 219, .ref 220, .ref 221, .ref 222, .ref 223, .ref 224, .ref 225, .ref 226, .ref 227, .ref 228, .ref 229, .ref 230, .ref 231, .ref 232, .ref 233, .ref 234, .ref 235, .ref 236, .ref 237, .ref 238, .ref 239, .ref 240, .ref 241, .ref 242, .ref 243, .ref 244, .ref 245, .ref 246, .ref 247, .ref 248, .ref 249, .ref 250, .ref 251, .ref 252, .ref 253, .ref 254, .ref 255, .ref 256, .ref 257, .ref 258, .ref 259], vm := .none },
  { cls := 10, slots := #[.int (-128)], vm := .none },
  { cls := 10, slots := #[.int (-127)], vm := .none },
  { cls := 10, slots := #[.int (-126)], vm := .none },
  { cls := 10, slots := #[.int (-125)], vm := .none },
  { cls := 10, slots := #[.int (-124)], vm := .none },
  { cls := 10, slots := #[.int (-123)], vm := .none },
  { cls := 10, slots := #[.int (-122)], vm := .none },
  { cls := 10, slots := #[.int (-121)], vm := .none },
  { cls := 10, slots := #[.int (-120)], vm := .none },
  { cls := 10, slots := #[.int (-119)], vm := .none },
  { cls := 10, slots := #[.int (-118)], vm := .none },
  { cls := 10, slots := #[.int (-117)], vm := .none },
  { cls := 10, slots := #[.int (-116)], vm := .none },
  { cls := 10, slots := #[.int (-115)], vm := .none },
  { cls := 10, slots := #[.int (-114)], vm := .none },
  { cls := 10, slots := #[.int (-113)], vm := .none },
  { cls := 10, slots := #[.int (-112)], vm := .none },
  { cls := 10, slots := #[.int (-111)], vm := .none },
  { cls := 10, slots := #[.int (-110)], vm := .none },
  { cls := 10, slots := #[.int (-109)], vm := .none },
  { cls := 10, slots := #[.int (-108)], vm := .none },
  { cls := 10, slots := #[.int (-107)], vm := .none },
  { cls := 10, slots := #[.int (-106)], vm := .none },
  { cls := 10, slots := #[.int (-105)], vm := .none },
  { cls := 10, slots := #[.int (-104)], vm := .none },
  { cls := 10, slots := #[.int (-103)], vm := .none },
  { cls := 10, slots := #[.int (-102)], vm := .none },
  { cls := 10, slots := #[.int (-101)], vm := .none },
  { cls := 10, slots := #[.int (-100)], vm := .none },
  { cls := 10, slots := #[.int (-99)], vm := .none },
  { cls := 10, slots := #[.int (-98)], vm := .none },
  { cls := 10, slots := #[.int (-97)], vm := .none },
  { cls := 10, slots := #[.int (-96)], vm := .none },
  { cls := 10, slots := #[.int (-95)], vm := .none },
  { cls := 10, slots := #[.int (-94)], vm := .none },
  { cls := 10, slots := #[.int (-93)], vm := .none },
  { cls := 10, slots := #[.int (-92)], vm := .none },
  { cls := 10, slots := #[.int (-91)], vm := .none },
  { cls := 10, slots := #[.int (-90)], vm := .none },
  { cls := 10, slots := #[.int (-89)], vm := .none },
  { cls := 10, slots := #[.int (-88)], vm := .none },
  { cls := 10, slots := #[.int (-87)], vm := .none },
  { cls := 10, slots := #[.int (-86)], vm := .none },
  { cls := 10, slots := #[.int (-85)], vm := .none },
  { cls := 10, slots := #[.int (-84)], vm := .none },
  { cls := 10, slots := #[.int (-83)], vm := .none },
  { cls := 10, slots := #[.int (-82)], vm := .none },
  { cls := 10, slots := #[.int (-81)], vm := .none },
  { cls := 10, slots := #[.int (-80)], vm := .none },
  { cls := 10, slots := #[.int (-79)], vm := .none },
  { cls := 10, slots := #[.int (-78)], vm := .none },
  { cls := 10, slots := #[.int (-77)], vm := .none },
  { cls := 10, slots := #[.int (-76)], vm := .none },
  { cls := 10, slots := #[.int (-75)], vm := .none },
  { cls := 10, slots := #[.int (-74)], vm := .none },
  { cls := 10, slots := #[.int (-73)], vm := .none },
  { cls := 10, slots := #[.int (-72)], vm := .none },
  { cls := 10, slots := #[.int (-71)], vm := .none },
  { cls := 10, slots := #[.int (-70)], vm := .none },
  { cls := 10, slots := #[.int (-69)], vm := .none },
  { cls := 10, slots := #[.int (-68)], vm := .none },
  { cls := 10, slots := #[.int (-67)], vm := .none },
  { cls := 10, slots := #[.int (-66)], vm := .none },
  { cls := 10, slots := #[.int (-65)], vm := .none },
  { cls := 10, slots := #[.int (-64)], vm := .none },
  { cls := 10, slots := #[.int (-63)], vm := .none },
  { cls := 10, slots := #[.int (-62)], vm := .none },
  { cls := 10, slots := #[.int (-61)], vm := .none },
  { cls := 10, slots := #[.int (-60)], vm := .none },
  { cls := 10, slots := #[.int (-59)], vm := .none },
  { cls := 10, slots := #[.int (-58)], vm := .none },
  { cls := 10, slots := #[.int (-57)], vm := .none },
  { cls := 10, slots := #[.int (-56)], vm := .none },
  { cls := 10, slots := #[.int (-55)], vm := .none },
  { cls := 10, slots := #[.int (-54)], vm := .none },
  { cls := 10, slots := #[.int (-53)], vm := .none },
  { cls := 10, slots := #[.int (-52)], vm := .none },
  { cls := 10, slots := #[.int (-51)], vm := .none },
  { cls := 10, slots := #[.int (-50)], vm := .none },
  { cls := 10, slots := #[.int (-49)], vm := .none },
  { cls := 10, slots := #[.int (-48)], vm := .none },
  { cls := 10, slots := #[.int (-47)], vm := .none },
  { cls := 10, slots := #[.int (-46)], vm := .none },
  { cls := 10, slots := #[.int (-45)], vm := .none },
  { cls := 10, slots := #[.int (-44)], vm := .none },
  { cls := 10, slots := #[.int (-43)], vm := .none },
  { cls := 10, slots := #[.int (-42)], vm := .none },
  { cls := 10, slots := #[.int (-41)], vm := .none },
  { cls := 10, slots := #[.int (-40)], vm := .none },
  { cls := 10, slots := #[.int (-39)], vm := .none },
  { cls := 10, slots := #[.int (-38)], vm := .none },
  { cls := 10, slots := #[.int (-37)], vm := .none },
  { cls := 10, slots := #[.int (-36)], vm := .none },
  { cls := 10, slots := #[.int (-35)], vm := .none },
  { cls := 10, slots := #[.int (-34)], vm := .none },
  { cls := 10, slots := #[.int (-33)], vm := .none },
  { cls := 10, slots := #[.int (-32)], vm := .none },
  { cls := 10, slots := #[.int (-31)], vm := .none },
  { cls := 10, slots := #[.int (-30)], vm := .none },
  { cls := 10, slots := #[.int (-29)], vm := .none },
  { cls := 10, slots := #[.int (-28)], vm := .none },
  { cls := 10, slots := #[.int (-27)], vm := .none },
  { cls := 10, slots := #[.int (-26)], vm := .none },
  { cls := 10, slots := #[.int (-25)], vm := .none },
  { cls := 10, slots := #[.int (-24)], vm := .none },
  { cls := 10, slots := #[.int (-23)], vm := .none },
  { cls := 10, slots := #[.int (-22)], vm := .none },
  { cls := 10, slots := #[.int (-21)], vm := .none },
  { cls := 10, slots := #[.int (-20)], vm := .none },
  { cls := 10, slots := #[.int (-19)], vm := .none },
  { cls := 10, slots := #[.int (-18)], vm := .none },
  { cls := 10, slots := #[.int (-17)], vm := .none },
  { cls := 10, slots := #[.int (-16)], vm := .none },
  { cls := 10, slots := #[.int (-15)], vm := .none },
  { cls := 10, slots := #[.int (-14)], vm := .none },
  { cls := 10, slots := #[.int (-13)], vm := .none },
  { cls := 10, slots := #[.int (-12)], vm := .none },
  { cls := 10, slots := #[.int (-11)], vm := .none },
  { cls := 10, slots := #[.int (-10)], vm := .none },
  { cls := 10, slots := #[.int (-9)], vm := .none },
  { cls := 10, slots := #[.int (-8)], vm := .none },
  { cls := 10, slots := #[.int (-7)], vm := .none },
  { cls := 10, slots := #[.int (-6)], vm := .none },
  { cls := 10, slots := #[.int (-5)], vm := .none },
  { cls := 10, slots := #[.int (-4)], vm := .none },
  { cls := 10, slots := #[.int (-3)], vm := .none },
  { cls := 10, slots := #[.int (-2)], vm := .none },
  { cls := 10, slots := #[.int (-1)], vm := .none },
  { cls := 10, slots := #[.int (0)], vm := .none },
  { cls := 10, slots := #[.int (1)], vm := .none },
  { cls := 10, slots := #[.int (2)], vm := .none },
  { cls := 10, slots := #[.int (3)], vm := .none },
  { cls := 10, slots := #[.int (4)], vm := .none },
  { cls := 10, slots := #[.int (5)], vm := .none },
  { cls := 10, slots := #[.int (6)], vm := .none },
  { cls := 10, slots := #[.int (7)], vm := .none },
  { cls := 10, slots := #[.int (8)], vm := .none },
  { cls := 10, slots := #[.int (9)], vm := .none },
  { cls := 10, slots := #[.int (10)], vm := .none },
  { cls := 10, slots := #[.int (11)], vm := .none },
  { cls := 10, slots := #[.int (12)], vm := .none },
  { cls := 10, slots := #[.int (13)], vm := .none },
  { cls := 10, slots := #[.int (14)], vm := .none },
  { cls := 10, slots := #[.int (15)], vm := .none },
  { cls := 10, slots := #[.int (16)], vm := .none },
  { cls := 10, slots := #[.int (17)], vm := .none },
  { cls := 10, slots := #[.int (18)], vm := .none },
  { cls := 10, slots := #[.int (19)], vm := .none },
  { cls := 10, slots := #[.int (20)], vm := .none },
  { cls := 10, slots := #[.int (21)], vm := .none },
  { cls := 10, slots := #[.int (22)], vm := .none },
  { cls := 10, slots := #[.int (23)], vm := .none },
  { cls := 10, slots := #[.int (24)], vm := .none },
  { cls := 10, slots := #[.int (25)], vm := .none },
  { cls := 10, slots := #[.int (26)], vm := .none },
  { cls := 10, slots := #[.int (27)], vm := .none },
  { cls := 10, slots := #[.int (28)], vm := .none },
  { cls := 10, slots := #[.int (29)], vm := .none },
  { cls := 10, slots := #[.int (30)], vm := .none },
  { cls := 10, slots := #[.int (31)], vm := .none },
  { cls := 10, slots := #[.int (32)], vm := .none },
  { cls := 10, slots := #[.int (33)], vm := .none },
  { cls := 10, slots := #[.int (34)], vm := .none },
  { cls := 10, slots := #[.int (35)], vm := .none },
  { cls := 10, slots := #[.int (36)], vm := .none },
  { cls := 10, slots := #[.int (37)], vm := .none },
  { cls := 10, slots := #[.int (38)], vm := .none },
  { cls := 10, slots := #[.int (39)], vm := .none },
  { cls := 10, slots := #[.int (40)], vm := .none },
  { cls := 10, slots := #[.int (41)], vm := .none },
  { cls := 10, slots := #[.int (42)], vm := .none },
  { cls := 10, slots := #[.int (43)], vm := .none },
  { cls := 10, slots := #[.int (44)], vm := .none },
  { cls := 10, slots := #[.int (45)], vm := .none },
  { cls := 10, slots := #[.int (46)], vm := .none },
  { cls := 10, slots := #[.int (47)], vm := .none },
  { cls := 10, slots := #[.int (48)], vm := .none },
  { cls := 10, slots := #[.int (49)], vm := .none },
  { cls := 10, slots := #[.int (50)], vm := .none },
  { cls := 10, slots := #[.int (51)], vm := .none },
  { cls := 10, slots := #[.int (52)], vm := .none },
  { cls := 10, slots := #[.int (53)], vm := .none },
  { cls := 10, slots := #[.int (54)], vm := .none },
  { cls := 10, slots := #[.int (55)], vm := .none },
  { cls := 10, slots := #[.int (56)], vm := .none },
  { cls := 10, slots := #[.int (57)], vm := .none },
  { cls := 10, slots := #[.int (58)], vm := .none },
  { cls := 10, slots := #[.int (59)], vm := .none },
  { cls := 10, slots := #[.int (60)], vm := .none },
  { cls := 10, slots := #[.int (61)], vm := .none },
  { cls := 10, slots := #[.int (62)], vm := .none },
  { cls := 10, slots := #[.int (63)], vm := .none },
  { cls := 10, slots := #[.int (64)], vm := .none },
  { cls := 10, slots := #[.int (65)], vm := .none },
  { cls := 10, slots := #[.int (66)], vm := .none },
  { cls := 10, slots := #[.int (67)], vm := .none },
  { cls := 10, slots := #[.int (68)], vm := .none },
  { cls := 10, slots := #[.int (69)], vm := .none },
  { cls := 10, slots := #[.int (70)], vm := .none },
  { cls := 10, slots := #[.int (71)], vm := .none },
  { cls := 10, slots := #[.int (72)], vm := .none },
  { cls := 10, slots := #[.int (73)], vm := .none },
  { cls := 10, slots := #[.int (74)], vm := .none },
  { cls := 10, slots := #[.int (75)], vm := .none },
  { cls := 10, slots := #[.int (76)], vm := .none },
  { cls := 10, slots := #[.int (77)], vm := .none },
  { cls := 10, slots := #[.int (78)], vm := .none },
  { cls := 10, slots := #[.int (79)], vm := .none },
  { cls := 10, slots := #[.int (80)], vm := .none },
  { cls := 10, slots := #[.int (81)], vm := .none },
  { cls := 10, slots := #[.int (82)], vm := .none },
  { cls := 10, slots := #[.int (83)], vm := .none },
  { cls := 10, slots := #[.int (84)], vm := .none },
  { cls := 10, slots := #[.int (85)], vm := .none },
  { cls := 10, slots := #[.int (86)], vm := .none },
  { cls := 10, slots := #[.int (87)], vm := .none },
  { cls := 10, slots := #[.int (88)], vm := .none },
  { cls := 10, slots := #[.int (89)], vm := .none },
  { cls := 10, slots := #[.int (90)], vm := .none },
  { cls := 10, slots := #[.int (91)], vm := .none },
  { cls := 10, slots := #[.int (92)], vm := .none },
  { cls := 10, slots := #[.int (93)], vm := .none },
  { cls := 10, slots := #[.int (94)], vm := .none },
  { cls := 10, slots := #[.int (95)], vm := .none },
  { cls := 10, slots := #[.int (96)], vm := .none },
  { cls := 10, slots := #[.int (97)], vm := .none },
  { cls := 10, slots := #[.int (98)], vm := .none },
  { cls := 10, slots := #[.int (99)], vm := .none },
  { cls := 10, slots := #[.int (100)], vm := .none },
  { cls := 10, slots := #[.int (101)], vm := .none },
  { cls := 10, slots := #[.int (102)], vm := .none },
  { cls := 10, slots := #[.int (103)], vm := .none },
  { cls := 10, slots := #[.int (104)], vm := .none },
  { cls := 10, slots := #[.int (105)], vm := .none },
  { cls := 10, slots := #[.int (106)], vm := .none },
  { cls := 10, slots := #[.int (107)], vm := .none },
  { cls := 10, slots := #[.int (108)], vm := .none },
  { cls := 10, slots := #[.int (109)], vm := .none },
  { cls := 10, slots := #[.int (110)], vm := .none },
  { cls := 10, slots := #[.int (111)], vm := .none },
  { cls := 10, slots := #[.int (112)], vm := .none },
  { cls := 10, slots := #[.int (113)], vm := .none },
  { cls := 10, slots := #[.int (114)], vm := .none },
  { cls := 10, slots := #[.int (115)], vm := .none },
  { cls := 10, slots := #[.int (116)], vm := .none },
  { cls := 10, slots := #[.int (117)], vm := .none },
  { cls := 10, slots := #[.int (118)], vm := .none },
  { cls := 10, slots := #[.int (119)], vm := .none },
  { cls := 10, slots := #[.int (120)], vm := .none },
  { cls := 10, slots := #[.int (121)], vm := .none },
  { cls := 10, slots := #[.int (122)], vm := .none },
  { cls := 10, slots := #[.int (123)], vm := .none },
  { cls := 10, slots := #[.int (124)], vm := .none },
  { cls := 10, slots := #[.int (125)], vm := .none },
  { cls := 10, slots := #[.int (126)], vm := .none },
  { cls := 10, slots := #[.int (127)], vm := .none }]
def classes : Array Class := #[k0, k1, k2, k3, k4, k5, k6, k7, k8, k9, k10, k11, k12, k13, k14, k15, k16, k17, k18, k19, k20, k21, k22, k23, k24, k25]
def interned : List (Array UInt16 × Addr) := []
def slotsUsed : Nat := 527
def theMethod : MethodId := ⟨1, 2⟩
def args0 : Array Value := #[.int 5, .int 3, .int 5, .int 1, .int 4, .int 300]
def aboutOver (below : List Frame) : State where
  vm := { classes := classes, interned := interned.toArray }
  heap := heap
  slotsUsed := slotsUsed
  threads := #[{ frames := .invoking theMethod args0 :: below }]
def below0 : List Frame := [.native { method := ⟨0, 0⟩, args := #[] }]
def about1 : State := aboutOver below0
def p0 : Program := .bare "" "" ""
def e0 : Env := launch0.env 0 0 0
theorem w_frames : about1.frames = Frame.invoking theMethod args0 :: below0 := rfl
set_option maxRecDepth 65536 in
theorem w_args : argsFit about1.vm theMethod args0 = true := by decide +kernel
set_option maxRecDepth 65536 in
theorem w_heap : heapFits about1 = true := by decide +kernel
set_option maxRecDepth 65536 in
theorem w_runnable : about1.curStatus? = some .runnable := by decide +kernel
set_option maxRecDepth 65536 in
theorem w_alone : about1.alone = true := by decide +kernel
set_option maxRecDepth 65536 in
theorem w_named : about1.methodNamed? x = some theMethod := by decide +kernel
set_option maxRecDepth 65536 in
theorem w_hears : about1.hears theMethod below0 = true := by decide +kernel
set_option maxRecDepth 65536 in
theorem w_ripe : about1.ripe theMethod args0 below0 = true := by decide +kernel
theorem w_running : about1.status = .running := rfl
set_option maxRecDepth 65536 in
theorem w_room : about1.hasRoom e0.platform room_1 = true :=
  launch0.hasRoom_least _ room_1 (by decide +kernel) (by decide +kernel) (by decide +kernel) (by decide +kernel) (by decide +kernel) (by decide +kernel)
theorem allAtoms_all (ts : List Jvm.Cond) (a : Array Jvm.Value) (st : Jvm.State) : (allAtoms ts).before a st = ts.all (fun c => c.before a st) := by
  induction ts with
  | nil => rfl
  | cons c t ih =>
    show (Jvm.Cond.and c (allAtoms t)).before a st = _
    rw [Jvm.Cond.before_and, ih, List.all_cons]
def words1 : List Jvm.Cond := Jvm.Cond.code x code maxLocals ret :: tables_1
/-- a 'code' word, met by the world's own term for the bytes: nothing is compared byte by byte -/
theorem code_word {y : MethodName} {bytes : ByteArray} {mx : Nat} {rt : Option FieldType} {a : Array Value} {s : State} {m : MethodId} {meth : Method} {c : Code} (h1 : s.methodNamed? y = some m) (h2 : s.vm.method? m = some meth) (h3 : meth.code = some c) (h4 : c.code = bytes)
    (h5 : (c.maxLocals == mx && c.exceptionTable.isEmpty && decide (c.maxStack ≤ mostOperands) && decide (meth.sig.returnType = rt) && !meth.locks && decide (parseMethodDescriptor y.desc = some meth.sig)) = true) : (Jvm.Cond.code y bytes mx rt).before a s = true := by
  simp only [Bool.and_eq_true, beq_iff_eq, Bool.not_eq_true', decide_eq_true_eq] at h5
  obtain ⟨⟨⟨⟨⟨g1, g2⟩, g3⟩, g4⟩, g5⟩, g6⟩ := h5
  simp [Cond.before, Cond.holds, Cond.value, h1, h2, h3, h4, g1, g2, g3, g4, g5, g6]
def isCode : Jvm.Cond → Bool
  | .code _ _ _ _ => true
  | _ => false
theorem all_split {L : List Jvm.Cond} {P : Jvm.Cond → Bool} (h1 : L.all (fun c => isCode c || P c) = true) (h2 : ∀ c ∈ L.filter isCode, P c = true) : L.all P = true := by
  refine List.all_eq_true.mpr fun c hc => ?_
  have h := List.all_eq_true.mp h1 c hc
  rcases Bool.eq_false_or_eq_true (isCode c) with hi | hi
  · exact h2 c (List.mem_filter.mpr ⟨hc, hi⟩)
  · simpa [hi] using h
set_option maxRecDepth 65536 in
theorem w_c0 : (Jvm.Cond.code x code maxLocals ret).before args0 about1 = true := code_word (m := ⟨1, 2⟩) (meth := k1m2) (c := k1c2) (by decide +kernel) rfl rfl rfl (by decide +kernel)
set_option maxRecDepth 65536 in
theorem w_c1 : (Jvm.Cond.code ({ cls := "com/example/uni_mvc/unimvc/core/ResultCreatedPinLaw", name := "ch", desc := "(I)C" } : Jvm.MethodName) method_2_code (1 : Nat) (Option.some Jvm.ClassFile.FieldType.char)).before args0 about1 = true := code_word (m := ⟨1, 1⟩) (meth := k1m1) (c := k1c1) (by decide +kernel) rfl rfl rfl (by decide +kernel)
set_option maxRecDepth 65536 in
theorem w_c2 : (Jvm.Cond.code ({ cls := "java/lang/String", name := "<init>", desc := "([C)V" } : Jvm.MethodName) jdk_42_method_3_code (2 : Nat) (Option.none : Option Jvm.ClassFile.FieldType)).before args0 about1 = true := code_word (m := ⟨7, 1⟩) (meth := k7m1) (c := k7c1) (by decide +kernel) rfl rfl rfl (by decide +kernel)
set_option maxRecDepth 65536 in
theorem w_c3 : (Jvm.Cond.code ({ cls := "java/lang/String", name := "<init>", desc := "([CIILjava/lang/Void;)V" } : Jvm.MethodName) jdk_42_method_149_code (6 : Nat) (Option.none : Option Jvm.ClassFile.FieldType)).before args0 about1 = true := code_word (m := ⟨7, 6⟩) (meth := k7m6) (c := k7c6) (by decide +kernel) rfl rfl rfl (by decide +kernel)
set_option maxRecDepth 65536 in
theorem w_c4 : (Jvm.Cond.code ({ cls := "java/lang/Object", name := "<init>", desc := "()V" } : Jvm.MethodName) object_method_1_code (1 : Nat) (Option.none : Option Jvm.ClassFile.FieldType)).before args0 about1 = true := code_word (m := ⟨0, 0⟩) (meth := k0m0) (c := k0c0) (by decide +kernel) rfl rfl rfl (by decide +kernel)
set_option maxRecDepth 65536 in
theorem w_c5 : (Jvm.Cond.code ({ cls := "java/lang/StringUTF16", name := "compress", desc := "([CII)[B" } : Jvm.MethodName) jdk_52_method_16_code (6 : Nat) (Option.some (Jvm.ClassFile.FieldType.array Jvm.ClassFile.FieldType.byte))).before args0 about1 = true := code_word (m := ⟨8, 2⟩) (meth := k8m2) (c := k8c2) (by decide +kernel) rfl rfl rfl (by decide +kernel)
set_option maxRecDepth 65536 in
theorem w_c6 : (Jvm.Cond.code ({ cls := "java/lang/StringUTF16", name := "compress", desc := "([CI[BII)I" } : Jvm.MethodName) jdk_52_method_21_code (7 : Nat) (Option.some Jvm.ClassFile.FieldType.int)).before args0 about1 = true := code_word (m := ⟨8, 3⟩) (meth := k8m3) (c := k8c3) (by decide +kernel) rfl rfl rfl (by decide +kernel)
set_option maxRecDepth 65536 in
theorem w_c7 : (Jvm.Cond.code ({ cls := "java/lang/StringUTF16", name := "coderFromArrayLen", desc := "([BI)B" } : Jvm.MethodName) jdk_52_method_15_code (2 : Nat) (Option.some Jvm.ClassFile.FieldType.byte)).before args0 about1 = true := code_word (m := ⟨8, 1⟩) (meth := k8m1) (c := k8c1) (by decide +kernel) rfl rfl rfl (by decide +kernel)
set_option maxRecDepth 65536 in
theorem w_c8 : (Jvm.Cond.code ({ cls := "java/lang/Integer", name := "valueOf", desc := "(I)Ljava/lang/Integer;" } : Jvm.MethodName) jdk_33_method_22_code (1 : Nat) (Option.some (Jvm.ClassFile.FieldType.object "java/lang/Integer"))).before args0 about1 = true := code_word (m := ⟨10, 0⟩) (meth := k10m0) (c := k10c0) (by decide +kernel) rfl rfl rfl (by decide +kernel)
set_option maxRecDepth 65536 in
theorem w_c9 : (Jvm.Cond.code ({ cls := "com/example/uni_mvc/unimvc/core/Result", name := "created", desc := "(Ljava/lang/String;Ljava/lang/Object;)Lcom/example/uni_mvc/unimvc/core/Result;" } : Jvm.MethodName) prog_31_method_3_code (2 : Nat) (Option.some (Jvm.ClassFile.FieldType.object "com/example/uni_mvc/unimvc/core/Result"))).before args0 about1 = true := code_word (m := ⟨12, 1⟩) (meth := k12m1) (c := k12c1) (by decide +kernel) rfl rfl rfl (by decide +kernel)
set_option maxRecDepth 65536 in
theorem w_c10 : (Jvm.Cond.code ({ cls := "com/example/uni_mvc/unimvc/core/Result", name := "checked", desc := "(Ljava/lang/String;)Ljava/lang/String;" } : Jvm.MethodName) prog_31_method_4_code (3 : Nat) (Option.some (Jvm.ClassFile.FieldType.object "java/lang/String"))).before args0 about1 = true := code_word (m := ⟨12, 2⟩) (meth := k12m2) (c := k12c2) (by decide +kernel) rfl rfl rfl (by decide +kernel)
set_option maxRecDepth 65536 in
theorem w_c11 : (Jvm.Cond.code ({ cls := "java/util/Objects", name := "requireNonNull", desc := "(Ljava/lang/Object;Ljava/lang/String;)Ljava/lang/Object;" } : Jvm.MethodName) jdk_31_method_11_code (2 : Nat) (Option.some (Jvm.ClassFile.FieldType.object "java/lang/Object"))).before args0 about1 = true := code_word (m := ⟨13, 1⟩) (meth := k13m1) (c := k13c1) (by decide +kernel) rfl rfl rfl (by decide +kernel)
set_option maxRecDepth 65536 in
theorem w_c12 : (Jvm.Cond.code ({ cls := "java/lang/String", name := "isEmpty", desc := "()Z" } : Jvm.MethodName) jdk_42_method_55_code (1 : Nat) (Option.some Jvm.ClassFile.FieldType.boolean)).before args0 about1 = true := code_word (m := ⟨7, 3⟩) (meth := k7m3) (c := k7c3) (by decide +kernel) rfl rfl rfl (by decide +kernel)
set_option maxRecDepth 65536 in
theorem w_c13 : (Jvm.Cond.code ({ cls := "java/lang/String", name := "length", desc := "()I" } : Jvm.MethodName) jdk_42_method_54_code (1 : Nat) (Option.some Jvm.ClassFile.FieldType.int)).before args0 about1 = true := code_word (m := ⟨7, 2⟩) (meth := k7m2) (c := k7c2) (by decide +kernel) rfl rfl rfl (by decide +kernel)
set_option maxRecDepth 65536 in
theorem w_c14 : (Jvm.Cond.code ({ cls := "java/lang/String", name := "coder", desc := "()B" } : Jvm.MethodName) jdk_42_method_152_code (1 : Nat) (Option.some Jvm.ClassFile.FieldType.byte)).before args0 about1 = true := code_word (m := ⟨7, 7⟩) (meth := k7m7) (c := k7c7) (by decide +kernel) rfl rfl rfl (by decide +kernel)
set_option maxRecDepth 65536 in
theorem w_c15 : (Jvm.Cond.code ({ cls := "java/lang/String", name := "charAt", desc := "(I)C" } : Jvm.MethodName) jdk_42_method_56_code (2 : Nat) (Option.some Jvm.ClassFile.FieldType.char)).before args0 about1 = true := code_word (m := ⟨7, 4⟩) (meth := k7m4) (c := k7c4) (by decide +kernel) rfl rfl rfl (by decide +kernel)
set_option maxRecDepth 65536 in
theorem w_c16 : (Jvm.Cond.code ({ cls := "java/lang/String", name := "isLatin1", desc := "()Z" } : Jvm.MethodName) jdk_42_method_154_code (1 : Nat) (Option.some Jvm.ClassFile.FieldType.boolean)).before args0 about1 = true := code_word (m := ⟨7, 8⟩) (meth := k7m8) (c := k7c8) (by decide +kernel) rfl rfl rfl (by decide +kernel)
set_option maxRecDepth 65536 in
theorem w_c17 : (Jvm.Cond.code ({ cls := "java/lang/StringLatin1", name := "charAt", desc := "([BI)C" } : Jvm.MethodName) jdk_43_method_2_code (2 : Nat) (Option.some Jvm.ClassFile.FieldType.char)).before args0 about1 = true := code_word (m := ⟨14, 1⟩) (meth := k14m1) (c := k14c1) (by decide +kernel) rfl rfl rfl (by decide +kernel)
set_option maxRecDepth 65536 in
theorem w_c18 : (Jvm.Cond.code ({ cls := "java/lang/String", name := "checkIndex", desc := "(II)V" } : Jvm.MethodName) jdk_42_method_155_code (2 : Nat) (Option.none : Option Jvm.ClassFile.FieldType)).before args0 about1 = true := code_word (m := ⟨7, 9⟩) (meth := k7m9) (c := k7c9) (by decide +kernel) rfl rfl rfl (by decide +kernel)
set_option maxRecDepth 65536 in
theorem w_c19 : (Jvm.Cond.code ({ cls := "jdk/internal/util/Preconditions", name := "checkIndex", desc := "(IILjava/util/function/BiFunction;)I" } : Jvm.MethodName) jdk_41_method_11_code (3 : Nat) (Option.some Jvm.ClassFile.FieldType.int)).before args0 about1 = true := code_word (m := ⟨15, 1⟩) (meth := k15m1) (c := k15c1) (by decide +kernel) rfl rfl rfl (by decide +kernel)
set_option maxRecDepth 65536 in
theorem w_c20 : (Jvm.Cond.code ({ cls := "com/example/uni_mvc/unimvc/core/Result", name := "<init>", desc := "(ILjava/lang/String;Ljava/lang/Object;)V" } : Jvm.MethodName) prog_31_method_1_code (4 : Nat) (Option.none : Option Jvm.ClassFile.FieldType)).before args0 about1 = true := code_word (m := ⟨12, 0⟩) (meth := k12m0) (c := k12c0) (by decide +kernel) rfl rfl rfl (by decide +kernel)
set_option maxRecDepth 65536 in
theorem w_c21 : (Jvm.Cond.code ({ cls := "com/example/uni_mvc/unimvc/core/Result", name := "status", desc := "()I" } : Jvm.MethodName) prog_31_method_7_code (1 : Nat) (Option.some Jvm.ClassFile.FieldType.int)).before args0 about1 = true := code_word (m := ⟨12, 3⟩) (meth := k12m3) (c := k12c3) (by decide +kernel) rfl rfl rfl (by decide +kernel)
set_option maxRecDepth 65536 in
theorem w_c22 : (Jvm.Cond.code ({ cls := "com/example/uni_mvc/unimvc/core/Result", name := "location", desc := "()Ljava/util/Optional;" } : Jvm.MethodName) prog_31_method_8_code (1 : Nat) (Option.some (Jvm.ClassFile.FieldType.object "java/util/Optional"))).before args0 about1 = true := code_word (m := ⟨12, 4⟩) (meth := k12m4) (c := k12c4) (by decide +kernel) rfl rfl rfl (by decide +kernel)
set_option maxRecDepth 65536 in
theorem w_c23 : (Jvm.Cond.code ({ cls := "java/util/Optional", name := "ofNullable", desc := "(Ljava/lang/Object;)Ljava/util/Optional;" } : Jvm.MethodName) jdk_32_method_4_code (1 : Nat) (Option.some (Jvm.ClassFile.FieldType.object "java/util/Optional"))).before args0 about1 = true := code_word (m := ⟨16, 1⟩) (meth := k16m1) (c := k16c1) (by decide +kernel) rfl rfl rfl (by decide +kernel)
set_option maxRecDepth 65536 in
theorem w_c24 : (Jvm.Cond.code ({ cls := "java/util/Optional", name := "<init>", desc := "(Ljava/lang/Object;)V" } : Jvm.MethodName) jdk_32_method_2_code (2 : Nat) (Option.none : Option Jvm.ClassFile.FieldType)).before args0 about1 = true := code_word (m := ⟨16, 0⟩) (meth := k16m0) (c := k16c0) (by decide +kernel) rfl rfl rfl (by decide +kernel)
set_option maxRecDepth 65536 in
theorem w_c25 : (Jvm.Cond.code ({ cls := "java/util/Optional", name := "isPresent", desc := "()Z" } : Jvm.MethodName) jdk_32_method_6_code (1 : Nat) (Option.some Jvm.ClassFile.FieldType.boolean)).before args0 about1 = true := code_word (m := ⟨16, 3⟩) (meth := k16m3) (c := k16c3) (by decide +kernel) rfl rfl rfl (by decide +kernel)
set_option maxRecDepth 65536 in
theorem w_c26 : (Jvm.Cond.code ({ cls := "java/util/Optional", name := "get", desc := "()Ljava/lang/Object;" } : Jvm.MethodName) jdk_32_method_5_code (1 : Nat) (Option.some (Jvm.ClassFile.FieldType.object "java/lang/Object"))).before args0 about1 = true := code_word (m := ⟨16, 2⟩) (meth := k16m2) (c := k16c2) (by decide +kernel) rfl rfl rfl (by decide +kernel)
set_option maxRecDepth 65536 in
theorem w_c27 : (Jvm.Cond.code ({ cls := "java/lang/String", name := "equals", desc := "(Ljava/lang/Object;)Z" } : Jvm.MethodName) jdk_42_method_66_code (3 : Nat) (Option.some Jvm.ClassFile.FieldType.boolean)).before args0 about1 = true := code_word (m := ⟨7, 5⟩) (meth := k7m5) (c := k7c5) (by decide +kernel) rfl rfl rfl (by decide +kernel)
set_option maxRecDepth 65536 in
theorem w_c28 : (Jvm.Cond.code ({ cls := "com/example/uni_mvc/unimvc/core/Result", name := "page", desc := "()Ljava/util/Optional;" } : Jvm.MethodName) prog_31_method_9_code (1 : Nat) (Option.some (Jvm.ClassFile.FieldType.object "java/util/Optional"))).before args0 about1 = true := code_word (m := ⟨12, 5⟩) (meth := k12m5) (c := k12c5) (by decide +kernel) rfl rfl rfl (by decide +kernel)
set_option maxRecDepth 65536 in
theorem w_c29 : (Jvm.Cond.code ({ cls := "java/lang/Integer", name := "<init>", desc := "(I)V" } : Jvm.MethodName) jdk_33_method_23_code (2 : Nat) (Option.none : Option Jvm.ClassFile.FieldType)).before args0 about1 = true := code_word (m := ⟨10, 1⟩) (meth := k10m1) (c := k10c1) (by decide +kernel) rfl rfl rfl (by decide +kernel)
set_option maxRecDepth 65536 in
theorem w_c30 : (Jvm.Cond.code ({ cls := "java/lang/Number", name := "<init>", desc := "()V" } : Jvm.MethodName) jdk_18_method_1_code (1 : Nat) (Option.none : Option Jvm.ClassFile.FieldType)).before args0 about1 = true := code_word (m := ⟨9, 0⟩) (meth := k9m0) (c := k9c0) (by decide +kernel) rfl rfl rfl (by decide +kernel)
def codes1 : List Jvm.Cond := [Jvm.Cond.code x code maxLocals ret, Jvm.Cond.code ({ cls := "com/example/uni_mvc/unimvc/core/ResultCreatedPinLaw", name := "ch", desc := "(I)C" } : Jvm.MethodName) method_2_code (1 : Nat) (Option.some Jvm.ClassFile.FieldType.char), Jvm.Cond.code ({ cls := "java/lang/String", name := "<init>", desc := "([C)V" } : Jvm.MethodName) jdk_42_method_3_code (2 : Nat) (Option.none : Option Jvm.ClassFile.FieldType), Jvm.Cond.code ({ cls := "java/lang/String", name := "<init>", desc := "([CIILjava/lang/Void;)V" } : Jvm.MethodName) jdk_42_method_149_code (6 : Nat) (Option.none : Option Jvm.ClassFile.FieldType), Jvm.Cond.code ({ cls := "java/lang/Object", name := "<init>", desc := "()V" } : Jvm.MethodName) object_method_1_code (1 : Nat) (Option.none : Option Jvm.ClassFile.FieldType), Jvm.Cond.code ({ cls := "java/lang/StringUTF16", name := "compress", desc := "([CII)[B" } : Jvm.MethodName) jdk_52_method_16_code (6 : Nat) (Option.some (Jvm.ClassFile.FieldType.array Jvm.ClassFile.FieldType.byte)), Jvm.Cond.code ({ cls := "java/lang/StringUTF16", name := "compress", desc := "([CI[BII)I" } : Jvm.MethodName) jdk_52_method_21_code (7 : Nat) (Option.some Jvm.ClassFile.FieldType.int), Jvm.Cond.code ({ cls := "java/lang/StringUTF16", name := "coderFromArrayLen", desc := "([BI)B" } : Jvm.MethodName) jdk_52_method_15_code (2 : Nat) (Option.some Jvm.ClassFile.FieldType.byte), Jvm.Cond.code ({ cls := "java/lang/Integer", name := "valueOf", desc := "(I)Ljava/lang/Integer;" } : Jvm.MethodName) jdk_33_method_22_code (1 : Nat) (Option.some (Jvm.ClassFile.FieldType.object "java/lang/Integer")), Jvm.Cond.code ({ cls := "com/example/uni_mvc/unimvc/core/Result", name := "created", desc := "(Ljava/lang/String;Ljava/lang/Object;)Lcom/example/uni_mvc/unimvc/core/Result;" } : Jvm.MethodName) prog_31_method_3_code (2 : Nat) (Option.some (Jvm.ClassFile.FieldType.object "com/example/uni_mvc/unimvc/core/Result")), Jvm.Cond.code ({ cls := "com/example/uni_mvc/unimvc/core/Result", name := "checked", desc := "(Ljava/lang/String;)Ljava/lang/String;" } : Jvm.MethodName) prog_31_method_4_code (3 : Nat) (Option.some (Jvm.ClassFile.FieldType.object "java/lang/String")), Jvm.Cond.code ({ cls := "java/util/Objects", name := "requireNonNull", desc := "(Ljava/lang/Object;Ljava/lang/String;)Ljava/lang/Object;" } : Jvm.MethodName) jdk_31_method_11_code (2 : Nat) (Option.some (Jvm.ClassFile.FieldType.object "java/lang/Object")), Jvm.Cond.code ({ cls := "java/lang/String", name := "isEmpty", desc := "()Z" } : Jvm.MethodName) jdk_42_method_55_code (1 : Nat) (Option.some Jvm.ClassFile.FieldType.boolean), Jvm.Cond.code ({ cls := "java/lang/String", name := "length", desc := "()I" } : Jvm.MethodName) jdk_42_method_54_code (1 : Nat) (Option.some Jvm.ClassFile.FieldType.int), Jvm.Cond.code ({ cls := "java/lang/String", name := "coder", desc := "()B" } : Jvm.MethodName) jdk_42_method_152_code (1 : Nat) (Option.some Jvm.ClassFile.FieldType.byte), Jvm.Cond.code ({ cls := "java/lang/String", name := "charAt", desc := "(I)C" } : Jvm.MethodName) jdk_42_method_56_code (2 : Nat) (Option.some Jvm.ClassFile.FieldType.char), Jvm.Cond.code ({ cls := "java/lang/String", name := "isLatin1", desc := "()Z" } : Jvm.MethodName) jdk_42_method_154_code (1 : Nat) (Option.some Jvm.ClassFile.FieldType.boolean), Jvm.Cond.code ({ cls := "java/lang/StringLatin1", name := "charAt", desc := "([BI)C" } : Jvm.MethodName) jdk_43_method_2_code (2 : Nat) (Option.some Jvm.ClassFile.FieldType.char), Jvm.Cond.code ({ cls := "java/lang/String", name := "checkIndex", desc := "(II)V" } : Jvm.MethodName) jdk_42_method_155_code (2 : Nat) (Option.none : Option Jvm.ClassFile.FieldType), Jvm.Cond.code ({ cls := "jdk/internal/util/Preconditions", name := "checkIndex", desc := "(IILjava/util/function/BiFunction;)I" } : Jvm.MethodName) jdk_41_method_11_code (3 : Nat) (Option.some Jvm.ClassFile.FieldType.int), Jvm.Cond.code ({ cls := "com/example/uni_mvc/unimvc/core/Result", name := "<init>", desc := "(ILjava/lang/String;Ljava/lang/Object;)V" } : Jvm.MethodName) prog_31_method_1_code (4 : Nat) (Option.none : Option Jvm.ClassFile.FieldType), Jvm.Cond.code ({ cls := "com/example/uni_mvc/unimvc/core/Result", name := "status", desc := "()I" } : Jvm.MethodName) prog_31_method_7_code (1 : Nat) (Option.some Jvm.ClassFile.FieldType.int), Jvm.Cond.code ({ cls := "com/example/uni_mvc/unimvc/core/Result", name := "location", desc := "()Ljava/util/Optional;" } : Jvm.MethodName) prog_31_method_8_code (1 : Nat) (Option.some (Jvm.ClassFile.FieldType.object "java/util/Optional")), Jvm.Cond.code ({ cls := "java/util/Optional", name := "ofNullable", desc := "(Ljava/lang/Object;)Ljava/util/Optional;" } : Jvm.MethodName) jdk_32_method_4_code (1 : Nat) (Option.some (Jvm.ClassFile.FieldType.object "java/util/Optional")), Jvm.Cond.code ({ cls := "java/util/Optional", name := "<init>", desc := "(Ljava/lang/Object;)V" } : Jvm.MethodName) jdk_32_method_2_code (2 : Nat) (Option.none : Option Jvm.ClassFile.FieldType), Jvm.Cond.code ({ cls := "java/util/Optional", name := "isPresent", desc := "()Z" } : Jvm.MethodName) jdk_32_method_6_code (1 : Nat) (Option.some Jvm.ClassFile.FieldType.boolean), Jvm.Cond.code ({ cls := "java/util/Optional", name := "get", desc := "()Ljava/lang/Object;" } : Jvm.MethodName) jdk_32_method_5_code (1 : Nat) (Option.some (Jvm.ClassFile.FieldType.object "java/lang/Object")), Jvm.Cond.code ({ cls := "java/lang/String", name := "equals", desc := "(Ljava/lang/Object;)Z" } : Jvm.MethodName) jdk_42_method_66_code (3 : Nat) (Option.some Jvm.ClassFile.FieldType.boolean), Jvm.Cond.code ({ cls := "com/example/uni_mvc/unimvc/core/Result", name := "page", desc := "()Ljava/util/Optional;" } : Jvm.MethodName) prog_31_method_9_code (1 : Nat) (Option.some (Jvm.ClassFile.FieldType.object "java/util/Optional")), Jvm.Cond.code ({ cls := "java/lang/Integer", name := "<init>", desc := "(I)V" } : Jvm.MethodName) jdk_33_method_23_code (2 : Nat) (Option.none : Option Jvm.ClassFile.FieldType), Jvm.Cond.code ({ cls := "java/lang/Number", name := "<init>", desc := "()V" } : Jvm.MethodName) jdk_18_method_1_code (1 : Nat) (Option.none : Option Jvm.ClassFile.FieldType)]
set_option maxRecDepth 65536 in
theorem codes_eq : words1.filter isCode = codes1 := rfl
theorem w_codes : ∀ c ∈ words1.filter isCode, c.before args0 about1 = true := by
  rw [codes_eq]
  intro c hc
  simp only [codes1, List.mem_cons, List.not_mem_nil, or_false] at hc
  rcases hc with rfl | rfl | rfl | rfl | rfl | rfl | rfl | rfl | rfl | rfl | rfl | rfl | rfl | rfl | rfl | rfl | rfl | rfl | rfl | rfl | rfl | rfl | rfl | rfl | rfl | rfl | rfl | rfl | rfl | rfl | rfl
  · exact w_c0
  · exact w_c1
  · exact w_c2
  · exact w_c3
  · exact w_c4
  · exact w_c5
  · exact w_c6
  · exact w_c7
  · exact w_c8
  · exact w_c9
  · exact w_c10
  · exact w_c11
  · exact w_c12
  · exact w_c13
  · exact w_c14
  · exact w_c15
  · exact w_c16
  · exact w_c17
  · exact w_c18
  · exact w_c19
  · exact w_c20
  · exact w_c21
  · exact w_c22
  · exact w_c23
  · exact w_c24
  · exact w_c25
  · exact w_c26
  · exact w_c27
  · exact w_c28
  · exact w_c29
  · exact w_c30
set_option maxRecDepth 65536 in
theorem w_t1 : (words1.take 24).all (fun c => isCode c || c.before args0 about1) = true := by decide +kernel
set_option maxRecDepth 65536 in
theorem w_t2 : ((words1.drop 24).take 24).all (fun c => isCode c || c.before args0 about1) = true := by decide +kernel
set_option maxRecDepth 65536 in
theorem w_t3 : (((words1.drop 24).drop 24).take 24).all (fun c => isCode c || c.before args0 about1) = true := by decide +kernel
set_option maxRecDepth 65536 in
theorem w_t4 : ((((words1.drop 24).drop 24).drop 24).take 24).all (fun c => isCode c || c.before args0 about1) = true := by decide +kernel
set_option maxRecDepth 65536 in
theorem w_t5 : (((((words1.drop 24).drop 24).drop 24).drop 24).take 24).all (fun c => isCode c || c.before args0 about1) = true := by decide +kernel
set_option maxRecDepth 65536 in
theorem w_t6 : ((((((words1.drop 24).drop 24).drop 24).drop 24).drop 24).take 24).all (fun c => isCode c || c.before args0 about1) = true := by decide +kernel
set_option maxRecDepth 65536 in
theorem w_t7 : ((((((words1.drop 24).drop 24).drop 24).drop 24).drop 24).drop 24).all (fun c => isCode c || c.before args0 about1) = true := by decide +kernel
theorem w_tables : (allAtoms (Jvm.Cond.code x code maxLocals ret :: tables_1)).before args0 about1 = true := by
  rw [allAtoms_all]
  show words1.all (fun c => c.before args0 about1) = true
  refine all_split ?_ w_codes
  rw [← List.take_append_drop 24 words1, List.all_append, w_t1, ← List.take_append_drop 24 (words1.drop 24), List.all_append, w_t2, ← List.take_append_drop 24 ((words1.drop 24).drop 24), List.all_append, w_t3, ← List.take_append_drop 24 (((words1.drop 24).drop 24).drop 24), List.all_append, w_t4, ← List.take_append_drop 24 ((((words1.drop 24).drop 24).drop 24).drop 24), List.all_append, w_t5, ← List.take_append_drop 24 (((((words1.drop 24).drop 24).drop 24).drop 24).drop 24), List.all_append, w_t6, w_t7]
  rfl
set_option maxRecDepth 65536 in
theorem w_rest : rest_1_c.before args0 about1 = true := by decide +kernel
set_option maxRecDepth 65536 in
theorem w_case : (Jvm.Cond.and given_1 narrow_1).before args0 about1 = true := by decide +kernel
theorem w_applies : (headSpec (Jvm.Cond.code x code maxLocals ret :: tables_1) room_1).applies x e0.platform about1 = true :=
  (Spec.applies_iff w_frames).mpr ⟨w_running, w_runnable, w_alone, w_named, w_hears, w_ripe, w_room, w_tables⟩
theorem atStart : AtStart classFile x code maxLocals ret World_1 tables_1 room_1 Calls_1 rest_1 Pre_1 launch0 p0 e0 about1 theMethod args0 below0 :=
  ⟨lists_1, trivial, launch0.admits_env _ _ _, launch0.least_env, fairChoices_fair.cas, fairChoices_fair.clock, w_frames, w_args, w_heap, w_applies, trivial, w_rest, w_case⟩
end start1
theorem witness_1 : WitnessClaimed_1 := ⟨start1.p0, start1.e0, start1.about1, start1.theMethod, start1.args0, start1.below0, start1.atStart⟩
end Jvm.Pilot.@@N@@
